import JvmDerived
import JvmDerived.Pilot.@@N@@Statement
import JvmDerived.Pilot.@@N@@Code
set_option linter.unusedVariables false
set_option linter.unusedSimpArgs false
namespace Jvm.Pilot.@@N@@
open Jvm Jvm.ClassFile Sem Op Lib Jvm.Free Jvm.Stand Jvm.LawKit Jvm.RoadKit Bundle Jvm.Pilot.@@N@@.Jvm.D
section Own
variable {p : Program} {l : Launch} {e : Env} {R : Room} {s : State} {m : MethodId} {args : Array Value} {below : List Frame} {meth : Method} {c : Code} {T T' : State} {cells slots : Nat} {Z : State} {bytes : ByteArray} {mL : Nat} {ret : Option FieldType} {own nm : String} {Q : Option Value → Heap → Prop} {cC cS : Nat} {pc : Nat} {Ls : Array Slot} {st : List Value} {a0 : Array Value} {g g' : JFrame}
/-- the walk stands at T, so many cells and slots made, nothing old written -/
def Wk (l : Launch) (Z : State) (R : Room) (bytes : ByteArray) (mL : Nat) (ret : Option FieldType) (own nm : String) (p : Program) (e : Env) (s : State) (m : MethodId) (args : Array Value) (below : List Frame) (meth : Method) (c : Code) (T : State) (cells slots : Nat) : Prop :=
  (p.tables.exec = Jvm.exec ∧ c.code = bytes ∧ c.maxLocals = mL ∧ meth.sig.returnType = ret ∧ meth.locks = false ∧ s.vm.findClass own = some m.cls ∧ meth.name = nm ∧ Z.Warmed39 s.vm) ∧
  ∃ locs, Stand p l e R s m args below meth c T locs cells slots ∧ Fr Z.heap.size locs ∧ Ext Z.heap T.heap
/-- from T with frame g the method comes to its end, and Q holds there -/
def Ends (p : Program) (e : Env) (below : List Frame) (s : State) (Z : State) (Q : Option Value → Heap → Prop) (cC cS : Nat) (T : State) (g : JFrame) : Prop :=
  ∃ t o, Steps p.tables e below (T.setTop g) t ∧ t.status = .running ∧ Ended t below o ∧ ∃ v L, o = .returned v ∧ (Fr Z.heap.size L ∧ Ext Z.heap t.heap ∧ Q v t.heap) ∧ FrameEnd s o t L cC cS
/-- a method's contract -/
def Ct (l : Launch) (Z : State) (y : MethodName) (bytes : ByteArray) (mL : Nat) (ret : Option FieldType) (rm : Room) (as' : Array Value) (h : Heap) (Q : Option Value → Heap → Prop) : Prop :=
  ∀ ws, MetFree l y (head1 (Jvm.Cond.code y bytes mL ret :: ws) rm) (fun a U => a = as' ∧ Z.Warmed39 U.vm ∧ U.heap = h) (fun _ _ _ _ _ => True) (fun _ U o U' => ∃ v L, o = .returned v ∧ (Fr Z.heap.size L ∧ Ext Z.heap U'.heap ∧ Q v U'.heap) ∧ FrameEnd U o U' L rm.cells rm.slots)
theorem Wk.hx (X : Wk l Z R bytes mL ret own nm p e s m args below meth c T cells slots) : p.tables.exec = Jvm.exec := X.1.1
theorem Wk.hb (X : Wk l Z R bytes mL ret own nm p e s m args below meth c T cells slots) {pc : Nat} {r : Except DecodeError (Instr × Nat)} (h : decode bytes pc = r) : decode c.code pc = r := X.1.2.1 ▸ h
theorem Wk.hown (X : Wk l Z R bytes mL ret own nm p e s m args below meth c T cells slots) : s.vm.findClass own = some m.cls := X.1.2.2.2.2.2.1
theorem Wk.hZ (X : Wk l Z R bytes mL ret own nm p e s m args below meth c T cells slots) : Z.Warmed39 s.vm := X.1.2.2.2.2.2.2.2
theorem Wk.at (X : Wk l Z R bytes mL ret own nm p e s m args below meth c T cells slots) : At T m c below := by obtain ⟨-, _, X, -⟩ := X; exact X.here
theorem Wk.old (X : Wk l Z R bytes mL ret own nm p e s m args below meth c T cells slots) : Ext Z.heap T.heap := by obtain ⟨-, _, -, -, X⟩ := X; exact X
theorem Wk.le (X : Wk l Z R bytes mL ret own nm p e s m args below meth c T cells slots) : Z.heap.size ≤ T.heap.size := X.old.1
theorem Wk.size (X : Wk l Z R bytes mL ret own nm p e s m args below meth c T cells slots) (h : Ls.size = mL) {pc : Nat} {st : List Value} : (mkF m pc Ls st).locals.size = c.maxLocals := h.trans X.1.2.2.1.symm
theorem Wk.more (X : Wk l Z R bytes mL ret own nm p e s m args below meth c T cells slots) {cells' slots' : Nat} (h1 : cells ≤ cells') (h2 : slots ≤ slots') : Wk l Z R bytes mL ret own nm p e s m args below meth c T cells' slots' := by
  obtain ⟨q, locs, Y, r⟩ := X; exact ⟨q, locs, Y.more h1 h2, r⟩
theorem E_by (f : ∀ target, Steps p.tables e below (T'.setTop g') target → Steps p.tables e below (T.setTop g) target) (k : Ends p e below s Z Q cC cS T' g') : Ends p e below s Z Q cC cS T g := by
  obtain ⟨t, o, h1, r⟩ := k; exact ⟨t, o, f _ h1, r⟩
theorem E_tr (f : Steps p.tables e below (T.setTop g) (T'.setTop g')) (k : Ends p e below s Z Q cC cS T' g') : Ends p e below s Z Q cC cS T g := E_by (fun _ q => f.trans q) k
theorem Keep.of_ext {h h' : Heap} (E : Ext h h') : Keep h h' [] := (Keep.refl h []).ext E
theorem own_keq {h h1 h2 : Heap} {ws : List Addr} (K : Keep h h1 ws) (q : h2 = h1) : Keep h h2 ws := q ▸ K
theorem Keep.old {h h' : Heap} {ws : List Addr} (O : Ext Z.heap h) (K : Keep h h' ws) (q : ∀ x ∈ ws, Z.heap.size ≤ x) : Ext Z.heap h' := ⟨Nat.le_trans O.1 K.1, fun x c r => K.2.1 x c (O.2 x c r) fun z => absurd (Array.getElem?_eq_some_iff.mp r).1 (Nat.not_lt.mpr (q x z))⟩
theorem Ct.of_body {y1 y2 y3 : String} {rm : Room} {as' : Array Value} {h : Heap} (pn : plainFor ⟨y1, y2, y3⟩ = true) (O : Ext Z.heap h) (ef : ∀ m, entryFrame m as' mL = mkF m 0 Ls [])
    (k : ∀ {p : Program} {e : Env} {s : State} {m : MethodId} {below : List Frame} {meth : Method} {c : Code} {T : State}, Wk l Z rm bytes mL ret y1 y2 p e s m as' below meth c T 0 0 → T.heap = h → Ends p e below s Z Q rm.cells rm.slots T (mkF m 0 Ls [])) : Ct l Z ⟨y1, y2, y3⟩ bytes mL ret rm as' h Q := by
  intro ws
  refine MetFree.of_bodySF pn hisR ?_
  intro p e s m args below meth c s₁ Bd hml0 hP hK
  obtain ⟨rfl, hZ, hh⟩ := hP
  have e0 : s₁.heap = h := by rw [← hh, Bd.state]; rfl
  have X : Wk l Z rm bytes mL ret y1 y2 p e s m args below meth c s₁ 0 0 := ⟨⟨Bd.exec, Bd.bytes, hml0, Bd.returns, Bd.notSynchronized, findClass_of_methodNamed Bd.named, (name_of_methodNamed Bd.named Bd.method).1, hZ⟩, [], Stand.of_body Bd, Fr.nil _, e0 ▸ O⟩
  obtain ⟨t, o, h1, r⟩ := k X e0
  exact ⟨t, o, castTop (ef m) h1, r⟩
theorem Ct.back {y : MethodName} {rm : Room} {as' : Array Value} {h : Heap} {mL' : Nat} {bytes' : ByteArray} {ret' : Option FieldType} {Q' : Option Value → Heap → Prop} (hC : Ct l Z y bytes' mL' ret' rm as' h Q') {len W : Nat}
    (hZ : Z.Warmed39 s.vm) (wc : (Jvm.Cond.code y bytes' mL' ret').before a0 Z = true) (wz : (Jvm.Cond.initialized y.cls).before a0 Z = true) (hf : rm.frames + 1 ≤ R.frames) (hl : W + (mL' + 11) + rm.locals ≤ R.locals) :
    Back l R p e below s args y len W (fun A a => a = as' ∧ A.U.heap = h ∧ A.cells + rm.cells ≤ R.cells ∧ A.slots + rm.slots ≤ R.slots)
      (fun A _ v B => ∃ L, (Fr Z.heap.size L ∧ Ext Z.heap B.U.heap ∧ Q' v B.U.heap) ∧ B.locs = A.locs ++ L ∧ B.cells = A.cells + rm.cells ∧ B.slots = A.slots + rm.slots) :=
  backOf (Q := fun v h L => Fr Z.heap.size L ∧ Ext Z.heap h ∧ Q' v h) (hC []) hZ wc wz hf hl

theorem E_aloadN (X : Wk l Z R bytes mL ret own nm p e s m args below meth c T cells slots) {j : Fin 4} {v : Value} (hd : decode bytes pc = .ok (.aload_n j, 1)) (hl : Ls[j.val]? = some (.val v)) (hv : v.isRef = true) {pc' : Nat} (hp : pc + 1 = pc') (k : Ends p e below s Z Q cC cS T (mkF m pc' Ls (v :: st))) : Ends p e below s Z Q cC cS T (mkF m pc Ls (st)) := by
  subst hp; exact E_by (fun _ q => XS.aloadN X.at X.hx rfl (X.hb hd) hl hv q) k
theorem E_aload (X : Wk l Z R bytes mL ret own nm p e s m args below meth c T cells slots) {j : Nat} {v : Value} (hd : decode bytes pc = .ok (.aload j, 2)) (hl : Ls[j]? = some (.val v)) (hv : v.isRef = true) {pc' : Nat} (hp : pc + 2 = pc') (k : Ends p e below s Z Q cC cS T (mkF m pc' Ls (v :: st))) : Ends p e below s Z Q cC cS T (mkF m pc Ls (st)) := by
  subst hp; exact E_by (fun _ q => XS.aload X.at X.hx rfl (X.hb hd) hl hv q) k
theorem E_iloadN (X : Wk l Z R bytes mL ret own nm p e s m args below meth c T cells slots) {j : Fin 4} {v : Int32} (hd : decode bytes pc = .ok (.iload_n j, 1)) (hl : Ls[j.val]? = some (.val (.int v))) {pc' : Nat} (hp : pc + 1 = pc') (k : Ends p e below s Z Q cC cS T (mkF m pc' Ls (.int v :: st))) : Ends p e below s Z Q cC cS T (mkF m pc Ls (st)) := by
  subst hp; exact E_by (fun _ q => XS.iloadN X.at X.hx rfl (X.hb hd) hl q) k
theorem E_iload (X : Wk l Z R bytes mL ret own nm p e s m args below meth c T cells slots) {j : Nat} {v : Int32} (hd : decode bytes pc = .ok (.iload j, 2)) (hl : Ls[j]? = some (.val (.int v))) {pc' : Nat} (hp : pc + 2 = pc') (k : Ends p e below s Z Q cC cS T (mkF m pc' Ls (.int v :: st))) : Ends p e below s Z Q cC cS T (mkF m pc Ls (st)) := by
  subst hp; exact E_by (fun _ q => XS.iload X.at X.hx rfl (X.hb hd) hl q) k
theorem E_aconstNull (X : Wk l Z R bytes mL ret own nm p e s m args below meth c T cells slots) (hd : decode bytes pc = .ok (.aconst_null, 1)) {pc' : Nat} (hp : pc + 1 = pc') (k : Ends p e below s Z Q cC cS T (mkF m pc' Ls (.null :: st))) : Ends p e below s Z Q cC cS T (mkF m pc Ls (st)) := by
  subst hp; exact E_by (fun _ q => XS.aconstNull X.at X.hx rfl (X.hb hd) q) k
theorem E_iconst (X : Wk l Z R bytes mL ret own nm p e s m args below meth c T cells slots) {i : Int} {v : Int32} (hd : decode bytes pc = .ok (.iconst i, 1)) (hv : Int32.ofInt i = v) {pc' : Nat} (hp : pc + 1 = pc') (k : Ends p e below s Z Q cC cS T (mkF m pc' Ls (.int v :: st))) : Ends p e below s Z Q cC cS T (mkF m pc Ls st) := by
  subst hp hv; exact E_by (fun _ q => XS.iconst X.at X.hx rfl (X.hb hd) q) k
theorem E_bipush (X : Wk l Z R bytes mL ret own nm p e s m args below meth c T cells slots) {i : Int} {v : Int32} (hd : decode bytes pc = .ok (.bipush i, 2)) (hv : (Int8.ofInt i).toInt32 = v) {pc' : Nat} (hp : pc + 2 = pc') (k : Ends p e below s Z Q cC cS T (mkF m pc' Ls (.int v :: st))) : Ends p e below s Z Q cC cS T (mkF m pc Ls st) := by
  subst hp hv; exact E_by (fun _ q => XS.bipush X.at X.hx rfl (X.hb hd) q) k
theorem E_sipush (X : Wk l Z R bytes mL ret own nm p e s m args below meth c T cells slots) {i : Int} {v : Int32} (hd : decode bytes pc = .ok (.sipush i, 3)) (hv : (Int16.ofInt i).toInt32 = v) {pc' : Nat} (hp : pc + 3 = pc') (k : Ends p e below s Z Q cC cS T (mkF m pc' Ls (.int v :: st))) : Ends p e below s Z Q cC cS T (mkF m pc Ls st) := by
  subst hp hv; exact E_by (fun _ q => XS.sipush X.at X.hx rfl (X.hb hd) q) k
theorem E_iadd (X : Wk l Z R bytes mL ret own nm p e s m args below meth c T cells slots) {x y v : Int32} (hd : decode bytes pc = .ok (.iadd, 1)) (hv : x + y = v) {pc' : Nat} (hp : pc + 1 = pc') (k : Ends p e below s Z Q cC cS T (mkF m pc' Ls (.int v :: st))) : Ends p e below s Z Q cC cS T (mkF m pc Ls (.int y :: .int x :: st)) := by
  subst hp hv; exact E_by (fun _ q => XS.iadd X.at X.hx rfl (X.hb hd) rfl q) k
theorem E_isub (X : Wk l Z R bytes mL ret own nm p e s m args below meth c T cells slots) {x y v : Int32} (hd : decode bytes pc = .ok (.isub, 1)) (hv : x - y = v) {pc' : Nat} (hp : pc + 1 = pc') (k : Ends p e below s Z Q cC cS T (mkF m pc' Ls (.int v :: st))) : Ends p e below s Z Q cC cS T (mkF m pc Ls (.int y :: .int x :: st)) := by
  subst hp hv; exact E_by (fun _ q => XS.isub X.at X.hx rfl (X.hb hd) rfl q) k
theorem E_imul (X : Wk l Z R bytes mL ret own nm p e s m args below meth c T cells slots) {x y v : Int32} (hd : decode bytes pc = .ok (.imul, 1)) (hv : x * y = v) {pc' : Nat} (hp : pc + 1 = pc') (k : Ends p e below s Z Q cC cS T (mkF m pc' Ls (.int v :: st))) : Ends p e below s Z Q cC cS T (mkF m pc Ls (.int y :: .int x :: st)) := by
  subst hp hv; exact E_by (fun _ q => XS.imul X.at X.hx rfl (X.hb hd) rfl q) k
theorem E_iand (X : Wk l Z R bytes mL ret own nm p e s m args below meth c T cells slots) {x y v : Int32} (hd : decode bytes pc = .ok (.iand, 1)) (hv : x &&& y = v) {pc' : Nat} (hp : pc + 1 = pc') (k : Ends p e below s Z Q cC cS T (mkF m pc' Ls (.int v :: st))) : Ends p e below s Z Q cC cS T (mkF m pc Ls (.int y :: .int x :: st)) := by
  subst hp hv; exact E_by (fun _ q => XS.iand X.at X.hx rfl (X.hb hd) rfl q) k
theorem E_ior (X : Wk l Z R bytes mL ret own nm p e s m args below meth c T cells slots) {x y v : Int32} (hd : decode bytes pc = .ok (.ior, 1)) (hv : x ||| y = v) {pc' : Nat} (hp : pc + 1 = pc') (k : Ends p e below s Z Q cC cS T (mkF m pc' Ls (.int v :: st))) : Ends p e below s Z Q cC cS T (mkF m pc Ls (.int y :: .int x :: st)) := by
  subst hp hv; exact E_by (fun _ q => XS.ior X.at X.hx rfl (X.hb hd) rfl q) k
theorem E_ixor (X : Wk l Z R bytes mL ret own nm p e s m args below meth c T cells slots) {x y v : Int32} (hd : decode bytes pc = .ok (.ixor, 1)) (hv : x ^^^ y = v) {pc' : Nat} (hp : pc + 1 = pc') (k : Ends p e below s Z Q cC cS T (mkF m pc' Ls (.int v :: st))) : Ends p e below s Z Q cC cS T (mkF m pc Ls (.int y :: .int x :: st)) := by
  subst hp hv; exact E_by (fun _ q => XS.ixor X.at X.hx rfl (X.hb hd) rfl q) k
theorem E_ishl (X : Wk l Z R bytes mL ret own nm p e s m args below meth c T cells slots) {x y v : Int32} (hd : decode bytes pc = .ok (.ishl, 1)) (hv : x <<< (y &&& 31) = v) {pc' : Nat} (hp : pc + 1 = pc') (k : Ends p e below s Z Q cC cS T (mkF m pc' Ls (.int v :: st))) : Ends p e below s Z Q cC cS T (mkF m pc Ls (.int y :: .int x :: st)) := by
  subst hp hv; exact E_by (fun _ q => XS.ishl X.at X.hx rfl (X.hb hd) rfl q) k
theorem E_ishr (X : Wk l Z R bytes mL ret own nm p e s m args below meth c T cells slots) {x y v : Int32} (hd : decode bytes pc = .ok (.ishr, 1)) (hv : x >>> (y &&& 31) = v) {pc' : Nat} (hp : pc + 1 = pc') (k : Ends p e below s Z Q cC cS T (mkF m pc' Ls (.int v :: st))) : Ends p e below s Z Q cC cS T (mkF m pc Ls (.int y :: .int x :: st)) := by
  subst hp hv; exact E_by (fun _ q => XS.ishr X.at X.hx rfl (X.hb hd) rfl q) k
theorem E_iushr (X : Wk l Z R bytes mL ret own nm p e s m args below meth c T cells slots) {x y v : Int32} (hd : decode bytes pc = .ok (.iushr, 1)) (hv : (x.toUInt32 >>> (y &&& 31).toUInt32).toInt32 = v) {pc' : Nat} (hp : pc + 1 = pc') (k : Ends p e below s Z Q cC cS T (mkF m pc' Ls (.int v :: st))) : Ends p e below s Z Q cC cS T (mkF m pc Ls (.int y :: .int x :: st)) := by
  subst hp hv; exact E_by (fun _ q => XS.iushr X.at X.hx rfl (X.hb hd) rfl q) k
theorem E_ineg (X : Wk l Z R bytes mL ret own nm p e s m args below meth c T cells slots) {x v : Int32} (hd : decode bytes pc = .ok (.ineg, 1)) (hv : -x = v) {pc' : Nat} (hp : pc + 1 = pc') (k : Ends p e below s Z Q cC cS T (mkF m pc' Ls (.int v :: st))) : Ends p e below s Z Q cC cS T (mkF m pc Ls (.int x :: st)) := by
  subst hp hv; exact E_by (fun _ q => XS.ineg X.at X.hx rfl (X.hb hd) rfl q) k
theorem E_i2c (X : Wk l Z R bytes mL ret own nm p e s m args below meth c T cells slots) {x v : Int32} (hd : decode bytes pc = .ok (.i2c, 1)) (hv : x.toUInt32.toUInt16.toUInt32.toInt32 = v) {pc' : Nat} (hp : pc + 1 = pc') (k : Ends p e below s Z Q cC cS T (mkF m pc' Ls (.int v :: st))) : Ends p e below s Z Q cC cS T (mkF m pc Ls (.int x :: st)) := by
  subst hp hv; exact E_by (fun _ q => XS.i2c X.at X.hx rfl (X.hb hd) rfl q) k
theorem E_i2b (X : Wk l Z R bytes mL ret own nm p e s m args below meth c T cells slots) {x v : Int32} (hd : decode bytes pc = .ok (.i2b, 1)) (hv : x.toInt8.toInt32 = v) {pc' : Nat} (hp : pc + 1 = pc') (k : Ends p e below s Z Q cC cS T (mkF m pc' Ls (.int v :: st))) : Ends p e below s Z Q cC cS T (mkF m pc Ls (.int x :: st)) := by
  subst hp hv; exact E_by (fun _ q => XS.i2b X.at X.hx rfl (X.hb hd) rfl q) k
theorem E_i2s (X : Wk l Z R bytes mL ret own nm p e s m args below meth c T cells slots) {x v : Int32} (hd : decode bytes pc = .ok (.i2s, 1)) (hv : x.toInt16.toInt32 = v) {pc' : Nat} (hp : pc + 1 = pc') (k : Ends p e below s Z Q cC cS T (mkF m pc' Ls (.int v :: st))) : Ends p e below s Z Q cC cS T (mkF m pc Ls (.int x :: st)) := by
  subst hp hv; exact E_by (fun _ q => XS.i2s X.at X.hx rfl (X.hb hd) rfl q) k
theorem E_dup (X : Wk l Z R bytes mL ret own nm p e s m args below meth c T cells slots) {v : Value} (hd : decode bytes pc = .ok (.dup, 1)) (hc : v.category = 1) {pc' : Nat} (hp : pc + 1 = pc') (k : Ends p e below s Z Q cC cS T (mkF m pc' Ls (v :: v :: st))) : Ends p e below s Z Q cC cS T (mkF m pc Ls (v :: st)) := by
  subst hp; exact E_by (fun _ q => XS.dup X.at X.hx rfl (X.hb hd) rfl hc q) k
theorem E_pop (X : Wk l Z R bytes mL ret own nm p e s m args below meth c T cells slots) {v : Value} (hd : decode bytes pc = .ok (.pop, 1)) (hc : v.category = 1) {pc' : Nat} (hp : pc + 1 = pc') (k : Ends p e below s Z Q cC cS T (mkF m pc' Ls (st))) : Ends p e below s Z Q cC cS T (mkF m pc Ls (v :: st)) := by
  subst hp; exact E_by (fun _ q => XS.pop X.at X.hx rfl (X.hb hd) rfl hc q) k
theorem E_istoreN (X : Wk l Z R bytes mL ret own nm p e s m args below meth c T cells slots) {j : Fin 4} {x : Int32} (hd : decode bytes pc = .ok (.istore_n j, 1)) {l' : Array Slot} (hl : storeLocals Ls j.val (.int x) = some l') {pc' : Nat} (hp : pc + 1 = pc') (k : Ends p e below s Z Q cC cS T (mkF m pc' l' (st))) : Ends p e below s Z Q cC cS T (mkF m pc Ls (.int x :: st)) := by
  subst hp; exact E_by (fun _ q => XS.istoreN X.at X.hx rfl (X.hb hd) rfl hl q) k
theorem E_istore (X : Wk l Z R bytes mL ret own nm p e s m args below meth c T cells slots) {j : Nat} {x : Int32} (hd : decode bytes pc = .ok (.istore j, 2)) {l' : Array Slot} (hl : storeLocals Ls j (.int x) = some l') {pc' : Nat} (hp : pc + 2 = pc') (k : Ends p e below s Z Q cC cS T (mkF m pc' l' (st))) : Ends p e below s Z Q cC cS T (mkF m pc Ls (.int x :: st)) := by
  subst hp; exact E_by (fun _ q => XS.istore X.at X.hx rfl (X.hb hd) rfl hl q) k
theorem E_astoreN (X : Wk l Z R bytes mL ret own nm p e s m args below meth c T cells slots) {j : Fin 4} {x : Value} (hd : decode bytes pc = .ok (.astore_n j, 1)) (hv : x.isRef = true) {l' : Array Slot} (hl : storeLocals Ls j.val x = some l') {pc' : Nat} (hp : pc + 1 = pc') (k : Ends p e below s Z Q cC cS T (mkF m pc' l' (st))) : Ends p e below s Z Q cC cS T (mkF m pc Ls (x :: st)) := by
  subst hp; exact E_by (fun _ q => XS.astoreN X.at X.hx rfl (X.hb hd) rfl hv hl q) k
theorem E_astore (X : Wk l Z R bytes mL ret own nm p e s m args below meth c T cells slots) {j : Nat} {x : Value} (hd : decode bytes pc = .ok (.astore j, 2)) (hv : x.isRef = true) {l' : Array Slot} (hl : storeLocals Ls j x = some l') {pc' : Nat} (hp : pc + 2 = pc') (k : Ends p e below s Z Q cC cS T (mkF m pc' l' (st))) : Ends p e below s Z Q cC cS T (mkF m pc Ls (x :: st)) := by
  subst hp; exact E_by (fun _ q => XS.astore X.at X.hx rfl (X.hb hd) rfl hv hl q) k
theorem E_iinc (X : Wk l Z R bytes mL ret own nm p e s m args below meth c T cells slots) {j : Nat} {i : Int} {x y : Int32} (hd : decode bytes pc = .ok (.iinc j i, 3)) (hy : x + Int32.ofInt i = y) (hl : Ls[j]? = some (.val (.int x))) {l' : Array Slot} (hl' : storeLocals Ls j (.int y) = some l') {pc' : Nat} (hp : pc + 3 = pc') (k : Ends p e below s Z Q cC cS T (mkF m pc' l' st)) : Ends p e below s Z Q cC cS T (mkF m pc Ls st) := by
  subst hp hy; exact E_by (fun _ q => XS.iinc X.at X.hx rfl (X.hb hd) hl hl' q) k
theorem E_irem (X : Wk l Z R bytes mL ret own nm p e s m args below meth c T cells slots) {x y v : Int32} (hd : decode bytes pc = .ok (.irem, 1)) (hy : y ≠ 0) (hv : x % y = v) {pc' : Nat} (hp : pc + 1 = pc') (k : Ends p e below s Z Q cC cS T (mkF m pc' Ls (.int v :: st))) : Ends p e below s Z Q cC cS T (mkF m pc Ls (.int y :: .int x :: st)) := by
  subst hp hv; obtain ⟨q, locs, Y, r⟩ := id X; exact E_by (fun _ k => iremM Y X.hx rfl (X.hb hd) rfl hy k) k
theorem E_idiv (X : Wk l Z R bytes mL ret own nm p e s m args below meth c T cells slots) {x y v : Int32} (hd : decode bytes pc = .ok (.idiv, 1)) (hy : y ≠ 0) (hv : x / y = v) {pc' : Nat} (hp : pc + 1 = pc') (k : Ends p e below s Z Q cC cS T (mkF m pc' Ls (.int v :: st))) : Ends p e below s Z Q cC cS T (mkF m pc Ls (.int y :: .int x :: st)) := by
  subst hp hv; exact E_by (fun _ k => XS.idiv X.at X.hx rfl (X.hb hd) rfl hy k) k
theorem E_goto (X : Wk l Z R bytes mL ret own nm p e s m args below meth c T cells slots) {o : Int} (hd : decode bytes pc = .ok (.goto o, 3)) {pc' : Nat} (ho : 0 ≤ (pc : Int) + o) (hp : ((pc : Int) + o).toNat = pc') (k : Ends p e below s Z Q cC cS T (mkF m pc' Ls st)) : Ends p e below s Z Q cC cS T (mkF m pc Ls st) :=
  E_by (fun _ q => XS.goto X.at X.hx rfl (pc0 := pc) rfl (X.hb hd) ho hp q) k
theorem E_ifT (X : Wk l Z R bytes mL ret own nm p e s m args below meth c T cells slots) {cd : ClassFile.Cond} {o : Int} {x : Int32} (hd : decode bytes pc = .ok (.ifCond cd o, 3)) (hc : ifCond.holds cd x = true) {pc' : Nat} (ho : 0 ≤ (pc : Int) + o) (hp : ((pc : Int) + o).toNat = pc') (k : Ends p e below s Z Q cC cS T (mkF m pc' Ls st)) : Ends p e below s Z Q cC cS T (mkF m pc Ls (.int x :: st)) :=
  E_by (fun _ q => XS.ifYes X.at X.hx rfl (pc0 := pc) rfl (X.hb hd) rfl hc ho hp q) k
theorem E_ifF (X : Wk l Z R bytes mL ret own nm p e s m args below meth c T cells slots) {cd : ClassFile.Cond} {o : Int} {x : Int32} (hd : decode bytes pc = .ok (.ifCond cd o, 3)) (hc : ifCond.holds cd x = false) {pc' : Nat} (hp : pc + 3 = pc') (k : Ends p e below s Z Q cC cS T (mkF m pc' Ls st)) : Ends p e below s Z Q cC cS T (mkF m pc Ls (.int x :: st)) := by
  subst hp; exact E_by (fun _ q => XS.ifNo X.at X.hx rfl (X.hb hd) rfl hc q) k
theorem E_icT (X : Wk l Z R bytes mL ret own nm p e s m args below meth c T cells slots) {cd : ClassFile.Cond} {o : Int} {x y : Int32} (hd : decode bytes pc = .ok (.if_icmp cd o, 3)) (hc : if_icmp.holds cd x y = true) {pc' : Nat} (ho : 0 ≤ (pc : Int) + o) (hp : ((pc : Int) + o).toNat = pc') (k : Ends p e below s Z Q cC cS T (mkF m pc' Ls st)) : Ends p e below s Z Q cC cS T (mkF m pc Ls (.int y :: .int x :: st)) :=
  E_by (fun _ q => XS.icmpYes X.at X.hx rfl (pc0 := pc) rfl (X.hb hd) rfl hc ho hp q) k
theorem E_icF (X : Wk l Z R bytes mL ret own nm p e s m args below meth c T cells slots) {cd : ClassFile.Cond} {o : Int} {x y : Int32} (hd : decode bytes pc = .ok (.if_icmp cd o, 3)) (hc : if_icmp.holds cd x y = false) {pc' : Nat} (hp : pc + 3 = pc') (k : Ends p e below s Z Q cC cS T (mkF m pc' Ls st)) : Ends p e below s Z Q cC cS T (mkF m pc Ls (.int y :: .int x :: st)) := by
  subst hp; exact E_by (fun _ q => XS.icmpNo X.at X.hx rfl (X.hb hd) rfl hc q) k
theorem E_nullT (X : Wk l Z R bytes mL ret own nm p e s m args below meth c T cells slots) {o : Int} (hd : decode bytes pc = .ok (.ifnull o, 3)) {pc' : Nat} (ho : 0 ≤ (pc : Int) + o) (hp : ((pc : Int) + o).toNat = pc') (k : Ends p e below s Z Q cC cS T (mkF m pc' Ls st)) : Ends p e below s Z Q cC cS T (mkF m pc Ls (.null :: st)) :=
  E_by (fun _ q => XS.ifnullYes X.at X.hx rfl (pc0 := pc) rfl (X.hb hd) rfl ho hp q) k
theorem E_nullF (X : Wk l Z R bytes mL ret own nm p e s m args below meth c T cells slots) {o : Int} {b : Addr} (hd : decode bytes pc = .ok (.ifnull o, 3)) {pc' : Nat} (hp : pc + 3 = pc') (k : Ends p e below s Z Q cC cS T (mkF m pc' Ls st)) : Ends p e below s Z Q cC cS T (mkF m pc Ls (.ref b :: st)) := by
  subst hp; exact E_by (fun _ q => XS.ifnullNo X.at X.hx rfl (X.hb hd) rfl q) k
theorem E_nonnullT (X : Wk l Z R bytes mL ret own nm p e s m args below meth c T cells slots) {o : Int} {b : Addr} (hd : decode bytes pc = .ok (.ifnonnull o, 3)) {pc' : Nat} (ho : 0 ≤ (pc : Int) + o) (hp : ((pc : Int) + o).toNat = pc') (k : Ends p e below s Z Q cC cS T (mkF m pc' Ls st)) : Ends p e below s Z Q cC cS T (mkF m pc Ls (.ref b :: st)) :=
  E_by (fun _ q => XT.nonnullYes X.at X.hx rfl (pc0 := pc) rfl (X.hb hd) rfl rfl (fun q => nomatch q) ho hp q) k
theorem E_nonnullF (X : Wk l Z R bytes mL ret own nm p e s m args below meth c T cells slots) {o : Int} (hd : decode bytes pc = .ok (.ifnonnull o, 3)) {pc' : Nat} (hp : pc + 3 = pc') (k : Ends p e below s Z Q cC cS T (mkF m pc' Ls st)) : Ends p e below s Z Q cC cS T (mkF m pc Ls (.null :: st)) := by
  subst hp; exact E_by (fun _ q => XT.nonnullNo X.at X.hx rfl (X.hb hd) rfl rfl q) k
theorem E_acmp (X : Wk l Z R bytes mL ret own nm p e s m args below meth c T cells slots) {cd : ACond} {o : Int} {x y : Value} (hd : decode bytes pc = .ok (.if_acmp cd o, 3)) (h1 : x.isRef = true) (h2 : y.isRef = true) (same : Bool) (hq : decide (x = y) = same) {pc' : Nat} (ho : 0 ≤ (pc : Int) + o) (hp : pc' = if acV cd same = true then ((pc : Int) + o).toNat else pc + 3) (k : Ends p e below s Z Q cC cS T (mkF m pc' Ls st)) : Ends p e below s Z Q cC cS T (mkF m pc Ls (y :: x :: st)) := by
  obtain ⟨_, locs, Y, r⟩ := id X; exact E_by (fun _ q => acmp Y X.hx rfl h1 h2 (pc0 := pc) rfl (X.hb hd) rfl hq ho hp q) k
theorem E_ldcI (X : Wk l Z R bytes mL ret own nm p e s m args below meth c T cells slots) {ix : Nat} {v : Int32} (hd : decode bytes pc = .ok (.ldc ix, 2)) (w : (Jvm.Cond.constant own ix v).before a0 Z = true) {pc' : Nat} (hp : pc + 2 = pc') (k : Ends p e below s Z Q cC cS T (mkF m pc' Ls (.int v :: st))) : Ends p e below s Z Q cC cS T (mkF m pc Ls st) := by
  subst hp; obtain ⟨_, locs, Y, r⟩ := id X; exact E_by (fun _ q => Y.ldcI X.hx X.hown (mvT X.hZ w) rfl (X.hb hd) q) k
theorem E_new (X : Wk l Z R bytes mL ret own nm p e s m args below meth c T cells slots) {C : String} {ix n : Nat} (hd : decode bytes pc = .ok (.new ix, 3)) (w1 : (Jvm.Cond.classLink own ix C).before a0 Z = true) (w2 : (Jvm.Cond.instantiable C n).before a0 Z = true) (w3 : (Jvm.Cond.initialized C).before a0 Z = true) (hc : cells + 1 ≤ R.cells) (hs : slots + n ≤ R.slots) {pc' : Nat} (hp : pc + 3 = pc')
    (k : ∀ (T' : State) (b : Addr), Wk l Z R bytes mL ret own nm p e s m args below meth c T' (cells + 1) (slots + n) → b = T.heap.size → Keep T.heap T'.heap [] → Exa Z T'.heap b C → (∀ {O nm d : String} {ty : FieldType}, Laid Z a0 C O nm d → parseFieldDescriptor d = some ty → Fld Z T'.heap b O nm d (defaultValue ty)) → Ends p e below s Z Q cC cS T' (mkF m pc' Ls (.ref b :: st))) : Ends p e below s Z Q cC cS T (mkF m pc Ls st) := by
  subst hp; obtain ⟨q0, locs, Y, N, O⟩ := id X
  obtain ⟨T', h', Y', rfl, E, A, D, -, stp⟩ := newO Y X.hx X.hZ X.hown w1 w2 w3 rfl (g := mkF m pc Ls st) rfl (X.hb hd) hc hs
  exact E_by stp (k T' _ ⟨q0, locs, Y', N, Keep.old O (Keep.of_ext E) all0⟩ rfl (Keep.of_ext E) A D)
theorem E_newarray (X : Wk l Z R bytes mL ret own nm p e s m args below meth c T cells slots) {aty : ArrayType} {n : Int32} (cap : Nat) (hd : decode bytes pc = .ok (.newarray aty, 2)) (w : (Jvm.Cond.arrayClass (newarray.typeOf aty)).before a0 Z = true) (hn : ¬ n < 0) (hcap : n.toNatClampNeg ≤ cap) (hb : cap * 8 ≤ 536870912) (hc : cells + 1 ≤ R.cells) (hs : slots + cap ≤ R.slots) {pc' : Nat} (hp : pc + 2 = pc')
    (k : ∀ (T' : State) (b : Addr) (kA : ClassId), Wk l Z R bytes mL ret own nm p e s m args below meth c T' (cells + 1) (slots + cap) → b = T.heap.size → Keep T.heap T'.heap [] → Arv Z T'.heap b kA (newarray.typeOf aty) n [] (defaultValue (newarray.typeOf aty)) → Ends p e below s Z Q cC cS T' (mkF m pc' Ls (.ref b :: st))) : Ends p e below s Z Q cC cS T (mkF m pc Ls (.int n :: st)) := by
  subst hp; obtain ⟨q0, locs, Y, N, O⟩ := id X
  obtain ⟨T', h', kA, Y', rfl, E, A, stp⟩ := newP Y X.hx X.hZ w rfl (g := mkF m pc Ls (.int n :: st)) rfl (X.hb hd) rfl hn hcap hb hc hs
  exact E_by stp (k T' _ kA ⟨q0, locs, Y', N, Keep.old O (Keep.of_ext E) all0⟩ rfl (Keep.of_ext E) (Arv.new A hn))
theorem E_iastore (X : Wk l Z R bytes mL ret own nm p e s m args below meth c T cells slots) {a : Addr} {kA : ClassId} {z j x : Int32} {vs : List Value} {dv : Value} {y : Int32} (i : Nat) (hd : decode bytes pc = .ok (.iastore, 1)) (hy : x = y) (V : Arv Z T.heap a kA .int z vs dv) (hj : ¬ j < 0 ∧ j < z) (hi : j.toNatClampNeg = i) (hl : i < vs.length) (ha : Z.heap.size ≤ a) {pc' : Nat} (hp : pc + 1 = pc')
    (k : ∀ (T' : State), Wk l Z R bytes mL ret own nm p e s m args below meth c T' cells slots → Keep T.heap T'.heap [a] → Arv Z T'.heap a kA .int z (vs.set i (.int y)) dv → Ends p e below s Z Q cC cS T' (mkF m pc' Ls st)) : Ends p e below s Z Q cC cS T (mkF m pc Ls (.int x :: .int j :: .ref a :: st)) := by
  subst hp hy; obtain ⟨q0, locs, Y, N, O⟩ := id X
  obtain ⟨cl, A, q1, S1, N1, H1, G1⟩ := V
  obtain ⟨T', h', Y', rfl, W, stp⟩ := stI Y X.hx X.hZ rfl A (j := j) (x := x) (inb_of S1 hj) (g := mkF m pc Ls (.int x :: .int j :: .ref a :: st)) rfl rfl (X.hb hd)
  exact E_by stp (k T' ⟨q0, _, Y', Fr.snoc Y' N ha, Keep.old O (Keep.of_wr W) (allS ha all0)⟩ (Keep.of_wr W) (Arv.set A q1 S1 N1 H1 G1 (rfl) W i hi hl))
theorem E_castore (X : Wk l Z R bytes mL ret own nm p e s m args below meth c T cells slots) {a : Addr} {kA : ClassId} {z j x : Int32} {vs : List Value} {dv : Value} {y : Int32} (i : Nat) (hd : decode bytes pc = .ok (.castore, 1)) (hy : nar .char x = y) (V : Arv Z T.heap a kA .char z vs dv) (hj : ¬ j < 0 ∧ j < z) (hi : j.toNatClampNeg = i) (hl : i < vs.length) (ha : Z.heap.size ≤ a) {pc' : Nat} (hp : pc + 1 = pc')
    (k : ∀ (T' : State), Wk l Z R bytes mL ret own nm p e s m args below meth c T' cells slots → Keep T.heap T'.heap [a] → Arv Z T'.heap a kA .char z (vs.set i (.int y)) dv → Ends p e below s Z Q cC cS T' (mkF m pc' Ls st)) : Ends p e below s Z Q cC cS T (mkF m pc Ls (.int x :: .int j :: .ref a :: st)) := by
  subst hp hy; obtain ⟨q0, locs, Y, N, O⟩ := id X
  obtain ⟨cl, A, q1, S1, N1, H1, G1⟩ := V
  obtain ⟨T', h', Y', rfl, W, stp⟩ := stC Y X.hx X.hZ rfl A (j := j) (x := x) (inb_of S1 hj) (g := mkF m pc Ls (.int x :: .int j :: .ref a :: st)) rfl rfl (X.hb hd)
  exact E_by stp (k T' ⟨q0, _, Y', Fr.snoc Y' N ha, Keep.old O (Keep.of_wr W) (allS ha all0)⟩ (Keep.of_wr W) (Arv.set A q1 S1 N1 H1 G1 (fits_nar_char _) W i hi hl))
theorem E_bastore (X : Wk l Z R bytes mL ret own nm p e s m args below meth c T cells slots) {a : Addr} {kA : ClassId} {z j x : Int32} {vs : List Value} {dv : Value} {y : Int32} (i : Nat) (hd : decode bytes pc = .ok (.bastore, 1)) (hy : x.toInt8.toInt32 = y) (V : Arv Z T.heap a kA .byte z vs dv) (hj : ¬ j < 0 ∧ j < z) (hi : j.toNatClampNeg = i) (hl : i < vs.length) (ha : Z.heap.size ≤ a) {pc' : Nat} (hp : pc + 1 = pc')
    (k : ∀ (T' : State), Wk l Z R bytes mL ret own nm p e s m args below meth c T' cells slots → Keep T.heap T'.heap [a] → Arv Z T'.heap a kA .byte z (vs.set i (.int y)) dv → Ends p e below s Z Q cC cS T' (mkF m pc' Ls st)) : Ends p e below s Z Q cC cS T (mkF m pc Ls (.int x :: .int j :: .ref a :: st)) := by
  subst hp hy; obtain ⟨q0, locs, Y, N, O⟩ := id X
  obtain ⟨cl, A, q1, S1, N1, H1, G1⟩ := V
  obtain ⟨T', h', Y', rfl, W, stp⟩ := stB Y X.hx X.hZ rfl A (j := j) (x := x) (inb_of S1 hj) (g := mkF m pc Ls (.int x :: .int j :: .ref a :: st)) rfl rfl (X.hb hd)
  exact E_by stp (k T' ⟨q0, _, Y', Fr.snoc Y' N ha, Keep.old O (Keep.of_wr W) (allS ha all0)⟩ (Keep.of_wr W) (Arv.set A q1 S1 N1 H1 G1 (fits_nar_byte _) W i hi hl))
theorem E_iastoreA (X : Wk l Z R bytes mL ret own nm p e s m args below meth c T cells slots) {a : Addr} {kA : ClassId} {z j x : Int32} {vs : List Value} {dv : Value} {y : Int32} (hd : decode bytes pc = .ok (.iastore, 1)) (hy : x = y) (V : Arv Z T.heap a kA .int z vs dv) (hj : ¬ j < 0 ∧ j < z) (hi : j.toNatClampNeg = vs.length) (ha : Z.heap.size ≤ a) {pc' : Nat} (hp : pc + 1 = pc')
    (k : ∀ (T' : State), Wk l Z R bytes mL ret own nm p e s m args below meth c T' cells slots → Keep T.heap T'.heap [a] → Arv Z T'.heap a kA .int z (vs ++ [.int y]) dv → Ends p e below s Z Q cC cS T' (mkF m pc' Ls st)) : Ends p e below s Z Q cC cS T (mkF m pc Ls (.int x :: .int j :: .ref a :: st)) := by
  refine E_iastore X vs.length hd hy (V.pad (pad_rep vs dv 1)) hj hi (by simp) ha hp fun T' X' K' V' => k T' X' K' ?_
  have q : (vs ++ List.replicate 1 dv).set vs.length (.int y) = vs ++ [.int y] := by simp
  rw [q] at V'; exact V'
theorem E_castoreA (X : Wk l Z R bytes mL ret own nm p e s m args below meth c T cells slots) {a : Addr} {kA : ClassId} {z j x : Int32} {vs : List Value} {dv : Value} {y : Int32} (hd : decode bytes pc = .ok (.castore, 1)) (hy : nar .char x = y) (V : Arv Z T.heap a kA .char z vs dv) (hj : ¬ j < 0 ∧ j < z) (hi : j.toNatClampNeg = vs.length) (ha : Z.heap.size ≤ a) {pc' : Nat} (hp : pc + 1 = pc')
    (k : ∀ (T' : State), Wk l Z R bytes mL ret own nm p e s m args below meth c T' cells slots → Keep T.heap T'.heap [a] → Arv Z T'.heap a kA .char z (vs ++ [.int y]) dv → Ends p e below s Z Q cC cS T' (mkF m pc' Ls st)) : Ends p e below s Z Q cC cS T (mkF m pc Ls (.int x :: .int j :: .ref a :: st)) := by
  refine E_castore X vs.length hd hy (V.pad (pad_rep vs dv 1)) hj hi (by simp) ha hp fun T' X' K' V' => k T' X' K' ?_
  have q : (vs ++ List.replicate 1 dv).set vs.length (.int y) = vs ++ [.int y] := by simp
  rw [q] at V'; exact V'
theorem E_bastoreA (X : Wk l Z R bytes mL ret own nm p e s m args below meth c T cells slots) {a : Addr} {kA : ClassId} {z j x : Int32} {vs : List Value} {dv : Value} {y : Int32} (hd : decode bytes pc = .ok (.bastore, 1)) (hy : x.toInt8.toInt32 = y) (V : Arv Z T.heap a kA .byte z vs dv) (hj : ¬ j < 0 ∧ j < z) (hi : j.toNatClampNeg = vs.length) (ha : Z.heap.size ≤ a) {pc' : Nat} (hp : pc + 1 = pc')
    (k : ∀ (T' : State), Wk l Z R bytes mL ret own nm p e s m args below meth c T' cells slots → Keep T.heap T'.heap [a] → Arv Z T'.heap a kA .byte z (vs ++ [.int y]) dv → Ends p e below s Z Q cC cS T' (mkF m pc' Ls st)) : Ends p e below s Z Q cC cS T (mkF m pc Ls (.int x :: .int j :: .ref a :: st)) := by
  refine E_bastore X vs.length hd hy (V.pad (pad_rep vs dv 1)) hj hi (by simp) ha hp fun T' X' K' V' => k T' X' K' ?_
  have q : (vs ++ List.replicate 1 dv).set vs.length (.int y) = vs ++ [.int y] := by simp
  rw [q] at V'; exact V'
theorem E_iaload (X : Wk l Z R bytes mL ret own nm p e s m args below meth c T cells slots) {a : Addr} {kA : ClassId} {z j : Int32} {vs : List Value} {dv v : Value} (hd : decode bytes pc = .ok (.iaload, 1)) (V : Arv Z T.heap a kA .int z vs dv) (hj : ¬ j < 0 ∧ j < z) (hv : vs.getD j.toNatClampNeg dv = v) {pc' : Nat} (hp : pc + 1 = pc')
    (k : Ends p e below s Z Q cC cS T (mkF m pc' Ls (v :: st))) : Ends p e below s Z Q cC cS T (mkF m pc Ls (.int j :: .ref a :: st)) := by
  subst hp; obtain ⟨q0, locs, Y, N, O⟩ := id X
  obtain ⟨cl, A, q1, S1, N1, H1, G1⟩ := V
  exact E_by (Y.iaload X.hx A.1 (State.isArrayOf_alike X.hZ.alike A.2.1) A.2.2 (inb_of S1 hj) (Has.at H1 (inb_of S1 hj) hv) (g := mkF m pc Ls (.int j :: .ref a :: st)) rfl rfl (X.hb hd)) k
theorem E_caload (X : Wk l Z R bytes mL ret own nm p e s m args below meth c T cells slots) {a : Addr} {kA : ClassId} {z j : Int32} {vs : List Value} {dv v : Value} (hd : decode bytes pc = .ok (.caload, 1)) (V : Arv Z T.heap a kA .char z vs dv) (hj : ¬ j < 0 ∧ j < z) (hv : vs.getD j.toNatClampNeg dv = v) {pc' : Nat} (hp : pc + 1 = pc')
    (k : Ends p e below s Z Q cC cS T (mkF m pc' Ls (v :: st))) : Ends p e below s Z Q cC cS T (mkF m pc Ls (.int j :: .ref a :: st)) := by
  subst hp; obtain ⟨q0, locs, Y, N, O⟩ := id X
  obtain ⟨cl, A, q1, S1, N1, H1, G1⟩ := V
  exact E_by (Y.caload X.hx A.1 (State.isArrayOf_alike X.hZ.alike A.2.1) A.2.2 (inb_of S1 hj) (Has.at H1 (inb_of S1 hj) hv) (g := mkF m pc Ls (.int j :: .ref a :: st)) rfl rfl (X.hb hd)) k
theorem E_baload (X : Wk l Z R bytes mL ret own nm p e s m args below meth c T cells slots) {a : Addr} {kA : ClassId} {z j : Int32} {vs : List Value} {dv v : Value} (hd : decode bytes pc = .ok (.baload, 1)) (V : Arv Z T.heap a kA .byte z vs dv) (hj : ¬ j < 0 ∧ j < z) (hv : vs.getD j.toNatClampNeg dv = v) {pc' : Nat} (hp : pc + 1 = pc')
    (k : Ends p e below s Z Q cC cS T (mkF m pc' Ls (v :: st))) : Ends p e below s Z Q cC cS T (mkF m pc Ls (.int j :: .ref a :: st)) := by
  subst hp; obtain ⟨q0, locs, Y, N, O⟩ := id X
  obtain ⟨cl, A, q1, S1, N1, H1, G1⟩ := V
  exact E_by (Y.baloadBytes X.hx A.1 (State.isArrayOf_alike X.hZ.alike A.2.1) A.2.2 (inb_of S1 hj) (Has.at H1 (inb_of S1 hj) hv) (g := mkF m pc Ls (.int j :: .ref a :: st)) rfl rfl (X.hb hd)) k
theorem E_aaload (X : Wk l Z R bytes mL ret own nm p e s m args below meth c T cells slots) {a : Addr} {kA : ClassId} {z j : Int32} {vs : List Value} {dv v : Value} {ty : FieldType} (hd : decode bytes pc = .ok (.aaload, 1)) (V : Arv Z T.heap a kA ty z vs dv) (hty : ty.isReference = true) (hj : ¬ j < 0 ∧ j < z) (hv : vs.getD j.toNatClampNeg dv = v) {pc' : Nat} (hp : pc + 1 = pc')
    (k : Ends p e below s Z Q cC cS T (mkF m pc' Ls (v :: st))) : Ends p e below s Z Q cC cS T (mkF m pc Ls (.int j :: .ref a :: st)) := by
  subst hp; obtain ⟨q0, locs, Y, N, O⟩ := id X
  obtain ⟨cl, A, q1, S1, N1, H1, G1⟩ := V
  exact E_by (Y.aaload X.hx A.1 (State.isArrayOf_alike X.hZ.alike A.2.1) hty A.2.2 (inb_of S1 hj) (Has.at H1 (inb_of S1 hj) hv) (g := mkF m pc Ls (.int j :: .ref a :: st)) rfl rfl (X.hb hd)) k
theorem E_arraylength (X : Wk l Z R bytes mL ret own nm p e s m args below meth c T cells slots) {a : Addr} {kA : ClassId} {z : Int32} {vs : List Value} {dv : Value} {ty : FieldType} (hd : decode bytes pc = .ok (.arraylength, 1)) (V : Arv Z T.heap a kA ty z vs dv) {pc' : Nat} (hp : pc + 1 = pc')
    (k : Ends p e below s Z Q cC cS T (mkF m pc' Ls (.int z :: st))) : Ends p e below s Z Q cC cS T (mkF m pc Ls (.ref a :: st)) := by
  subst hp; obtain ⟨q0, locs, Y, N, O⟩ := id X
  obtain ⟨cl, A, q1, S1, N1, H1, G1⟩ := V
  refine E_by (Y.arraylength X.hx A.1 (State.isArrayOf_alike X.hZ.alike A.2.1) (g := mkF m pc Ls (.ref a :: st)) rfl rfl (X.hb hd)) ?_
  rw [len_of S1 N1]; exact k
theorem E_getfield (X : Wk l Z R bytes mL ret own nm p e s m args below meth c T cells slots) {a : Addr} {O n d R0 : String} {ix : Nat} {v : Value} (hd : decode bytes pc = .ok (.getfield ix, 3)) (w : (Jvm.Cond.fieldLink own ix R0 n d).before a0 Z = true) (via : Via Z R0 O n d) (F : Fld Z T.heap a O n d v) {pc' : Nat} (hp : pc + 3 = pc')
    (k : ∀ (T' : State), Wk l Z R bytes mL ret own nm p e s m args below meth c T' cells slots → T'.heap = T.heap → Ends p e below s Z Q cC cS T' (mkF m pc' Ls (v :: st))) : Ends p e below s Z Q cC cS T (mkF m pc Ls (.ref a :: st)) := by
  subst hp; obtain ⟨q0, locs, Y, N, Od⟩ := id X
  obtain ⟨T', Y', e1, stp⟩ := getF Y X.hx X.hZ X.hown (host := "") (Or.inl w) via rfl F (g := mkF m pc Ls (.ref a :: st)) rfl rfl (X.hb hd)
  exact E_by stp (k T' ⟨q0, locs, Y', N, e1 ▸ Od⟩ e1)
theorem E_getstatic (X : Wk l Z R bytes mL ret own nm p e s m args below meth c T cells slots) {O n d R0 : String} {ix : Nat} {v : Value} (hd : decode bytes pc = .ok (.getstatic ix, 3)) (w : (Jvm.Cond.fieldLink own ix R0 n d).before a0 Z = true) (via : Via Z R0 O n d) (F : Sta Z Z.heap O n d v) {pc' : Nat} (hp : pc + 3 = pc')
    (k : ∀ (T' : State), Wk l Z R bytes mL ret own nm p e s m args below meth c T' cells slots → T'.heap = T.heap → Ends p e below s Z Q cC cS T' (mkF m pc' Ls (v :: st))) : Ends p e below s Z Q cC cS T (mkF m pc Ls st) := by
  subst hp; obtain ⟨q0, locs, Y, N, Od⟩ := id X
  obtain ⟨T', Y', e1, stp⟩ := getS Y X.hx X.hZ (host := "") X.hown w via rfl (F.ext Od) (g := mkF m pc Ls st) rfl (X.hb hd)
  exact E_by stp (k T' ⟨q0, locs, Y', N, e1 ▸ Od⟩ e1)
theorem E_putfield (X : Wk l Z R bytes mL ret own nm p e s m args below meth c T cells slots) {a : Addr} {O n d R0 C : String} {ix kk : Nat} {v old : Value} {ty : FieldType} (hd : decode bytes pc = .ok (.putfield ix, 3)) (w : (Jvm.Cond.fieldLink own ix R0 n d).before a0 Z = true) (via : Via Z R0 O n d) (F : Fld Z T.heap a O n d old) (E : Exa Z T.heap a C) (L : (Jvm.Cond.lays C O n d).before a0 Z = true ∨ ((Jvm.Cond.laysFinal C O n d).before a0 Z = true ∧ own = O ∧ nm = "<init>")) (wi : (Jvm.Cond.instantiable C kk).before a0 Z = true) (hty : parseFieldDescriptor d = some ty) (hn : narrow ty v = v) (hf : fits ty v = true) (ha : Z.heap.size ≤ a) {pc' : Nat} (hp : pc + 3 = pc')
    (k : ∀ (T' : State), Wk l Z R bytes mL ret own nm p e s m args below meth c T' cells slots → Wr T.heap T'.heap a (Jvm.RoadKit.slotOf Z O n d) v → Ends p e below s Z Q cC cS T' (mkF m pc' Ls st)) : Ends p e below s Z Q cC cS T (mkF m pc Ls (v :: .ref a :: st)) := by
  subst hp; obtain ⟨q0, locs, Y, N, Od⟩ := id X
  obtain ⟨T', h', Y', rfl, W, stp⟩ := putF Y X.hx X.hZ X.hown (host := "") (Or.inl w) via rfl F E (L.imp id fun q => ⟨q.1, q.2.1, q0.2.2.2.2.2.2.1.trans q.2.2⟩) wi hty hn hf (g := mkF m pc Ls (v :: .ref a :: st)) rfl rfl (X.hb hd)
  exact E_by stp (k T' ⟨q0, _, Y', Fr.snoc Y' N ha, Keep.old Od (Keep.of_wr W) (allS ha all0)⟩ W)
theorem E_initO (X : Wk l Z R bytes mL ret own nm p e s m args below meth c T cells slots) {a : Addr} {ix : Nat} (hd : decode bytes pc = .ok (.invokespecial ix, 3)) (w1 : (Jvm.Cond.methodLink own ix Lib.objectInit).before a0 Z = true) (w2 : (Jvm.Cond.instanceMethod Lib.objectInit).before a0 Z = true) (w3 : (Jvm.Cond.code Lib.objectInit ⟨#[0xb1]⟩ 1 none).before a0 Z = true) (hsz : Ls.size = mL) (hf : 1 ≤ R.frames) (hl : (st.map fun v => v.category).sum + 12 ≤ R.locals) {pc' : Nat} (hp : pc + 3 = pc')
    (k : ∀ (T' : State), Wk l Z R bytes mL ret own nm p e s m args below meth c T' cells slots → T'.heap = T.heap → Ends p e below s Z Q cC cS T' (mkF m pc' Ls st)) : Ends p e below s Z Q cC cS T (mkF m pc Ls (.ref a :: st)) := by
  subst hp; obtain ⟨q0, locs, Y, N, Od⟩ := id X
  obtain ⟨T', Y', e1, stp⟩ := initO Y X.hx X.hZ X.hown w1 w2 w3 rfl (g := mkF m pc Ls (.ref a :: st)) rfl (X.size hsz) rfl (X.hb hd) hf (W := (st.map fun v => v.category).sum) (by show 2 * 0 + _ ≤ _; omega) hl
  exact E_by stp (k T' ⟨q0, locs, Y', N, e1 ▸ Od⟩ e1)
theorem E_checkcast (X : Wk l Z R bytes mL ret own nm p e s m args below meth c T cells slots) {a : Addr} {K : String} {ix : Nat} (hd : decode bytes pc = .ok (.checkcast ix, 3)) (w : (Jvm.Cond.classLink own ix K).before a0 Z = true) (F : Ins Z T.heap a K true) {pc' : Nat} (hp : pc + 3 = pc')
    (k : ∀ (T' : State), Wk l Z R bytes mL ret own nm p e s m args below meth c T' cells slots → T'.heap = T.heap → Ends p e below s Z Q cC cS T' (mkF m pc' Ls (.ref a :: st))) : Ends p e below s Z Q cC cS T (mkF m pc Ls (.ref a :: st)) := by
  subst hp; obtain ⟨q0, locs, Y, N, Od⟩ := id X
  obtain ⟨T', Y', e1, stp⟩ := castY Y X.hx X.hZ X.hown w rfl F (g := mkF m pc Ls (.ref a :: st)) rfl rfl (X.hb hd)
  exact E_by stp (k T' ⟨q0, locs, Y', N, e1 ▸ Od⟩ e1)
theorem E_instY (X : Wk l Z R bytes mL ret own nm p e s m args below meth c T cells slots) {a : Addr} {K : String} {ix : Nat} (hd : decode bytes pc = .ok (.instanceof ix, 3)) (w : (Jvm.Cond.classLink own ix K).before a0 Z = true) (F : Ins Z T.heap a K true) {pc' : Nat} (hp : pc + 3 = pc')
    (k : ∀ (T' : State), Wk l Z R bytes mL ret own nm p e s m args below meth c T' cells slots → T'.heap = T.heap → Ends p e below s Z Q cC cS T' (mkF m pc' Ls (.int 1 :: st))) : Ends p e below s Z Q cC cS T (mkF m pc Ls (.ref a :: st)) := by
  subst hp; obtain ⟨q0, locs, Y, N, Od⟩ := id X
  obtain ⟨T', Y', e1, stp⟩ := instY Y X.hx X.hZ X.hown w rfl F (g := mkF m pc Ls (.ref a :: st)) rfl rfl (X.hb hd)
  exact E_by stp (k T' ⟨q0, locs, Y', N, e1 ▸ Od⟩ e1)
theorem E_staticB (X : Wk l Z R bytes mL ret own nm p e s m args below meth c T cells slots) {y : MethodName} {ix : Nat} {bytes' : ByteArray} {mL' : Nat} {ret' : Option FieldType} {Q' : Option Value → Heap → Prop} {argsL : List Value} {Q2 : Option Value → Heap → List Loc → Prop} {rC rS : Nat} (hd : decode bytes pc = .ok (.invokestatic ix, 3)) (w1 : (Jvm.Cond.methodLink own ix y).before a0 Z = true) (w2 : (Jvm.Cond.static y).before a0 Z = true) (w3 : (Jvm.Cond.initialized y.cls).before a0 Z = true) (w4 : (Jvm.Cond.code y bytes' mL' ret').before a0 Z = true) (hy : y.cls ≠ "java/lang/invoke/MethodHandle" ∧ y.cls ≠ "java/lang/invoke/VarHandle") {st0 : List Value} (hst : st0 = argsL.reverse ++ st) (hK : Back l R p e below s args y 3 ((st.map fun v => v.category).sum) (fun A aa => aa = argsL.toArray ∧ A.U.heap = T.heap ∧ A.cells + rC ≤ R.cells ∧ A.slots + rS ≤ R.slots) (fun A _ v B => ∃ L, Q2 v B.U.heap L ∧ B.locs = A.locs ++ L ∧ B.cells = A.cells + rC ∧ B.slots = A.slots + rS)) (hQ2 : ∀ v h L, Q2 v h L → Fr Z.heap.size L ∧ Ext Z.heap h ∧ Q' v h) (hlen : ∀ sig, parseMethodDescriptor y.desc = some sig → argsL.length = sig.parameters.length) (hsz : Ls.size = mL) (hcl : cells + rC ≤ R.cells) (hsl : slots + rS ≤ R.slots) {pc' : Nat} (hp : pc + 3 = pc')
    (k : ∀ (T' : State) (v : Option Value), Wk l Z R bytes mL ret own nm p e s m args below meth c T' (cells + rC) (slots + rS) → Q' v T'.heap → Ends p e below s Z Q cC cS T' (mkF m pc' Ls (v.toList ++ st))) : Ends p e below s Z Q cC cS T (mkF m pc Ls st0) := by
  subst hp hst; obtain ⟨q0, locs, Y, N, Od⟩ := id X
  obtain ⟨v, _, ⟨T', L1, k1, n1⟩, -, Y', ⟨Lc, hQ, l1, y1, z1⟩, stp⟩ := Jvm.LawKit.callS Y X.hx (y := y) X.hown (mvT X.hZ w1) (mvT X.hZ w2) (mvT X.hZ w3) (mvT X.hZ w4) hy hK (g := mkF m pc Ls (argsL.reverse ++ st)) rfl (X.size hsz) (argsL := argsL) (rest := st) hlen rfl (by show 2 * 0 + _ ≤ _; omega) (X.hb hd) (fun _ _ => ⟨rfl, rfl, hcl, hsl⟩)
  dsimp only [Pt.U, Pt.locs, Pt.cells, Pt.slots] at Y' l1 y1 z1 stp hQ
  subst l1 y1 z1
  obtain ⟨f1, f2, f3⟩ := hQ2 _ _ _ hQ
  exact E_by stp (k T' v ⟨q0, _, Y', Fr.app N f1, f2⟩ f3)
theorem E_static (X : Wk l Z R bytes mL ret own nm p e s m args below meth c T cells slots) {y : MethodName} {ix : Nat} {bytes' : ByteArray} {mL' : Nat} {ret' : Option FieldType} {Q' : Option Value → Heap → Prop} {argsL : List Value} {rm : Room} (hd : decode bytes pc = .ok (.invokestatic ix, 3)) (w1 : (Jvm.Cond.methodLink own ix y).before a0 Z = true) (w2 : (Jvm.Cond.static y).before a0 Z = true) (w3 : (Jvm.Cond.initialized y.cls).before a0 Z = true) (w4 : (Jvm.Cond.code y bytes' mL' ret').before a0 Z = true) (hy : y.cls ≠ "java/lang/invoke/MethodHandle" ∧ y.cls ≠ "java/lang/invoke/VarHandle")  {st0 : List Value} (hst : st0 = argsL.reverse ++ st) (hC : Ct l Z y bytes' mL' ret' rm argsL.toArray T.heap Q') (hlen : ∀ sig, parseMethodDescriptor y.desc = some sig → argsL.length = sig.parameters.length) (hsz : Ls.size = mL) (hcl : cells + rm.cells ≤ R.cells) (hsl : slots + rm.slots ≤ R.slots) (hfr : rm.frames + 1 ≤ R.frames) (hlo : (st.map fun v => v.category).sum + (mL' + 11) + rm.locals ≤ R.locals) {pc' : Nat} (hp : pc + 3 = pc')
    (k : ∀ (T' : State) (v : Option Value), Wk l Z R bytes mL ret own nm p e s m args below meth c T' (cells + rm.cells) (slots + rm.slots) → Q' v T'.heap → Ends p e below s Z Q cC cS T' (mkF m pc' Ls (v.toList ++ st))) : Ends p e below s Z Q cC cS T (mkF m pc Ls st0) :=
  E_staticB X hd w1 w2 w3 w4 hy hst (hC.back X.hZ w4 w3 hfr hlo) (fun _ _ _ q => q) hlen hsz hcl hsl hp k
theorem E_specialB (X : Wk l Z R bytes mL ret own nm p e s m args below meth c T cells slots) {y : MethodName} {ix : Nat} {bytes' : ByteArray} {mL' : Nat} {ret' : Option FieldType} {Q' : Option Value → Heap → Prop} {argsL : List Value} {Q2 : Option Value → Heap → List Loc → Prop} {rC rS : Nat} {a : Addr} (hd : decode bytes pc = .ok (.invokespecial ix, 3)) (hy1 : y.name = "<init>") (hret : ret' = none) (w1 : (Jvm.Cond.methodLink own ix y).before a0 Z = true) (w2 : (Jvm.Cond.instanceMethod y).before a0 Z = true) (w4 : (Jvm.Cond.code y bytes' mL' ret').before a0 Z = true) (hy : y.cls ≠ "java/lang/invoke/MethodHandle" ∧ y.cls ≠ "java/lang/invoke/VarHandle") {st0 : List Value} (hst : st0 = argsL.reverse ++ .ref a :: st) (hK : Back l R p e below s args y 3 ((st.map fun v => v.category).sum) (fun A aa => aa = (.ref a :: argsL).toArray ∧ A.U.heap = T.heap ∧ A.cells + rC ≤ R.cells ∧ A.slots + rS ≤ R.slots) (fun A _ v B => ∃ L, Q2 v B.U.heap L ∧ B.locs = A.locs ++ L ∧ B.cells = A.cells + rC ∧ B.slots = A.slots + rS)) (hQ2 : ∀ v h L, Q2 v h L → Fr Z.heap.size L ∧ Ext Z.heap h ∧ Q' v h) (hlen : ∀ sig, parseMethodDescriptor y.desc = some sig → argsL.length = sig.parameters.length) (hsz : Ls.size = mL) (hcl : cells + rC ≤ R.cells) (hsl : slots + rS ≤ R.slots) {pc' : Nat} (hp : pc + 3 = pc')
    (k : ∀ (T' : State) (v : Option Value), Wk l Z R bytes mL ret own nm p e s m args below meth c T' (cells + rC) (slots + rS) → Q' v T'.heap → Ends p e below s Z Q cC cS T' (mkF m pc' Ls (v.toList ++ st))) : Ends p e below s Z Q cC cS T (mkF m pc Ls st0) := by
  subst hp hst; obtain ⟨q0, locs, Y, N, Od⟩ := id X
  subst hret
  obtain ⟨v, _, ⟨T', L1, k1, n1⟩, -, Y', ⟨Lc, hQ, l1, y1, z1⟩, stp⟩ := Y.specialBack X.hx (y := y) hy1 X.hown (mvT X.hZ w1) (mvT X.hZ w2) (mvT X.hZ w4) hy hK (g := mkF m pc Ls (argsL.reverse ++ .ref a :: st)) rfl (X.size hsz) (Steps.refl _) (a := a) (argsL := argsL) (rest := st) hlen rfl (by show 2 * 0 + _ ≤ _; omega) (X.hb hd) (fun _ _ => ⟨rfl, rfl, hcl, hsl⟩)
  dsimp only [Pt.U, Pt.locs, Pt.cells, Pt.slots] at Y' l1 y1 z1 stp hQ
  subst l1 y1 z1
  obtain ⟨f1, f2, f3⟩ := hQ2 _ _ _ hQ
  exact E_tr stp (k T' v ⟨q0, _, Y', Fr.app N f1, f2⟩ f3)
theorem E_special (X : Wk l Z R bytes mL ret own nm p e s m args below meth c T cells slots) {y : MethodName} {ix : Nat} {bytes' : ByteArray} {mL' : Nat} {ret' : Option FieldType} {Q' : Option Value → Heap → Prop} {argsL : List Value} {rm : Room} {a : Addr} (hd : decode bytes pc = .ok (.invokespecial ix, 3)) (hy1 : y.name = "<init>") (hret : ret' = none) (w1 : (Jvm.Cond.methodLink own ix y).before a0 Z = true) (w2 : (Jvm.Cond.instanceMethod y).before a0 Z = true) (w4 : (Jvm.Cond.code y bytes' mL' ret').before a0 Z = true) (hy : y.cls ≠ "java/lang/invoke/MethodHandle" ∧ y.cls ≠ "java/lang/invoke/VarHandle") (w3 : (Jvm.Cond.initialized y.cls).before a0 Z = true) {st0 : List Value} (hst : st0 = argsL.reverse ++ .ref a :: st) (hC : Ct l Z y bytes' mL' ret' rm (.ref a :: argsL).toArray T.heap Q') (hlen : ∀ sig, parseMethodDescriptor y.desc = some sig → argsL.length = sig.parameters.length) (hsz : Ls.size = mL) (hcl : cells + rm.cells ≤ R.cells) (hsl : slots + rm.slots ≤ R.slots) (hfr : rm.frames + 1 ≤ R.frames) (hlo : (st.map fun v => v.category).sum + (mL' + 11) + rm.locals ≤ R.locals) {pc' : Nat} (hp : pc + 3 = pc')
    (k : ∀ (T' : State) (v : Option Value), Wk l Z R bytes mL ret own nm p e s m args below meth c T' (cells + rm.cells) (slots + rm.slots) → Q' v T'.heap → Ends p e below s Z Q cC cS T' (mkF m pc' Ls (v.toList ++ st))) : Ends p e below s Z Q cC cS T (mkF m pc Ls st0) :=
  E_specialB X hd hy1 hret w1 w2 w4 hy hst (hC.back X.hZ w4 w3 hfr hlo) (fun _ _ _ q => q) hlen hsz hcl hsl hp k
theorem E_virtualB (X : Wk l Z R bytes mL ret own nm p e s m args below meth c T cells slots) {y : MethodName} {ix : Nat} {Q' : Option Value → Heap → Prop} {argsL : List Value} {Q2 : Option Value → Heap → List Loc → Prop} {rC rS : Nat} {a : Addr} {z : MethodName} {D : String} (hd : decode bytes pc = .ok (.invokevirtual ix, 3)) (w1 : (Jvm.Cond.methodLink own ix y).before a0 Z = true) (w2 : (Jvm.Cond.declares y).before a0 Z = true) (w5 : (Jvm.Cond.selects D y z).before a0 Z = true) (w6 : (Jvm.Cond.instanceMethod z).before a0 Z = true) (hnf : NotFace s y) (hy : y.cls ≠ "java/lang/invoke/MethodHandle" ∧ y.cls ≠ "java/lang/invoke/VarHandle") (E : Exa Z T.heap a D) {st0 : List Value} (hst : st0 = argsL.reverse ++ .ref a :: st) (hK : Back l R p e below s args z 3 ((st.map fun v => v.category).sum) (fun A aa => aa = (.ref a :: argsL).toArray ∧ A.U.heap = T.heap ∧ A.cells + rC ≤ R.cells ∧ A.slots + rS ≤ R.slots) (fun A _ v B => ∃ L, Q2 v B.U.heap L ∧ B.locs = A.locs ++ L ∧ B.cells = A.cells + rC ∧ B.slots = A.slots + rS)) (hQ2 : ∀ v h L, Q2 v h L → Fr Z.heap.size L ∧ Ext Z.heap h ∧ Q' v h) (hlen : ∀ sig, parseMethodDescriptor y.desc = some sig → argsL.length = sig.parameters.length) (hsz : Ls.size = mL) (hcl : cells + rC ≤ R.cells) (hsl : slots + rS ≤ R.slots) {pc' : Nat} (hp : pc + 3 = pc')
    (k : ∀ (T' : State) (v : Option Value), Wk l Z R bytes mL ret own nm p e s m args below meth c T' (cells + rC) (slots + rS) → Q' v T'.heap → Ends p e below s Z Q cC cS T' (mkF m pc' Ls (v.toList ++ st))) : Ends p e below s Z Q cC cS T (mkF m pc Ls st0) := by
  subst hp hst; obtain ⟨q0, locs, Y, N, Od⟩ := id X
  obtain ⟨cq, kq, qa, qb, qc⟩ := isOf X.hZ rfl E
  obtain ⟨v, _, ⟨T', L1, k1, n1⟩, -, Y', ⟨Lc, hQ, l1, y1, z1⟩, stp⟩ := Y.virtualBack X.hx (y := y) (z := z) X.hown (mvT X.hZ w1) (mvT X.hZ w2) hnf (mvT X.hZ w5) (mvT X.hZ w6) hy hK qa qc (g := mkF m pc Ls (argsL.reverse ++ .ref a :: st)) rfl (X.size hsz) (Steps.refl _) (argsL := argsL) (rest := st) hlen rfl (by show 2 * 0 + _ ≤ _; omega) (X.hb hd) (fun _ _ => ⟨rfl, rfl, hcl, hsl⟩)
  dsimp only [Pt.U, Pt.locs, Pt.cells, Pt.slots] at Y' l1 y1 z1 stp hQ
  subst l1 y1 z1
  obtain ⟨f1, f2, f3⟩ := hQ2 _ _ _ hQ
  exact E_tr stp (k T' v ⟨q0, _, Y', Fr.app N f1, f2⟩ f3)
theorem E_virtual (X : Wk l Z R bytes mL ret own nm p e s m args below meth c T cells slots) {y : MethodName} {ix : Nat} {bytes' : ByteArray} {mL' : Nat} {ret' : Option FieldType} {Q' : Option Value → Heap → Prop} {argsL : List Value} {rm : Room} {a : Addr} {z : MethodName} {D : String} (hd : decode bytes pc = .ok (.invokevirtual ix, 3)) (w1 : (Jvm.Cond.methodLink own ix y).before a0 Z = true) (w2 : (Jvm.Cond.declares y).before a0 Z = true) (w5 : (Jvm.Cond.selects D y z).before a0 Z = true) (w6 : (Jvm.Cond.instanceMethod z).before a0 Z = true) (hnf : NotFace s y) (hy : y.cls ≠ "java/lang/invoke/MethodHandle" ∧ y.cls ≠ "java/lang/invoke/VarHandle") (E : Exa Z T.heap a D) (w3 : (Jvm.Cond.initialized z.cls).before a0 Z = true) (w4 : (Jvm.Cond.code z bytes' mL' ret').before a0 Z = true) {st0 : List Value} (hst : st0 = argsL.reverse ++ .ref a :: st) (hC : Ct l Z z bytes' mL' ret' rm (.ref a :: argsL).toArray T.heap Q') (hlen : ∀ sig, parseMethodDescriptor y.desc = some sig → argsL.length = sig.parameters.length) (hsz : Ls.size = mL) (hcl : cells + rm.cells ≤ R.cells) (hsl : slots + rm.slots ≤ R.slots) (hfr : rm.frames + 1 ≤ R.frames) (hlo : (st.map fun v => v.category).sum + (mL' + 11) + rm.locals ≤ R.locals) {pc' : Nat} (hp : pc + 3 = pc')
    (k : ∀ (T' : State) (v : Option Value), Wk l Z R bytes mL ret own nm p e s m args below meth c T' (cells + rm.cells) (slots + rm.slots) → Q' v T'.heap → Ends p e below s Z Q cC cS T' (mkF m pc' Ls (v.toList ++ st))) : Ends p e below s Z Q cC cS T (mkF m pc Ls st0) :=
  E_virtualB X hd w1 w2 w5 w6 hnf hy E hst (hC.back X.hZ w4 w3 hfr hlo) (fun _ _ _ q => q) hlen hsz hcl hsl hp k
theorem Wk.out (X : Wk l Z R bytes mL ret own nm p e s m args below meth c T cells slots) {v : Option Value} (hv : ret = none → v = none) (hQ : Q v T.heap) (h1 : cells ≤ cC) (h2 : slots ≤ cS) (hs : ∀ fs, (∀ (f : JFrame) (acts : List Action), f.method = m → f.locked = none → f.entered = [] → (doReturn e (T.setTop f) acts v).1 = T.setFrames fs) → Steps p.tables e below (T.setTop g) (T.setFrames fs)) : Ends p e below s Z Q cC cS T g := by
  obtain ⟨q0, locs, Y, N, Od⟩ := id X
  obtain ⟨fs, hr, hrun, hended, hW, hsame⟩ := Y.leave (v := v) (fun h => hv (q0.2.2.2.1.symm.trans h)) q0.2.2.2.2.1
  exact ⟨_, _, hs fs hr, hrun, hended, _, _, rfl, ⟨N, Od, hQ⟩, ⟨_, rfl⟩, hW, hsame.mono h1 h2⟩
theorem E_return (X : Wk l Z R bytes mL ret own nm p e s m args below meth c T cells slots) (hd : decode bytes pc = .ok (.return_, 1)) (hret : ret = none) (h1 : cells ≤ cC) (h2 : slots ≤ cS) (hQ : Q none T.heap) : Ends p e below s Z Q cC cS T (mkF m pc Ls []) := by
  refine X.out (v := none) (fun _ => rfl) hQ h1 h2 fun fs hr => ?_
  obtain ⟨q0, locs, Y, N, Od⟩ := id X
  exact Y.returnOut X.hx (q0.2.2.2.1.trans hret) (X.hb hd) hr
theorem E_ireturnI (X : Wk l Z R bytes mL ret own nm p e s m args below meth c T cells slots) {z : Int32} (hd : decode bytes pc = .ok (.ireturn, 1)) (hret : ret = some .int) (h1 : cells ≤ cC) (h2 : slots ≤ cS) (hQ : Q (some (.int z)) T.heap) : Ends p e below s Z Q cC cS T (mkF m pc Ls (.int z :: st)) := by
  refine X.out (v := some (.int z)) (fun h => by rw [hret] at h; cases h) hQ h1 h2 fun fs hr => ?_
  obtain ⟨q0, locs, Y, N, Od⟩ := id X
  exact retOut Y X.hx (q0.2.2.2.1.trans hret) rfl (Or.inl ⟨rfl, Or.inl rfl, z, rfl⟩) (X.hb hd) hr
theorem E_ireturnN (X : Wk l Z R bytes mL ret own nm p e s m args below meth c T cells slots) {z : Int32} {t : FieldType} (hd : decode bytes pc = .ok (.ireturn, 1)) (hret : ret = some t) (ht : t = .boolean ∨ t = .byte ∨ t = .char ∨ t = .short) (h1 : cells ≤ cC) (h2 : slots ≤ cS) (hQ : Q (some (.int (nar t z))) T.heap) : Ends p e below s Z Q cC cS T (mkF m pc Ls (.int z :: st)) := by
  refine X.out (v := some (.int (nar t z))) (fun h => by rw [hret] at h; cases h) hQ h1 h2 fun fs hr => ?_
  obtain ⟨q0, locs, Y, N, Od⟩ := id X
  exact retN Y X.hx (q0.2.2.2.1.trans hret) ht (X.hb hd) hr
theorem E_areturn (X : Wk l Z R bytes mL ret own nm p e s m args below meth c T cells slots) {v : Value} {t : FieldType} (hd : decode bytes pc = .ok (.areturn, 1)) (hret : ret = some t) (ht : t.isReference = true) (hv : v.isRef = true) (hn : narrow t v = v) (h1 : cells ≤ cC) (h2 : slots ≤ cS) (hQ : Q (some v) T.heap) : Ends p e below s Z Q cC cS T (mkF m pc Ls (v :: st)) := by
  refine X.out (v := some v) (fun h => by rw [hret] at h; cases h) hQ h1 h2 fun fs hr => ?_
  obtain ⟨q0, locs, Y, N, Od⟩ := id X
  exact retOut Y X.hx (q0.2.2.2.1.trans hret) hn (Or.inr (Or.inr (Or.inr (Or.inr ⟨rfl, ht, hv⟩)))) (X.hb hd) hr
end Own
theorem pd_0 : parseMethodDescriptor "(IILjava/util/function/BiFunction;)I" = some ⟨[.int, .int, (.object "java/util/function/BiFunction")], some .int⟩ := by decide +kernel
theorem pd_1 : parseMethodDescriptor "(II)V" = some ⟨[.int, .int], none⟩ := by decide +kernel
theorem pd_2 : parseMethodDescriptor "([B)I" = some ⟨[(.array .byte)], some .int⟩ := by decide +kernel
theorem pd_3 : parseMethodDescriptor "(I[B)V" = some ⟨[.int, (.array .byte)], none⟩ := by decide +kernel
theorem pd_4 : parseMethodDescriptor "([BI)C" = some ⟨[(.array .byte), .int], some .char⟩ := by decide +kernel
theorem pd_5 : parseMethodDescriptor "()Z" = some ⟨[], some .boolean⟩ := by decide +kernel
theorem pd_6 : parseMethodDescriptor "(I)I" = some ⟨[.int], some .int⟩ := by decide +kernel
theorem pd_7 : parseMethodDescriptor "([BII)V" = some ⟨[(.array .byte), .int, .int], none⟩ := by decide +kernel
theorem pd_8 : parseMethodDescriptor "(I)[B" = some ⟨[.int], some (.array .byte)⟩ := by decide +kernel
theorem pd_9 : parseMethodDescriptor "([CI[BII)I" = some ⟨[(.array .char), .int, (.array .byte), .int, .int], some .int⟩ := by decide +kernel
theorem pd_10 : parseMethodDescriptor "([CII)[B" = some ⟨[(.array .char), .int, .int], some (.array .byte)⟩ := by decide +kernel
theorem pd_11 : parseMethodDescriptor "([BI)B" = some ⟨[(.array .byte), .int], some .byte⟩ := by decide +kernel
theorem pd_12 : parseMethodDescriptor "([CIILjava/lang/Void;)V" = some ⟨[(.array .char), .int, .int, (.object "java/lang/Void")], none⟩ := by decide +kernel
theorem pd_13 : parseMethodDescriptor "()V" = some ⟨[], none⟩ := by decide +kernel
theorem pd_14 : parseMethodDescriptor "(I)C" = some ⟨[.int], some .char⟩ := by decide +kernel
theorem pd_15 : parseMethodDescriptor "([C)V" = some ⟨[(.array .char)], none⟩ := by decide +kernel
theorem pd_16 : parseMethodDescriptor "(Ljava/lang/String;I)Lcom/example/semblance/semblance/QueryTokens$Position;" = some ⟨[(.object "java/lang/String"), .int], some (.object "com/example/semblance/semblance/QueryTokens$Position")⟩ := by decide +kernel
theorem pd_17 : parseMethodDescriptor "([CII)I" = some ⟨[(.array .char), .int, .int], some .int⟩ := by decide +kernel
theorem pd_18 : parseMethodDescriptor "()I" = some ⟨[], some .int⟩ := by decide +kernel
theorem o_int {n : Nat} (h : n < 2147483648) : (Int32.ofNat n).toInt = n := by
  have := Int32.toInt_ofNat_of_lt (n := n) (by omega); simpa using this
theorem o_cl {n : Nat} (h : n < 2147483648) : (Int32.ofNat n).toNatClampNeg = n := by
  simp [Int32.toNatClampNeg, o_int h]
theorem o_nn {n : Nat} (h : n < 2147483648) : ¬ Int32.ofNat n < 0 := by
  rw [Int32.lt_iff_toInt_lt, o_int h]; show ¬ (n : Int) < 0; omega
theorem o_lt {i n : Nat} (hi : i < n) (h : n < 2147483648) : Int32.ofNat i < Int32.ofNat n := by
  rw [Int32.lt_iff_toInt_lt, o_int h, o_int (by omega)]; omega
theorem o_nlt {i n : Nat} (hi : n ≤ i) (h : i < 2147483648) : ¬ Int32.ofNat i < Int32.ofNat n := by
  rw [Int32.lt_iff_toInt_lt, o_int h, o_int (by omega)]; omega
theorem o_add {i : Nat} : Int32.ofNat i + (1 : Int32) = Int32.ofNat (i + 1) := by
  rw [Int32.ofNat_add]; rfl
theorem o_two {i : Nat} (h : 2 * i < 2147483648) : Int32.ofNat i <<< ((1 : Int32) &&& 31) = Int32.ofNat (2 * i) := by
  apply Int32.toInt_inj.mp
  have e := c_ishl (Int32.ofNat i) 1 1 (by decide)
  have r := rng32 (Int32.ofNat i <<< ((1 : Int32) &&& 31))
  rw [o_int (by omega)] at e
  rw [o_int h]
  omega
theorem o_half {i : Nat} (h : 2 * i < 2147483648) : Int32.ofNat (2 * i) >>> ((1 : Int32) &&& 31) = Int32.ofNat i := by
  apply Int32.toInt_inj.mp
  have e := c_ishr (Int32.ofNat (2 * i)) 1 1 (by decide)
  rw [o_int h] at e
  rw [o_int (by omega), e]
  omega
theorem o_zero (N : Int32) : N >>> ((0 : Int32) &&& 31) = N := by
  apply Int32.toInt_inj.mp
  have e := c_ishr N 0 0 (by decide)
  rw [e]; simp
theorem o_i2c {c : Int32} (h1 : ¬ c < 0) (h2 : ¬ 65535 < c) : c.toUInt32.toUInt16.toUInt32.toInt32 = c := by
  apply Int32.toInt_inj.mp
  have e := c_i2c c
  rw [Int32.lt_iff_toInt_lt] at h1 h2
  have o1 : (0 : Int32).toInt = 0 := rfl
  have o2 : (65535 : Int32).toInt = 65535 := rfl
  omega
theorem o_nar {c : Int32} (h1 : ¬ c < 0) (h2 : ¬ 65535 < c) : nar .char c = c := o_i2c h1 h2
theorem o_lat {c : Int32} (h1 : ¬ c < 0) (h2 : ¬ 255 < c) : nar .char ((c.toInt8.toInt32 &&& (255 : Int32)).toUInt32.toUInt16.toUInt32.toInt32) = c := by
  have o1 : (0 : Int32).toInt = 0 := rfl
  have o2 : (255 : Int32).toInt = 255 := rfl
  have o3 : (65535 : Int32).toInt = 65535 := rfl
  rw [Int32.lt_iff_toInt_lt] at h1 h2
  have e : c.toInt8.toInt32 &&& (255 : Int32) = c := by
    apply Int32.toInt_inj.mp
    have e1 := c_mask c.toInt8.toInt32 255 8 (by decide) (by decide)
    have e2 := c_i2b c
    rw [e1]; omega
  rw [e, o_i2c, o_nar] <;> (rw [Int32.lt_iff_toInt_lt]; omega)
theorem o_u16 {c : Int32} (h1 : ¬ c < 0) (h2 : ¬ 65535 < c) : nar .char ((((c >>> ((0 : Int32) &&& 31)).toInt8.toInt32 &&& (255 : Int32)) <<< ((0 : Int32) &&& 31) ||| ((c >>> ((8 : Int32) &&& 31)).toInt8.toInt32 &&& (255 : Int32)) <<< ((8 : Int32) &&& 31)).toUInt32.toUInt16.toUInt32.toInt32) = c := by
  have o1 : (0 : Int32).toInt = 0 := rfl
  have o2 : (255 : Int32).toInt = 255 := rfl
  have o3 : (65535 : Int32).toInt = 65535 := rfl
  rw [Int32.lt_iff_toInt_lt] at h1 h2
  have a0 : c >>> ((0 : Int32) &&& 31) = c := o_zero c
  have a1 := c_ishr c 8 8 (by decide)
  rw [a0]
  generalize c >>> ((8 : Int32) &&& 31) = d at *
  have b1 := c_mask c.toInt8.toInt32 255 8 (by decide) (by decide)
  have b2 := c_i2b c
  have b3 := c_mask d.toInt8.toInt32 255 8 (by decide) (by decide)
  have b4 := c_i2b d
  generalize c.toInt8.toInt32 &&& (255 : Int32) = x at *
  generalize d.toInt8.toInt32 &&& (255 : Int32) = y at *
  have d1 := c_ishl x 0 0 (by decide)
  have d2 := c_ishl y 8 8 (by decide)
  have r1 := rng32 (x <<< ((0 : Int32) &&& 31))
  have r2 := rng32 (y <<< ((8 : Int32) &&& 31))
  generalize x <<< ((0 : Int32) &&& 31) = u at *
  generalize y <<< ((8 : Int32) &&& 31) = w at *
  have f := c_or' u w 8 (by decide) 256 rfl (by omega) (by omega) (by omega)
  have r3 := rng32 (u ||| w)
  have e : u ||| w = c := by
    apply Int32.toInt_inj.mp
    omega
  rw [e, o_i2c, o_nar] <;> (rw [Int32.lt_iff_toInt_lt]; omega)
theorem o_b8 (c : Int32) : c.toInt8.toInt32.toInt8.toInt32 = c.toInt8.toInt32 := by simp
theorem o_ltc {n : Nat} (h : n ≤ 4000) : Int32.ofNat n < (1073741823 : Int32) := by
  rw [Int32.lt_iff_toInt_lt, o_int (by omega)]; show (n : Int) < 1073741823; omega
theorem o_cfl {n : Nat} (h : 0 < n) (h2 : n ≤ 4000) : nar .byte ((((Int32.ofNat n - Int32.ofNat (2 * n)).toUInt32 >>> ((31 : Int32) &&& 31).toUInt32).toInt32).toInt8.toInt32) = 1 := by
  have e := c_isub (Int32.ofNat n) (Int32.ofNat (2 * n))
  rw [o_int (by omega), o_int (by omega)] at e
  have r := rng32 (Int32.ofNat n - Int32.ofNat (2 * n))
  have f := c_iushr (Int32.ofNat n - Int32.ofNat (2 * n)) 31 31 (by decide) (by decide)
  have g : ((Int32.ofNat n - Int32.ofNat (2 * n)).toUInt32 >>> ((31 : Int32) &&& 31).toUInt32).toInt32 = 1 := by
    apply Int32.toInt_inj.mp
    rw [f]; show _ = (1 : Int); omega
  rw [g]; rfl

def Sts (Z : State) (G1 : Int32) (G3 : Value) : Prop := Sta Z Z.heap "java/lang/String" "COMPACT_STRINGS" "Z" (.int G1) ∧ ¬ G1 = 0 ∧ Sta Z Z.heap "jdk/internal/util/Preconditions" "SIOOBE_FORMATTER" "Ljava/util/function/BiFunction;" G3 ∧ G3.isRef = true ∧ Sta Z Z.heap "java/lang/StringUTF16" "$assertionsDisabled" "Z" (.int 1) ∧ Sta Z Z.heap "java/lang/StringUTF16" "HI_BYTE_SHIFT" "I" (.int 0) ∧ Sta Z Z.heap "java/lang/StringUTF16" "LO_BYTE_SHIFT" "I" (.int 8)
theorem Sts.ref {Z : State} {G1 : Int32} {G3 : Value} (h : Sts Z G1 G3) : G3.isRef = true := h.2.2.2.1
def lo8 (c : Int32) : Value := .int c.toInt8.toInt32
def u16 (cs : List Int32) : List Value := cs.flatMap fun c => [.int (c >>> ((0 : Int32) &&& 31)).toInt8.toInt32, .int (c >>> ((8 : Int32) &&& 31)).toInt8.toInt32]
def Cod (cs : List Int32) (cd N : Int32) (vs : List Value) : Prop := (cd = 0 ∧ N = Int32.ofNat cs.length ∧ vs = cs.map lo8 ∧ ∀ c ∈ cs, ¬ (255 : Int32) < c) ∨ (cd = 1 ∧ N = Int32.ofNat (2 * cs.length) ∧ vs = u16 cs)
/-- the String x holds the chars cs; its array is t -/
def OStr (Z : State) (h : Heap) (x t : Addr) (cs : List Int32) : Prop := ∃ (kb : ClassId) (cd N : Int32) (vs : List Value), Exa Z h x "java/lang/String" ∧ Fld Z h x "java/lang/String" "value" "[B" (.ref t) ∧ Fld Z h x "java/lang/String" "coder" "B" (.int cd) ∧ Arv Z h t kb .byte N vs (.int (0 : Int32)) ∧ Cod cs cd N vs ∧ (∀ c ∈ cs, ¬ c < 0 ∧ ¬ (65535 : Int32) < c) ∧ cs.length ≤ 4000
theorem OStr.exa {Z : State} {h : Heap} {x t : Addr} {cs : List Int32} (S : OStr Z h x t cs) : Exa Z h x "java/lang/String" := by obtain ⟨_, _, _, _, E, -⟩ := S; exact E
theorem OStr.lt {Z : State} {h : Heap} {x t : Addr} {cs : List Int32} (S : OStr Z h x t cs) : x < h.size := S.exa.lt
theorem OStr.ltv {Z : State} {h : Heap} {x t : Addr} {cs : List Int32} (S : OStr Z h x t cs) : t < h.size := by obtain ⟨_, _, _, _, _, _, _, V, -⟩ := S; exact V.lt
theorem OStr.keep {Z : State} {h h' : Heap} {ws : List Addr} {x t : Addr} {cs : List Int32} (S : OStr Z h x t cs) (K : Keep h h' ws) (h1 : x ∉ ws) (h2 : t ∉ ws) : OStr Z h' x t cs := by
  obtain ⟨kb, cd, N, vs, E, F, G, V, r⟩ := S; exact ⟨kb, cd, N, vs, E.keep K, F.keep K h1, G.keep K h1, V.keep K h2, r⟩
theorem own_getD {cs : List Int32} {i : Nat} (f : Int32 → Value) {d : Value} (h : i < cs.length) (hn : cs.length ≤ 4000) : (cs.map f).getD (Int32.ofNat i).toNatClampNeg d = f (cs.getD i 0) := by
  rw [o_cl (by omega)]; simp [List.getD_eq_getElem?_getD, h]
theorem own_mem {cs : List Int32} {i : Nat} (h : i < cs.length) : cs.getD i 0 ∈ cs := by simp [List.getD_eq_getElem?_getD, h]
theorem own_take {cs : List Int32} {i : Nat} (f : Int32 → Value) (h : i < cs.length) : (cs.take (i + 1)).map f = (cs.take i).map f ++ [f (cs.getD i 0)] := by
  rw [List.take_add_one, List.map_append]; congr 1; simp [List.getD_eq_getElem?_getD, h]
theorem own_all {P : Int32 → Prop} {cs : List Int32} {i : Nat} {ch : Int32} (h : i < cs.length) (hch : ch = cs.getD i 0) (hall : ∀ c ∈ cs.take i, P c) (hc : P ch) : ∀ c ∈ cs.take (i + 1), P c := by
  intro c hc2
  rw [List.take_add_one] at hc2
  rcases List.mem_append.mp hc2 with hc2 | hc2
  · exact hall c hc2
  · have : c = ch := by rw [hch]; simp [List.getD_eq_getElem?_getD, h] at hc2 ⊢; exact hc2
    rw [this]; exact hc
theorem own_tl {cs : List Int32} {i : Nat} (f : Int32 → Value) (h : i ≤ cs.length) : ((cs.take i).map f).length = i := by simp; omega
theorem Cod.cd8 {cs : List Int32} {cd N : Int32} {vs : List Value} (h : Cod cs cd N vs) : nar .byte cd = cd := by rcases h with ⟨rfl, -⟩ | ⟨rfl, -⟩ <;> rfl
theorem Cod.len {cs : List Int32} {cd N : Int32} {vs : List Value} (h : Cod cs cd N vs) (hl : cs.length ≤ 4000) : N >>> (cd &&& 31) = Int32.ofNat cs.length := by 
  rcases h with ⟨rfl, rfl, -⟩ | ⟨rfl, rfl, -⟩
  · exact o_zero _
  · exact o_half (by omega)
theorem Cod.n0 {cs : List Int32} {cd N : Int32} {vs : List Value} (h : Cod cs cd N vs) (hl : cs.length ≤ 4000) : N = 0 ↔ cs.length = 0 := by
  have e : ∀ n : Nat, n < 2147483648 → (Int32.ofNat n = 0 ↔ n = 0) := fun n hn => by
    rw [← Int32.toInt_inj, o_int hn]; show ((n : Int) = 0) ↔ _; omega
  rcases h with ⟨-, rfl, -⟩ | ⟨-, rfl, -⟩
  · exact e _ (by omega)
  · rw [e _ (by omega)]; omega
theorem u16_len (cs : List Int32) : (u16 cs).length = 2 * cs.length := by
  induction cs with
  | nil => rfl
  | cons c r ih => simp only [u16, List.flatMap_cons, List.length_append] at ih ⊢; rw [ih]; simp; omega
theorem u16_get (cs : List Int32) (i : Nat) (h : i < cs.length) : (u16 cs)[2 * i]? = some (.int (cs.getD i 0 >>> ((0 : Int32) &&& 31)).toInt8.toInt32) ∧ (u16 cs)[2 * i + 1]? = some (.int (cs.getD i 0 >>> ((8 : Int32) &&& 31)).toInt8.toInt32) := by
  induction cs generalizing i with
  | nil => simp at h
  | cons c r ih =>
    cases i with
    | zero => exact ⟨rfl, rfl⟩
    | succ i =>
      have q := ih i (by simpa using h)
      simp only [u16, List.flatMap_cons] at q ⊢
      have e1 : 2 * (i + 1) = 2 * i + 2 := by omega
      have e2 : 2 * (i + 1) + 1 = 2 * i + 1 + 2 := by omega
      rw [e2, e1]
      simpa using q
theorem u16_take {cs : List Int32} {i : Nat} (h : i < cs.length) : u16 (cs.take (i + 1)) = u16 (cs.take i) ++ [.int (cs.getD i 0 >>> ((0 : Int32) &&& 31)).toInt8.toInt32, .int (cs.getD i 0 >>> ((8 : Int32) &&& 31)).toInt8.toInt32] := by
  rw [List.take_add_one]; unfold u16; rw [List.flatMap_append]; congr 1; simp [List.getD_eq_getElem?_getD, h]

theorem d_pci_0 : decode jdk_41_method_11_code 0 = .ok (.iload_n 0, 1) := by decide +kernel
theorem d_pci_1 : decode jdk_41_method_11_code 1 = .ok (.ifCond .lt 8, 3) := by decide +kernel
theorem d_pci_4 : decode jdk_41_method_11_code 4 = .ok (.iload_n 0, 1) := by decide +kernel
theorem d_pci_5 : decode jdk_41_method_11_code 5 = .ok (.iload_n 1, 1) := by decide +kernel
theorem d_pci_6 : decode jdk_41_method_11_code 6 = .ok (.if_icmp .lt 10, 3) := by decide +kernel
theorem d_pci_16 : decode jdk_41_method_11_code 16 = .ok (.iload_n 0, 1) := by decide +kernel
theorem d_pci_17 : decode jdk_41_method_11_code 17 = .ok (.ireturn, 1) := by decide +kernel
abbrev rm_pci : Room := ({ frames := 0, cells := 0, slots := 0, locals := 0 } : Room)
def Q_pci (Z : State) (i n : Int32) (h0 : Heap) (v : Option Value) (h : Heap) : Prop := v = some (.int i) ∧ h = h0
set_option maxRecDepth 65536 in
set_option maxHeartbeats 40000000 in
theorem ct_pci (l : Launch) (Z : State) (a0 : Array Value) (hw : ∀ d ∈ tables_1, d.before a0 Z = true) (G1 : Int32) (G3 : Value) (OS : Sts Z G1 G3) (i n : Int32) {h0 : Heap} (O : Ext Z.heap h0) (h1 : ¬ i < 0) (h2 : i < n) : Ct l Z (⟨"jdk/internal/util/Preconditions", "checkIndex", "(IILjava/util/function/BiFunction;)I"⟩ : MethodName) jdk_41_method_11_code 3 (some .int) rm_pci #[(.int i), (.int n), G3] h0 (Q_pci Z i n h0) := by
  refine Ct.of_body (Ls := #[.val (.int i), .val (.int n), .val G3]) (by decide +kernel) O (fun m => by first | rfl | (simp [entryFrame, mkF, argsToLocals, Value.category]; done) | (rcases ref_cases (Sts.ref OS) with rfl | ⟨r, rfl⟩ <;> rfl)) ?_
  intro p e s m below meth c T0 X0 e0
  subst e0
  refine E_iloadN X0 d_pci_0 rfl (pc' := 1) rfl ?_
  refine E_ifF X0 d_pci_1 (XT.i0_lt_f h1) (pc' := 4) rfl ?_
  refine E_iloadN X0 d_pci_4 rfl (pc' := 5) rfl ?_
  refine E_iloadN X0 d_pci_5 rfl (pc' := 6) rfl ?_
  refine E_icT X0 d_pci_6 (XT.ii_lt_t h2) (pc' := 16) (by decide) rfl ?_
  refine E_iloadN X0 d_pci_16 rfl (pc' := 17) rfl ?_
  exact E_ireturnI X0 d_pci_17 rfl (by decide) (by decide) (⟨rfl, rfl⟩)
theorem d_sci_0 : decode jdk_42_method_155_code 0 = .ok (.iload_n 0, 1) := by decide +kernel
theorem d_sci_1 : decode jdk_42_method_155_code 1 = .ok (.iload_n 1, 1) := by decide +kernel
theorem d_sci_2 : decode jdk_42_method_155_code 2 = .ok (.getstatic 1053, 3) := by decide +kernel
theorem d_sci_5 : decode jdk_42_method_155_code 5 = .ok (.invokestatic 1059, 3) := by decide +kernel
theorem d_sci_8 : decode jdk_42_method_155_code 8 = .ok (.pop, 1) := by decide +kernel
theorem d_sci_9 : decode jdk_42_method_155_code 9 = .ok (.return_, 1) := by decide +kernel
abbrev rm_sci : Room := ({ frames := 1, cells := 0, slots := 0, locals := 14 } : Room)
def Q_sci (Z : State) (i n : Int32) (h0 : Heap) (v : Option Value) (h : Heap) : Prop := v = none ∧ h = h0
set_option maxRecDepth 65536 in
set_option maxHeartbeats 40000000 in
theorem ct_sci (l : Launch) (Z : State) (a0 : Array Value) (hw : ∀ d ∈ tables_1, d.before a0 Z = true) (G1 : Int32) (G3 : Value) (OS : Sts Z G1 G3) (i n : Int32) {h0 : Heap} (O : Ext Z.heap h0) (h1 : ¬ i < 0) (h2 : i < n) : Ct l Z (⟨"java/lang/String", "checkIndex", "(II)V"⟩ : MethodName) jdk_42_method_155_code 2 none rm_sci #[(.int i), (.int n)] h0 (Q_sci Z i n h0) := by
  refine Ct.of_body (Ls := #[.val (.int i), .val (.int n)]) (by decide +kernel) O (fun m => by first | rfl | (simp [entryFrame, mkF, argsToLocals, Value.category]; done) | (rcases ref_cases (Sts.ref OS) with rfl | ⟨r, rfl⟩ <;> rfl)) ?_
  intro p e s m below meth c T0 X0 e0
  subst e0
  refine E_iloadN X0 d_sci_0 rfl (pc' := 1) rfl ?_
  refine E_iloadN X0 d_sci_1 rfl (pc' := 2) rfl ?_
  refine E_getstatic X0 d_sci_2 (hw _ (List.mem_of_getElem? (i := 57) rfl)) Via.refl OS.2.2.1 (pc' := 5) rfl ?_
  intro T1 X2 e3
  refine E_static X2 (rm := rm_pci) d_sci_5 (hw _ (List.mem_of_getElem? (i := 59) rfl)) (hw _ (List.mem_of_getElem? (i := 60) rfl)) (hw _ (List.mem_of_getElem? (i := 58) rfl)) (hw _ (List.mem_of_getElem? (i := 61) rfl)) (by decide) (argsL := [(.int i), (.int n), G3]) (st := []) rfl (ct_pci l Z a0 hw G1 G3 OS i n X2.old h1 h2) (lenOf (pd_0) rfl) rfl (by decide) (by decide) (by decide) (Nat.le_of_ble_eq_true rfl) (pc' := 8) rfl ?_
  intro T4 _ X5 hQ6
  obtain ⟨rfl, e7⟩ := hQ6
  show Ends p e below s Z _ _ _ T4 (mkF m 8 #[.val (.int i), .val (.int n)] [(.int i)])
  refine E_pop X5 d_sci_8 rfl (pc' := 9) rfl ?_
  exact E_return X5 d_sci_9 rfl (by decide) (by decide) (⟨rfl, (e7.trans e3)⟩)
theorem d_lat_0 : decode jdk_42_method_154_code 0 = .ok (.getstatic 38, 3) := by decide +kernel
theorem d_lat_3 : decode jdk_42_method_154_code 3 = .ok (.ifCond .eq 14, 3) := by decide +kernel
theorem d_lat_6 : decode jdk_42_method_154_code 6 = .ok (.aload_n 0, 1) := by decide +kernel
theorem d_lat_7 : decode jdk_42_method_154_code 7 = .ok (.getfield 15, 3) := by decide +kernel
theorem d_lat_10 : decode jdk_42_method_154_code 10 = .ok (.ifCond .ne 7, 3) := by decide +kernel
theorem d_lat_13 : decode jdk_42_method_154_code 13 = .ok (.iconst 1, 1) := by decide +kernel
theorem d_lat_14 : decode jdk_42_method_154_code 14 = .ok (.goto 4, 3) := by decide +kernel
theorem d_lat_17 : decode jdk_42_method_154_code 17 = .ok (.iconst 0, 1) := by decide +kernel
theorem d_lat_18 : decode jdk_42_method_154_code 18 = .ok (.ireturn, 1) := by decide +kernel
abbrev rm_lat : Room := ({ frames := 0, cells := 0, slots := 0, locals := 0 } : Room)
def Q_lat (Z : State) (x : Addr) (cd : Int32) (h0 : Heap) (v : Option Value) (h : Heap) : Prop := ∃ z, v = some (.int z) ∧ h = h0 ∧ (cd = 0 → z = 1) ∧ (¬ cd = 0 → z = 0)
set_option maxRecDepth 65536 in
set_option maxHeartbeats 40000000 in
theorem ct_lat (l : Launch) (Z : State) (a0 : Array Value) (hw : ∀ d ∈ tables_1, d.before a0 Z = true) (G1 : Int32) (G3 : Value) (OS : Sts Z G1 G3) (x : Addr) (cd : Int32) {h0 : Heap} (O : Ext Z.heap h0) (C0 : Fld Z h0 x "java/lang/String" "coder" "B" (.int cd)) : Ct l Z (⟨"java/lang/String", "isLatin1", "()Z"⟩ : MethodName) jdk_42_method_154_code 1 (some .boolean) rm_lat #[(.ref x)] h0 (Q_lat Z x cd h0) := by
  refine Ct.of_body (Ls := #[.val (.ref x)]) (by decide +kernel) O (fun m => by first | rfl | (simp [entryFrame, mkF, argsToLocals, Value.category]; done) | (rcases ref_cases (Sts.ref OS) with rfl | ⟨r, rfl⟩ <;> rfl)) ?_
  intro p e s m below meth c T0 X0 e0
  subst e0
  refine E_getstatic X0 d_lat_0 (hw _ (List.mem_of_getElem? (i := 20) rfl)) Via.refl OS.1 (pc' := 3) rfl ?_
  intro T1 X2 e3
  rw [← e3] at C0
  refine E_ifF X2 d_lat_3 (XT.i0_eq_f OS.2.1) (pc' := 6) rfl ?_
  refine E_aloadN X2 d_lat_6 rfl rfl (pc' := 7) rfl ?_
  refine E_getfield X2 d_lat_7 (hw _ (List.mem_of_getElem? (i := 32) rfl)) Via.refl C0 (pc' := 10) rfl ?_
  intro T4 X5 e6
  rw [← e6] at C0
  by_cases hc : cd = 0
  · skip
    refine E_ifF X5 d_lat_10 (XT.i0_ne_f hc) (pc' := 13) rfl ?_
    refine E_iconst X5 (v := (1 : Int32)) d_lat_13 rfl (pc' := 14) rfl ?_
    refine E_goto X5 d_lat_14 (pc' := 18) (by decide) rfl ?_
    exact E_ireturnN X5 (t := .boolean) d_lat_18 rfl (by simp) (by decide) (by decide) (⟨_, rfl, (e6.trans e3), fun _ => rfl, fun q => absurd hc q⟩)
  · skip
    refine E_ifT X5 d_lat_10 (XT.i0_ne_t hc) (pc' := 17) (by decide) rfl ?_
    refine E_iconst X5 (v := (0 : Int32)) d_lat_17 rfl (pc' := 18) rfl ?_
    exact E_ireturnN X5 (t := .boolean) d_lat_18 rfl (by simp) (by decide) (by decide) (⟨_, rfl, (e6.trans e3), fun q => absurd q hc, fun _ => rfl⟩)
theorem d_lch_0 : decode jdk_43_method_2_code 0 = .ok (.iload_n 1, 1) := by decide +kernel
theorem d_lch_1 : decode jdk_43_method_2_code 1 = .ok (.aload_n 0, 1) := by decide +kernel
theorem d_lch_2 : decode jdk_43_method_2_code 2 = .ok (.arraylength, 1) := by decide +kernel
theorem d_lch_3 : decode jdk_43_method_2_code 3 = .ok (.invokestatic 9, 3) := by decide +kernel
theorem d_lch_6 : decode jdk_43_method_2_code 6 = .ok (.aload_n 0, 1) := by decide +kernel
theorem d_lch_7 : decode jdk_43_method_2_code 7 = .ok (.iload_n 1, 1) := by decide +kernel
theorem d_lch_8 : decode jdk_43_method_2_code 8 = .ok (.baload, 1) := by decide +kernel
theorem d_lch_9 : decode jdk_43_method_2_code 9 = .ok (.sipush 255, 3) := by decide +kernel
theorem d_lch_12 : decode jdk_43_method_2_code 12 = .ok (.iand, 1) := by decide +kernel
theorem d_lch_13 : decode jdk_43_method_2_code 13 = .ok (.i2c, 1) := by decide +kernel
theorem d_lch_14 : decode jdk_43_method_2_code 14 = .ok (.ireturn, 1) := by decide +kernel
abbrev rm_lch : Room := ({ frames := 2, cells := 0, slots := 0, locals := 27 } : Room)
def Q_lch (Z : State) (t : Addr) (kb : ClassId) (N j b : Int32) (vs : List Value) (h0 : Heap) (v : Option Value) (h : Heap) : Prop := v = some (.int (nar .char ((b &&& (255 : Int32)).toUInt32.toUInt16.toUInt32.toInt32))) ∧ h = h0
set_option maxRecDepth 65536 in
set_option maxHeartbeats 40000000 in
theorem ct_lch (l : Launch) (Z : State) (a0 : Array Value) (hw : ∀ d ∈ tables_1, d.before a0 Z = true) (G1 : Int32) (G3 : Value) (OS : Sts Z G1 G3) (t : Addr) (kb : ClassId) (N j b : Int32) (vs : List Value) {h0 : Heap} (O : Ext Z.heap h0) (V0 : Arv Z h0 t kb .byte N vs (.int (0 : Int32))) (h1 : ¬ j < 0) (h2 : j < N) (hv : vs.getD j.toNatClampNeg (.int (0 : Int32)) = .int b) : Ct l Z (⟨"java/lang/StringLatin1", "charAt", "([BI)C"⟩ : MethodName) jdk_43_method_2_code 2 (some .char) rm_lch #[(.ref t), (.int j)] h0 (Q_lch Z t kb N j b vs h0) := by
  refine Ct.of_body (Ls := #[.val (.ref t), .val (.int j)]) (by decide +kernel) O (fun m => by first | rfl | (simp [entryFrame, mkF, argsToLocals, Value.category]; done) | (rcases ref_cases (Sts.ref OS) with rfl | ⟨r, rfl⟩ <;> rfl)) ?_
  intro p e s m below meth c T0 X0 e0
  subst e0
  refine E_iloadN X0 d_lch_0 rfl (pc' := 1) rfl ?_
  refine E_aloadN X0 d_lch_1 rfl rfl (pc' := 2) rfl ?_
  refine E_arraylength X0 d_lch_2 V0 (pc' := 3) rfl ?_
  refine E_static X0 (rm := rm_sci) d_lch_3 (hw _ (List.mem_of_getElem? (i := 54) rfl)) (hw _ (List.mem_of_getElem? (i := 55) rfl)) (hw _ (List.mem_of_getElem? (i := 9) rfl)) (hw _ (List.mem_of_getElem? (i := 56) rfl)) (by decide) (argsL := [(.int j), (.int N)]) (st := []) rfl (ct_sci l Z a0 hw G1 G3 OS j N X0.old h1 h2) (lenOf (pd_1) rfl) rfl (by decide) (by decide) (by decide) (Nat.le_of_ble_eq_true rfl) (pc' := 6) rfl ?_
  intro T1 _ X2 hQ3
  obtain ⟨rfl, e4⟩ := hQ3
  rw [← e4] at V0
  show Ends p e below s Z _ _ _ T1 (mkF m 6 #[.val (.ref t), .val (.int j)] [])
  refine E_aloadN X2 d_lch_6 rfl rfl (pc' := 7) rfl ?_
  refine E_iloadN X2 d_lch_7 rfl (pc' := 8) rfl ?_
  refine E_baload X2 (v := (.int b)) d_lch_8 V0 ⟨h1, h2⟩ hv (pc' := 9) rfl ?_
  refine E_sipush X2 (v := (255 : Int32)) d_lch_9 rfl (pc' := 12) rfl ?_
  refine E_iand X2 d_lch_12 rfl (pc' := 13) rfl ?_
  refine E_i2c X2 d_lch_13 rfl (pc' := 14) rfl ?_
  exact E_ireturnN X2 (t := .char) d_lch_14 rfl (by simp) (by decide) (by decide) (⟨rfl, e4⟩)
theorem d_ulen_0 : decode jdk_52_method_6_code 0 = .ok (.aload_n 0, 1) := by decide +kernel
theorem d_ulen_1 : decode jdk_52_method_6_code 1 = .ok (.arraylength, 1) := by decide +kernel
theorem d_ulen_2 : decode jdk_52_method_6_code 2 = .ok (.iconst 1, 1) := by decide +kernel
theorem d_ulen_3 : decode jdk_52_method_6_code 3 = .ok (.ishr, 1) := by decide +kernel
theorem d_ulen_4 : decode jdk_52_method_6_code 4 = .ok (.ireturn, 1) := by decide +kernel
abbrev rm_ulen : Room := ({ frames := 0, cells := 0, slots := 0, locals := 0 } : Room)
def Q_ulen (Z : State) (t : Addr) (kb : ClassId) (n : Nat) (vs : List Value) (h0 : Heap) (v : Option Value) (h : Heap) : Prop := v = some (.int (Int32.ofNat n)) ∧ h = h0
set_option maxRecDepth 65536 in
set_option maxHeartbeats 40000000 in
theorem ct_ulen (l : Launch) (Z : State) (a0 : Array Value) (hw : ∀ d ∈ tables_1, d.before a0 Z = true) (G1 : Int32) (G3 : Value) (OS : Sts Z G1 G3) (t : Addr) (kb : ClassId) (n : Nat) (vs : List Value) {h0 : Heap} (O : Ext Z.heap h0) (V0 : Arv Z h0 t kb .byte (Int32.ofNat (2 * n)) vs (.int (0 : Int32))) (hn : 2 * n < 2147483648) : Ct l Z (⟨"java/lang/StringUTF16", "length", "([B)I"⟩ : MethodName) jdk_52_method_6_code 1 (some .int) rm_ulen #[(.ref t)] h0 (Q_ulen Z t kb n vs h0) := by
  refine Ct.of_body (Ls := #[.val (.ref t)]) (by decide +kernel) O (fun m => by first | rfl | (simp [entryFrame, mkF, argsToLocals, Value.category]; done) | (rcases ref_cases (Sts.ref OS) with rfl | ⟨r, rfl⟩ <;> rfl)) ?_
  intro p e s m below meth c T0 X0 e0
  subst e0
  refine E_aloadN X0 d_ulen_0 rfl rfl (pc' := 1) rfl ?_
  refine E_arraylength X0 d_ulen_1 V0 (pc' := 2) rfl ?_
  refine E_iconst X0 (v := (1 : Int32)) d_ulen_2 rfl (pc' := 3) rfl ?_
  refine E_ishr X0 (v := (Int32.ofNat n)) d_ulen_3 (o_half hn) (pc' := 4) rfl ?_
  exact E_ireturnI X0 d_ulen_4 rfl (by decide) (by decide) (⟨rfl, rfl⟩)
theorem d_uci_0 : decode jdk_52_method_91_code 0 = .ok (.iload_n 0, 1) := by decide +kernel
theorem d_uci_1 : decode jdk_52_method_91_code 1 = .ok (.aload_n 1, 1) := by decide +kernel
theorem d_uci_2 : decode jdk_52_method_91_code 2 = .ok (.invokestatic 48, 3) := by decide +kernel
theorem d_uci_5 : decode jdk_52_method_91_code 5 = .ok (.invokestatic 414, 3) := by decide +kernel
theorem d_uci_8 : decode jdk_52_method_91_code 8 = .ok (.return_, 1) := by decide +kernel
abbrev rm_uci : Room := ({ frames := 2, cells := 0, slots := 0, locals := 27 } : Room)
def Q_uci (Z : State) (t : Addr) (kb : ClassId) (cs : List Int32) (i : Nat) (h0 : Heap) (v : Option Value) (h : Heap) : Prop := v = none ∧ h = h0
set_option maxRecDepth 65536 in
set_option maxHeartbeats 40000000 in
theorem ct_uci (l : Launch) (Z : State) (a0 : Array Value) (hw : ∀ d ∈ tables_1, d.before a0 Z = true) (G1 : Int32) (G3 : Value) (OS : Sts Z G1 G3) (t : Addr) (kb : ClassId) (cs : List Int32) (i : Nat) {h0 : Heap} (O : Ext Z.heap h0) (V0 : Arv Z h0 t kb .byte (Int32.ofNat (2 * cs.length)) (u16 cs) (.int (0 : Int32))) (hi : i < cs.length) (hl : cs.length ≤ 4000) : Ct l Z (⟨"java/lang/StringUTF16", "checkIndex", "(I[B)V"⟩ : MethodName) jdk_52_method_91_code 2 none rm_uci #[(.int (Int32.ofNat i)), (.ref t)] h0 (Q_uci Z t kb cs i h0) := by
  refine Ct.of_body (Ls := #[.val (.int (Int32.ofNat i)), .val (.ref t)]) (by decide +kernel) O (fun m => by first | rfl | (simp [entryFrame, mkF, argsToLocals, Value.category]; done) | (rcases ref_cases (Sts.ref OS) with rfl | ⟨r, rfl⟩ <;> rfl)) ?_
  intro p e s m below meth c T0 X0 e0
  subst e0
  refine E_iloadN X0 d_uci_0 rfl (pc' := 1) rfl ?_
  refine E_aloadN X0 d_uci_1 rfl rfl (pc' := 2) rfl ?_
  refine E_static X0 (rm := rm_ulen) d_uci_2 (hw _ (List.mem_of_getElem? (i := 116) rfl)) (hw _ (List.mem_of_getElem? (i := 117) rfl)) (hw _ (List.mem_of_getElem? (i := 23) rfl)) (hw _ (List.mem_of_getElem? (i := 118) rfl)) (by decide) (argsL := [(.ref t)]) (st := [(.int (Int32.ofNat i))]) rfl (ct_ulen l Z a0 hw G1 G3 OS t kb cs.length (u16 cs) X0.old V0 (by omega)) (lenOf (pd_2) rfl) rfl (by decide) (by decide) (by decide) (Nat.le_of_ble_eq_true rfl) (pc' := 5) rfl ?_
  intro T1 _ X2 hQ3
  obtain ⟨rfl, e4⟩ := hQ3
  rw [← e4] at V0
  show Ends p e below s Z _ _ _ T1 (mkF m 5 #[.val (.int (Int32.ofNat i)), .val (.ref t)] [(.int (Int32.ofNat cs.length)), (.int (Int32.ofNat i))])
  refine E_static X2 (rm := rm_sci) d_uci_5 (hw _ (List.mem_of_getElem? (i := 119) rfl)) (hw _ (List.mem_of_getElem? (i := 55) rfl)) (hw _ (List.mem_of_getElem? (i := 9) rfl)) (hw _ (List.mem_of_getElem? (i := 56) rfl)) (by decide) (argsL := [(.int (Int32.ofNat i)), (.int (Int32.ofNat cs.length))]) (st := []) rfl (ct_sci l Z a0 hw G1 G3 OS (Int32.ofNat i) (Int32.ofNat cs.length) X2.old (o_nn (by omega)) (o_lt hi (by omega))) (lenOf (pd_1) rfl) rfl (by decide) (by decide) (by decide) (Nat.le_of_ble_eq_true rfl) (pc' := 8) rfl ?_
  intro T5 _ X6 hQ7
  obtain ⟨rfl, e8⟩ := hQ7
  rw [← e8] at V0
  show Ends p e below s Z _ _ _ T5 (mkF m 8 #[.val (.int (Int32.ofNat i)), .val (.ref t)] [])
  exact E_return X6 d_uci_8 rfl (by decide) (by decide) (⟨rfl, (e8.trans e4)⟩)
theorem d_ugc_0 : decode jdk_52_method_5_code 0 = .ok (.getstatic 44, 3) := by decide +kernel
theorem d_ugc_3 : decode jdk_52_method_5_code 3 = .ok (.ifCond .ne 25, 3) := by decide +kernel
theorem d_ugc_28 : decode jdk_52_method_5_code 28 = .ok (.iload_n 1, 1) := by decide +kernel
theorem d_ugc_29 : decode jdk_52_method_5_code 29 = .ok (.iconst 1, 1) := by decide +kernel
theorem d_ugc_30 : decode jdk_52_method_5_code 30 = .ok (.ishl, 1) := by decide +kernel
theorem d_ugc_31 : decode jdk_52_method_5_code 31 = .ok (.istore_n 1, 1) := by decide +kernel
theorem d_ugc_32 : decode jdk_52_method_5_code 32 = .ok (.aload_n 0, 1) := by decide +kernel
theorem d_ugc_33 : decode jdk_52_method_5_code 33 = .ok (.iload_n 1, 1) := by decide +kernel
theorem d_ugc_34 : decode jdk_52_method_5_code 34 = .ok (.iinc 1 1, 3) := by decide +kernel
theorem d_ugc_37 : decode jdk_52_method_5_code 37 = .ok (.baload, 1) := by decide +kernel
theorem d_ugc_38 : decode jdk_52_method_5_code 38 = .ok (.sipush 255, 3) := by decide +kernel
theorem d_ugc_41 : decode jdk_52_method_5_code 41 = .ok (.iand, 1) := by decide +kernel
theorem d_ugc_42 : decode jdk_52_method_5_code 42 = .ok (.getstatic 59, 3) := by decide +kernel
theorem d_ugc_45 : decode jdk_52_method_5_code 45 = .ok (.ishl, 1) := by decide +kernel
theorem d_ugc_46 : decode jdk_52_method_5_code 46 = .ok (.aload_n 0, 1) := by decide +kernel
theorem d_ugc_47 : decode jdk_52_method_5_code 47 = .ok (.iload_n 1, 1) := by decide +kernel
theorem d_ugc_48 : decode jdk_52_method_5_code 48 = .ok (.baload, 1) := by decide +kernel
theorem d_ugc_49 : decode jdk_52_method_5_code 49 = .ok (.sipush 255, 3) := by decide +kernel
theorem d_ugc_52 : decode jdk_52_method_5_code 52 = .ok (.iand, 1) := by decide +kernel
theorem d_ugc_53 : decode jdk_52_method_5_code 53 = .ok (.getstatic 63, 3) := by decide +kernel
theorem d_ugc_56 : decode jdk_52_method_5_code 56 = .ok (.ishl, 1) := by decide +kernel
theorem d_ugc_57 : decode jdk_52_method_5_code 57 = .ok (.ior, 1) := by decide +kernel
theorem d_ugc_58 : decode jdk_52_method_5_code 58 = .ok (.i2c, 1) := by decide +kernel
theorem d_ugc_59 : decode jdk_52_method_5_code 59 = .ok (.ireturn, 1) := by decide +kernel
abbrev rm_ugc : Room := ({ frames := 0, cells := 0, slots := 0, locals := 0 } : Room)
def Q_ugc (Z : State) (t : Addr) (kb : ClassId) (cs : List Int32) (i : Nat) (h0 : Heap) (v : Option Value) (h : Heap) : Prop := v = some (.int (cs.getD i 0)) ∧ h = h0
set_option maxRecDepth 65536 in
set_option maxHeartbeats 40000000 in
theorem ct_ugc (l : Launch) (Z : State) (a0 : Array Value) (hw : ∀ d ∈ tables_1, d.before a0 Z = true) (G1 : Int32) (G3 : Value) (OS : Sts Z G1 G3) (t : Addr) (kb : ClassId) (cs : List Int32) (i : Nat) {h0 : Heap} (O : Ext Z.heap h0) (V0 : Arv Z h0 t kb .byte (Int32.ofNat (2 * cs.length)) (u16 cs) (.int (0 : Int32))) (hi : i < cs.length) (hl : cs.length ≤ 4000) (hpc : ¬ cs.getD i 0 < 0 ∧ ¬ (65535 : Int32) < cs.getD i 0) : Ct l Z (⟨"java/lang/StringUTF16", "getChar", "([BI)C"⟩ : MethodName) jdk_52_method_5_code 2 (some .char) rm_ugc #[(.ref t), (.int (Int32.ofNat i))] h0 (Q_ugc Z t kb cs i h0) := by
  refine Ct.of_body (Ls := #[.val (.ref t), .val (.int (Int32.ofNat i))]) (by decide +kernel) O (fun m => by first | rfl | (simp [entryFrame, mkF, argsToLocals, Value.category]; done) | (rcases ref_cases (Sts.ref OS) with rfl | ⟨r, rfl⟩ <;> rfl)) ?_
  intro p e s m below meth c T0 X0 e0
  subst e0
  have hg := u16_get cs i hi
  refine E_getstatic X0 d_ugc_0 (hw _ (List.mem_of_getElem? (i := 104) rfl)) Via.refl OS.2.2.2.2.1 (pc' := 3) rfl ?_
  intro T1 X2 e3
  rw [← e3] at V0
  refine E_ifT X2 d_ugc_3 (XT.i0_ne_t (by decide)) (pc' := 28) (by decide) rfl ?_
  refine E_iloadN X2 d_ugc_28 rfl (pc' := 29) rfl ?_
  refine E_iconst X2 (v := (1 : Int32)) d_ugc_29 rfl (pc' := 30) rfl ?_
  refine E_ishl X2 (v := (Int32.ofNat (2 * i))) d_ugc_30 (o_two (by omega)) (pc' := 31) rfl ?_
  refine E_istoreN X2 d_ugc_31 (l' := #[.val (.ref t), .val (.int (Int32.ofNat (2 * i)))]) rfl (pc' := 32) rfl ?_
  refine E_aloadN X2 d_ugc_32 rfl rfl (pc' := 33) rfl ?_
  refine E_iloadN X2 d_ugc_33 rfl (pc' := 34) rfl ?_
  refine E_iinc X2 (y := (Int32.ofNat (2 * i + 1))) d_ugc_34 o_add rfl (l' := #[.val (.ref t), .val (.int (Int32.ofNat (2 * i + 1)))]) rfl (pc' := 37) rfl ?_
  refine E_baload X2 (v := (.int ((cs.getD i 0 >>> ((0 : Int32) &&& 31)).toInt8.toInt32))) d_ugc_37 V0 ⟨o_nn (by omega), o_lt (by omega) (by omega)⟩ (by rw [o_cl (by omega)]; simp only [List.getD_eq_getElem?_getD, hg.1, Option.getD_some]) (pc' := 38) rfl ?_
  refine E_sipush X2 (v := (255 : Int32)) d_ugc_38 rfl (pc' := 41) rfl ?_
  refine E_iand X2 d_ugc_41 rfl (pc' := 42) rfl ?_
  refine E_getstatic X2 d_ugc_42 (hw _ (List.mem_of_getElem? (i := 105) rfl)) Via.refl OS.2.2.2.2.2.1 (pc' := 45) rfl ?_
  intro T4 X5 e6
  rw [← e6] at V0
  refine E_ishl X5 d_ugc_45 rfl (pc' := 46) rfl ?_
  refine E_aloadN X5 d_ugc_46 rfl rfl (pc' := 47) rfl ?_
  refine E_iloadN X5 d_ugc_47 rfl (pc' := 48) rfl ?_
  refine E_baload X5 (v := (.int ((cs.getD i 0 >>> ((8 : Int32) &&& 31)).toInt8.toInt32))) d_ugc_48 V0 ⟨o_nn (by omega), o_lt (by omega) (by omega)⟩ (by rw [o_cl (by omega)]; simp only [List.getD_eq_getElem?_getD, hg.2, Option.getD_some]) (pc' := 49) rfl ?_
  refine E_sipush X5 (v := (255 : Int32)) d_ugc_49 rfl (pc' := 52) rfl ?_
  refine E_iand X5 d_ugc_52 rfl (pc' := 53) rfl ?_
  refine E_getstatic X5 d_ugc_53 (hw _ (List.mem_of_getElem? (i := 106) rfl)) Via.refl OS.2.2.2.2.2.2 (pc' := 56) rfl ?_
  intro T7 X8 e9
  rw [← e9] at V0
  refine E_ishl X8 d_ugc_56 rfl (pc' := 57) rfl ?_
  refine E_ior X8 d_ugc_57 rfl (pc' := 58) rfl ?_
  refine E_i2c X8 d_ugc_58 rfl (pc' := 59) rfl ?_
  exact E_ireturnN X8 (t := .char) d_ugc_59 rfl (by simp) (by decide) (by decide) (⟨by rw [o_u16 hpc.1 hpc.2], (e9.trans (e6.trans e3))⟩)
theorem d_uch_0 : decode jdk_52_method_83_code 0 = .ok (.iload_n 1, 1) := by decide +kernel
theorem d_uch_1 : decode jdk_52_method_83_code 1 = .ok (.aload_n 0, 1) := by decide +kernel
theorem d_uch_2 : decode jdk_52_method_83_code 2 = .ok (.invokestatic 67, 3) := by decide +kernel
theorem d_uch_5 : decode jdk_52_method_83_code 5 = .ok (.aload_n 0, 1) := by decide +kernel
theorem d_uch_6 : decode jdk_52_method_83_code 6 = .ok (.iload_n 1, 1) := by decide +kernel
theorem d_uch_7 : decode jdk_52_method_83_code 7 = .ok (.invokestatic 71, 3) := by decide +kernel
theorem d_uch_10 : decode jdk_52_method_83_code 10 = .ok (.ireturn, 1) := by decide +kernel
abbrev rm_uch : Room := ({ frames := 3, cells := 0, slots := 0, locals := 40 } : Room)
def Q_uch (Z : State) (t : Addr) (kb : ClassId) (cs : List Int32) (i : Nat) (h0 : Heap) (v : Option Value) (h : Heap) : Prop := v = some (.int (cs.getD i 0)) ∧ h = h0
set_option maxRecDepth 65536 in
set_option maxHeartbeats 40000000 in
theorem ct_uch (l : Launch) (Z : State) (a0 : Array Value) (hw : ∀ d ∈ tables_1, d.before a0 Z = true) (G1 : Int32) (G3 : Value) (OS : Sts Z G1 G3) (t : Addr) (kb : ClassId) (cs : List Int32) (i : Nat) {h0 : Heap} (O : Ext Z.heap h0) (V0 : Arv Z h0 t kb .byte (Int32.ofNat (2 * cs.length)) (u16 cs) (.int (0 : Int32))) (hi : i < cs.length) (hl : cs.length ≤ 4000) (hpc : ¬ cs.getD i 0 < 0 ∧ ¬ (65535 : Int32) < cs.getD i 0) : Ct l Z (⟨"java/lang/StringUTF16", "charAt", "([BI)C"⟩ : MethodName) jdk_52_method_83_code 2 (some .char) rm_uch #[(.ref t), (.int (Int32.ofNat i))] h0 (Q_uch Z t kb cs i h0) := by
  refine Ct.of_body (Ls := #[.val (.ref t), .val (.int (Int32.ofNat i))]) (by decide +kernel) O (fun m => by first | rfl | (simp [entryFrame, mkF, argsToLocals, Value.category]; done) | (rcases ref_cases (Sts.ref OS) with rfl | ⟨r, rfl⟩ <;> rfl)) ?_
  intro p e s m below meth c T0 X0 e0
  subst e0
  refine E_iloadN X0 d_uch_0 rfl (pc' := 1) rfl ?_
  refine E_aloadN X0 d_uch_1 rfl rfl (pc' := 2) rfl ?_
  refine E_static X0 (rm := rm_uci) d_uch_2 (hw _ (List.mem_of_getElem? (i := 113) rfl)) (hw _ (List.mem_of_getElem? (i := 114) rfl)) (hw _ (List.mem_of_getElem? (i := 23) rfl)) (hw _ (List.mem_of_getElem? (i := 115) rfl)) (by decide) (argsL := [(.int (Int32.ofNat i)), (.ref t)]) (st := []) rfl (ct_uci l Z a0 hw G1 G3 OS t kb cs i X0.old V0 hi hl) (lenOf (pd_3) rfl) rfl (by decide) (by decide) (by decide) (Nat.le_of_ble_eq_true rfl) (pc' := 5) rfl ?_
  intro T1 _ X2 hQ3
  obtain ⟨rfl, e4⟩ := hQ3
  rw [← e4] at V0
  show Ends p e below s Z _ _ _ T1 (mkF m 5 #[.val (.ref t), .val (.int (Int32.ofNat i))] [])
  refine E_aloadN X2 d_uch_5 rfl rfl (pc' := 6) rfl ?_
  refine E_iloadN X2 d_uch_6 rfl (pc' := 7) rfl ?_
  refine E_static X2 (rm := rm_ugc) d_uch_7 (hw _ (List.mem_of_getElem? (i := 107) rfl)) (hw _ (List.mem_of_getElem? (i := 108) rfl)) (hw _ (List.mem_of_getElem? (i := 23) rfl)) (hw _ (List.mem_of_getElem? (i := 109) rfl)) (by decide) (argsL := [(.ref t), (.int (Int32.ofNat i))]) (st := []) rfl (ct_ugc l Z a0 hw G1 G3 OS t kb cs i X2.old V0 hi hl hpc) (lenOf (pd_4) rfl) rfl (by decide) (by decide) (by decide) (Nat.le_of_ble_eq_true rfl) (pc' := 10) rfl ?_
  intro T5 _ X6 hQ7
  obtain ⟨rfl, e8⟩ := hQ7
  rw [← e8] at V0
  show Ends p e below s Z _ _ _ T5 (mkF m 10 #[.val (.ref t), .val (.int (Int32.ofNat i))] [(.int (cs.getD i 0))])
  exact E_ireturnN X6 (t := .char) d_uch_10 rfl (by simp) (by decide) (by decide) (⟨by rw [o_nar hpc.1 hpc.2], (e8.trans e4)⟩)
theorem d_sch_0 : decode jdk_42_method_56_code 0 = .ok (.aload_n 0, 1) := by decide +kernel
theorem d_sch_1 : decode jdk_42_method_56_code 1 = .ok (.invokevirtual 492, 3) := by decide +kernel
theorem d_sch_4 : decode jdk_42_method_56_code 4 = .ok (.ifCond .eq 12, 3) := by decide +kernel
theorem d_sch_7 : decode jdk_42_method_56_code 7 = .ok (.aload_n 0, 1) := by decide +kernel
theorem d_sch_8 : decode jdk_42_method_56_code 8 = .ok (.getfield 9, 3) := by decide +kernel
theorem d_sch_11 : decode jdk_42_method_56_code 11 = .ok (.iload_n 1, 1) := by decide +kernel
theorem d_sch_12 : decode jdk_42_method_56_code 12 = .ok (.invokestatic 495, 3) := by decide +kernel
theorem d_sch_15 : decode jdk_42_method_56_code 15 = .ok (.ireturn, 1) := by decide +kernel
theorem d_sch_16 : decode jdk_42_method_56_code 16 = .ok (.aload_n 0, 1) := by decide +kernel
theorem d_sch_17 : decode jdk_42_method_56_code 17 = .ok (.getfield 9, 3) := by decide +kernel
theorem d_sch_20 : decode jdk_42_method_56_code 20 = .ok (.iload_n 1, 1) := by decide +kernel
theorem d_sch_21 : decode jdk_42_method_56_code 21 = .ok (.invokestatic 498, 3) := by decide +kernel
theorem d_sch_24 : decode jdk_42_method_56_code 24 = .ok (.ireturn, 1) := by decide +kernel
abbrev rm_sch : Room := ({ frames := 4, cells := 0, slots := 0, locals := 53 } : Room)
def Q_sch (Z : State) (x t : Addr) (cs : List Int32) (i : Nat) (h0 : Heap) (v : Option Value) (h : Heap) : Prop := v = some (.int (cs.getD i 0)) ∧ h = h0
set_option maxRecDepth 65536 in
set_option maxHeartbeats 40000000 in
theorem ct_sch (l : Launch) (Z : State) (a0 : Array Value) (hw : ∀ d ∈ tables_1, d.before a0 Z = true) (G1 : Int32) (G3 : Value) (OS : Sts Z G1 G3) (x t : Addr) (cs : List Int32) (i : Nat) {h0 : Heap} (O : Ext Z.heap h0) (S0 : OStr Z h0 x t cs) (hi : i < cs.length) : Ct l Z (⟨"java/lang/String", "charAt", "(I)C"⟩ : MethodName) jdk_42_method_56_code 2 (some .char) rm_sch #[(.ref x), (.int (Int32.ofNat i))] h0 (Q_sch Z x t cs i h0) := by
  refine Ct.of_body (Ls := #[.val (.ref x), .val (.int (Int32.ofNat i))]) (by decide +kernel) O (fun m => by first | rfl | (simp [entryFrame, mkF, argsToLocals, Value.category]; done) | (rcases ref_cases (Sts.ref OS) with rfl | ⟨r, rfl⟩ <;> rfl)) ?_
  intro p e s m below meth c T0 X0 e0
  subst e0
  obtain ⟨kb, cd, N, vs, E0, F0, C0, V0, hcod, hpc, hlen⟩ := S0
  have hm := own_mem hi
  rcases hcod with ⟨rfl, rfl, rfl, hl8⟩ | ⟨rfl, rfl, rfl⟩
  · skip
    refine E_aloadN X0 d_sch_0 rfl rfl (pc' := 1) rfl ?_
    refine E_virtual X0 (rm := rm_lat) (a := x) (D := "java/lang/String") d_sch_1 (hw _ (List.mem_of_getElem? (i := 45) rfl)) (hw _ (List.mem_of_getElem? (i := 46) rfl)) (hw _ (List.mem_of_getElem? (i := 48) rfl)) (hw _ (List.mem_of_getElem? (i := 47) rfl)) (notFace_of_selects (args := #[]) (mvT X0.hZ (hw _ (List.mem_of_getElem? (i := 48) rfl)))) (by decide) E0 (hw _ (List.mem_of_getElem? (i := 9) rfl)) (hw _ (List.mem_of_getElem? (i := 49) rfl)) (argsL := []) (st := []) rfl (ct_lat l Z a0 hw G1 G3 OS x 0 X0.old C0) (lenOf (pd_5) rfl) rfl (by decide) (by decide) (by decide) (Nat.le_of_ble_eq_true rfl) (pc' := 4) rfl ?_
    intro T2 _ X3 hQ4
    obtain ⟨z1, rfl, e5, yz1, nz1⟩ := hQ4
    rw [← e5] at E0 F0 C0 V0
    obtain rfl := (yz1 rfl)
    show Ends p e below s Z _ _ _ T2 (mkF m 4 #[.val (.ref x), .val (.int (Int32.ofNat i))] [(.int (1 : Int32))])
    refine E_ifF X3 d_sch_4 (XT.i0_eq_f (by decide)) (pc' := 7) rfl ?_
    refine E_aloadN X3 d_sch_7 rfl rfl (pc' := 8) rfl ?_
    refine E_getfield X3 d_sch_8 (hw _ (List.mem_of_getElem? (i := 34) rfl)) Via.refl F0 (pc' := 11) rfl ?_
    intro T6 X7 e8
    rw [← e8] at E0 F0 C0 V0
    refine E_iloadN X7 d_sch_11 rfl (pc' := 12) rfl ?_
    refine E_static X7 (rm := rm_lch) d_sch_12 (hw _ (List.mem_of_getElem? (i := 50) rfl)) (hw _ (List.mem_of_getElem? (i := 51) rfl)) (hw _ (List.mem_of_getElem? (i := 52) rfl)) (hw _ (List.mem_of_getElem? (i := 53) rfl)) (by decide) (argsL := [(.ref t), (.int (Int32.ofNat i))]) (st := []) rfl (ct_lch l Z a0 hw G1 G3 OS t kb (Int32.ofNat cs.length) (Int32.ofNat i) (cs.getD i 0).toInt8.toInt32 (cs.map lo8) X7.old V0 (o_nn (by omega)) (o_lt hi (by omega)) (own_getD lo8 hi hlen)) (lenOf (pd_4) rfl) rfl (by decide) (by decide) (by decide) (Nat.le_of_ble_eq_true rfl) (pc' := 15) rfl ?_
    intro T9 _ X10 hQ11
    obtain ⟨rfl, e12⟩ := hQ11
    rw [← e12] at E0 F0 C0 V0
    show Ends p e below s Z _ _ _ T9 (mkF m 15 #[.val (.ref x), .val (.int (Int32.ofNat i))] [(.int (nar .char (((cs.getD i 0).toInt8.toInt32 &&& (255 : Int32)).toUInt32.toUInt16.toUInt32.toInt32)))])
    exact E_ireturnN X10 (t := .char) d_sch_15 rfl (by simp) (by decide) (by decide) (⟨by rw [o_lat (hpc _ hm).1 (hl8 _ hm), o_nar (hpc _ hm).1 (hpc _ hm).2], (e12.trans (e8.trans e5))⟩)
  · skip
    refine E_aloadN X0 d_sch_0 rfl rfl (pc' := 1) rfl ?_
    refine E_virtual X0 (rm := rm_lat) (a := x) (D := "java/lang/String") d_sch_1 (hw _ (List.mem_of_getElem? (i := 45) rfl)) (hw _ (List.mem_of_getElem? (i := 46) rfl)) (hw _ (List.mem_of_getElem? (i := 48) rfl)) (hw _ (List.mem_of_getElem? (i := 47) rfl)) (notFace_of_selects (args := #[]) (mvT X0.hZ (hw _ (List.mem_of_getElem? (i := 48) rfl)))) (by decide) E0 (hw _ (List.mem_of_getElem? (i := 9) rfl)) (hw _ (List.mem_of_getElem? (i := 49) rfl)) (argsL := []) (st := []) rfl (ct_lat l Z a0 hw G1 G3 OS x 1 X0.old C0) (lenOf (pd_5) rfl) rfl (by decide) (by decide) (by decide) (Nat.le_of_ble_eq_true rfl) (pc' := 4) rfl ?_
    intro T14 _ X15 hQ16
    obtain ⟨z13, rfl, e17, yz13, nz13⟩ := hQ16
    rw [← e17] at E0 F0 C0 V0
    obtain rfl := (nz13 (by decide))
    show Ends p e below s Z _ _ _ T14 (mkF m 4 #[.val (.ref x), .val (.int (Int32.ofNat i))] [(.int (0 : Int32))])
    refine E_ifT X15 d_sch_4 (XT.i0_eq_t (by decide)) (pc' := 16) (by decide) rfl ?_
    refine E_aloadN X15 d_sch_16 rfl rfl (pc' := 17) rfl ?_
    refine E_getfield X15 d_sch_17 (hw _ (List.mem_of_getElem? (i := 34) rfl)) Via.refl F0 (pc' := 20) rfl ?_
    intro T18 X19 e20
    rw [← e20] at E0 F0 C0 V0
    refine E_iloadN X19 d_sch_20 rfl (pc' := 21) rfl ?_
    refine E_static X19 (rm := rm_uch) d_sch_21 (hw _ (List.mem_of_getElem? (i := 110) rfl)) (hw _ (List.mem_of_getElem? (i := 111) rfl)) (hw _ (List.mem_of_getElem? (i := 23) rfl)) (hw _ (List.mem_of_getElem? (i := 112) rfl)) (by decide) (argsL := [(.ref t), (.int (Int32.ofNat i))]) (st := []) rfl (ct_uch l Z a0 hw G1 G3 OS t kb cs i X19.old V0 hi hlen (hpc _ hm)) (lenOf (pd_4) rfl) rfl (by decide) (by decide) (by decide) (Nat.le_of_ble_eq_true rfl) (pc' := 24) rfl ?_
    intro T21 _ X22 hQ23
    obtain ⟨rfl, e24⟩ := hQ23
    rw [← e24] at E0 F0 C0 V0
    show Ends p e below s Z _ _ _ T21 (mkF m 24 #[.val (.ref x), .val (.int (Int32.ofNat i))] [(.int (cs.getD i 0))])
    exact E_ireturnN X22 (t := .char) d_sch_24 rfl (by simp) (by decide) (by decide) (⟨by rw [o_nar (hpc _ hm).1 (hpc _ hm).2], (e24.trans (e20.trans e17))⟩)
theorem d_nbl_0 : decode jdk_52_method_3_code 0 = .ok (.iload_n 0, 1) := by decide +kernel
theorem d_nbl_1 : decode jdk_52_method_3_code 1 = .ok (.ifCond .ge 11, 3) := by decide +kernel
theorem d_nbl_12 : decode jdk_52_method_3_code 12 = .ok (.iload_n 0, 1) := by decide +kernel
theorem d_nbl_13 : decode jdk_52_method_3_code 13 = .ok (.ldc 20, 2) := by decide +kernel
theorem d_nbl_15 : decode jdk_52_method_3_code 15 = .ok (.if_icmp .lt 40, 3) := by decide +kernel
theorem d_nbl_55 : decode jdk_52_method_3_code 55 = .ok (.iload_n 0, 1) := by decide +kernel
theorem d_nbl_56 : decode jdk_52_method_3_code 56 = .ok (.iconst 1, 1) := by decide +kernel
theorem d_nbl_57 : decode jdk_52_method_3_code 57 = .ok (.ishl, 1) := by decide +kernel
theorem d_nbl_58 : decode jdk_52_method_3_code 58 = .ok (.ireturn, 1) := by decide +kernel
abbrev rm_nbl : Room := ({ frames := 0, cells := 0, slots := 0, locals := 0 } : Room)
def Q_nbl (Z : State) (n : Nat) (h0 : Heap) (v : Option Value) (h : Heap) : Prop := v = some (.int (Int32.ofNat (2 * n))) ∧ h = h0
set_option maxRecDepth 65536 in
set_option maxHeartbeats 40000000 in
theorem ct_nbl (l : Launch) (Z : State) (a0 : Array Value) (hw : ∀ d ∈ tables_1, d.before a0 Z = true) (G1 : Int32) (G3 : Value) (OS : Sts Z G1 G3) (n : Nat) {h0 : Heap} (O : Ext Z.heap h0) (hn : n ≤ 4000) : Ct l Z (⟨"java/lang/StringUTF16", "newBytesLength", "(I)I"⟩ : MethodName) jdk_52_method_3_code 1 (some .int) rm_nbl #[(.int (Int32.ofNat n))] h0 (Q_nbl Z n h0) := by
  refine Ct.of_body (Ls := #[.val (.int (Int32.ofNat n))]) (by decide +kernel) O (fun m => by first | rfl | (simp [entryFrame, mkF, argsToLocals, Value.category]; done) | (rcases ref_cases (Sts.ref OS) with rfl | ⟨r, rfl⟩ <;> rfl)) ?_
  intro p e s m below meth c T0 X0 e0
  subst e0
  refine E_iloadN X0 d_nbl_0 rfl (pc' := 1) rfl ?_
  refine E_ifT X0 d_nbl_1 (XT.i0_ge_t (o_nn (by omega))) (pc' := 12) (by decide) rfl ?_
  refine E_iloadN X0 d_nbl_12 rfl (pc' := 13) rfl ?_
  refine E_ldcI X0 (v := (1073741823 : Int32)) d_nbl_13 (hw _ (List.mem_of_getElem? (i := 100) rfl)) (pc' := 15) rfl ?_
  refine E_icT X0 d_nbl_15 (XT.ii_lt_t (o_ltc hn)) (pc' := 55) (by decide) rfl ?_
  refine E_iloadN X0 d_nbl_55 rfl (pc' := 56) rfl ?_
  refine E_iconst X0 (v := (1 : Int32)) d_nbl_56 rfl (pc' := 57) rfl ?_
  refine E_ishl X0 (v := (Int32.ofNat (2 * n))) d_nbl_57 (o_two (by omega)) (pc' := 58) rfl ?_
  exact E_ireturnI X0 d_nbl_58 rfl (by decide) (by decide) (⟨rfl, rfl⟩)
theorem d_nbf_0 : decode jdk_52_method_2_code 0 = .ok (.iload_n 0, 1) := by decide +kernel
theorem d_nbf_1 : decode jdk_52_method_2_code 1 = .ok (.invokestatic 11, 3) := by decide +kernel
theorem d_nbf_4 : decode jdk_52_method_2_code 4 = .ok (.newarray .byte, 2) := by decide +kernel
theorem d_nbf_6 : decode jdk_52_method_2_code 6 = .ok (.areturn, 1) := by decide +kernel
abbrev rm_nbf : Room := ({ frames := 1, cells := 1, slots := 10, locals := 12 } : Room)
def Q_nbf (Z : State) (n : Nat) (h0 : Heap) (v : Option Value) (h : Heap) : Prop := ∃ t kb, v = some (.ref t) ∧ Keep h0 h [] ∧ h0.size ≤ t ∧ Arv Z h t kb .byte (Int32.ofNat (2 * n)) [] (.int (0 : Int32))
set_option maxRecDepth 65536 in
set_option maxHeartbeats 40000000 in
theorem ct_nbf (l : Launch) (Z : State) (a0 : Array Value) (hw : ∀ d ∈ tables_1, d.before a0 Z = true) (G1 : Int32) (G3 : Value) (OS : Sts Z G1 G3) (n : Nat) {h0 : Heap} (O : Ext Z.heap h0) (hmx : n ≤ 5) (hn : n ≤ 4000) : Ct l Z (⟨"java/lang/StringUTF16", "newBytesFor", "(I)[B"⟩ : MethodName) jdk_52_method_2_code 1 (some (.array .byte)) rm_nbf #[(.int (Int32.ofNat n))] h0 (Q_nbf Z n h0) := by
  refine Ct.of_body (Ls := #[.val (.int (Int32.ofNat n))]) (by decide +kernel) O (fun m => by first | rfl | (simp [entryFrame, mkF, argsToLocals, Value.category]; done) | (rcases ref_cases (Sts.ref OS) with rfl | ⟨r, rfl⟩ <;> rfl)) ?_
  intro p e s m below meth c T0 X0 e0
  subst e0
  have K00 := Keep.refl T0.heap []
  refine E_iloadN X0 d_nbf_0 rfl (pc' := 1) rfl ?_
  refine E_static X0 (rm := rm_nbl) d_nbf_1 (hw _ (List.mem_of_getElem? (i := 97) rfl)) (hw _ (List.mem_of_getElem? (i := 98) rfl)) (hw _ (List.mem_of_getElem? (i := 23) rfl)) (hw _ (List.mem_of_getElem? (i := 99) rfl)) (by decide) (argsL := [(.int (Int32.ofNat n))]) (st := []) rfl (ct_nbl l Z a0 hw G1 G3 OS n X0.old hn) (lenOf (pd_6) rfl) rfl (by decide) (by decide) (by decide) (Nat.le_of_ble_eq_true rfl) (pc' := 4) rfl ?_
  intro T1 _ X2 hQ3
  obtain ⟨rfl, e4⟩ := hQ3
  have KK5 := own_keq K00 e4
  show Ends p e below s Z _ _ _ T1 (mkF m 4 #[.val (.int (Int32.ofNat n))] [(.int (Int32.ofNat (2 * n)))])
  refine E_newarray X2 10 d_nbf_4 (hw _ (List.mem_of_getElem? (i := 25) rfl)) (o_nn (by omega)) (by rw [o_cl (by omega)]; omega) (by decide) (by decide) (by decide) (pc' := 6) rfl ?_
  intro T6 b8 k12 X7 hb9 K10 V11
  have sz13 : T0.heap.size ≤ b8 := Nat.le_trans KK5.1 (Nat.le_of_eq hb9.symm)
  have KK14 := KK5.trans K10 (fun x q => nomatch q)
  have g15 : Z.heap.size ≤ b8 := Nat.le_trans X2.le (Nat.le_of_eq hb9.symm)
  have V16 : Arv Z T6.heap b8 k12 .byte (Int32.ofNat (2 * n)) [] (.int (0 : Int32)) := V11
  exact E_areturn X7 (t := (.array .byte)) d_nbf_6 rfl rfl rfl rfl (by decide) (by decide) (⟨b8, k12, rfl, KK14, sz13, V16⟩)
theorem d_putc_0 : decode jdk_52_method_4_code 0 = .ok (.getstatic 44, 3) := by decide +kernel
theorem d_putc_3 : decode jdk_52_method_4_code 3 = .ok (.ifCond .ne 25, 3) := by decide +kernel
theorem d_putc_28 : decode jdk_52_method_4_code 28 = .ok (.iload_n 1, 1) := by decide +kernel
theorem d_putc_29 : decode jdk_52_method_4_code 29 = .ok (.iconst 1, 1) := by decide +kernel
theorem d_putc_30 : decode jdk_52_method_4_code 30 = .ok (.ishl, 1) := by decide +kernel
theorem d_putc_31 : decode jdk_52_method_4_code 31 = .ok (.istore_n 1, 1) := by decide +kernel
theorem d_putc_32 : decode jdk_52_method_4_code 32 = .ok (.aload_n 0, 1) := by decide +kernel
theorem d_putc_33 : decode jdk_52_method_4_code 33 = .ok (.iload_n 1, 1) := by decide +kernel
theorem d_putc_34 : decode jdk_52_method_4_code 34 = .ok (.iinc 1 1, 3) := by decide +kernel
theorem d_putc_37 : decode jdk_52_method_4_code 37 = .ok (.iload_n 2, 1) := by decide +kernel
theorem d_putc_38 : decode jdk_52_method_4_code 38 = .ok (.getstatic 59, 3) := by decide +kernel
theorem d_putc_41 : decode jdk_52_method_4_code 41 = .ok (.ishr, 1) := by decide +kernel
theorem d_putc_42 : decode jdk_52_method_4_code 42 = .ok (.i2b, 1) := by decide +kernel
theorem d_putc_43 : decode jdk_52_method_4_code 43 = .ok (.bastore, 1) := by decide +kernel
theorem d_putc_44 : decode jdk_52_method_4_code 44 = .ok (.aload_n 0, 1) := by decide +kernel
theorem d_putc_45 : decode jdk_52_method_4_code 45 = .ok (.iload_n 1, 1) := by decide +kernel
theorem d_putc_46 : decode jdk_52_method_4_code 46 = .ok (.iload_n 2, 1) := by decide +kernel
theorem d_putc_47 : decode jdk_52_method_4_code 47 = .ok (.getstatic 63, 3) := by decide +kernel
theorem d_putc_50 : decode jdk_52_method_4_code 50 = .ok (.ishr, 1) := by decide +kernel
theorem d_putc_51 : decode jdk_52_method_4_code 51 = .ok (.i2b, 1) := by decide +kernel
theorem d_putc_52 : decode jdk_52_method_4_code 52 = .ok (.bastore, 1) := by decide +kernel
theorem d_putc_53 : decode jdk_52_method_4_code 53 = .ok (.return_, 1) := by decide +kernel
abbrev rm_putc : Room := ({ frames := 0, cells := 0, slots := 0, locals := 0 } : Room)
def Q_putc (Z : State) (t : Addr) (kb : ClassId) (n i : Nat) (ch : Int32) (vs : List Value) (h0 : Heap) (v : Option Value) (h : Heap) : Prop := v = none ∧ Keep h0 h [t] ∧ Arv Z h t kb .byte (Int32.ofNat (2 * n)) (vs ++ [.int (ch >>> ((0 : Int32) &&& 31)).toInt8.toInt32, .int (ch >>> ((8 : Int32) &&& 31)).toInt8.toInt32]) (.int (0 : Int32))
set_option maxRecDepth 65536 in
set_option maxHeartbeats 40000000 in
theorem ct_putc (l : Launch) (Z : State) (a0 : Array Value) (hw : ∀ d ∈ tables_1, d.before a0 Z = true) (G1 : Int32) (G3 : Value) (OS : Sts Z G1 G3) (t : Addr) (kb : ClassId) (n i : Nat) (ch : Int32) (vs : List Value) {h0 : Heap} (O : Ext Z.heap h0) (V0 : Arv Z h0 t kb .byte (Int32.ofNat (2 * n)) vs (.int (0 : Int32))) (hn : n ≤ 4000) (hi : i < n) (hvs : vs.length = 2 * i) (gt : Z.heap.size ≤ t) : Ct l Z (⟨"java/lang/StringUTF16", "putChar", "([BII)V"⟩ : MethodName) jdk_52_method_4_code 3 none rm_putc #[(.ref t), (.int (Int32.ofNat i)), (.int ch)] h0 (Q_putc Z t kb n i ch vs h0) := by
  refine Ct.of_body (Ls := #[.val (.ref t), .val (.int (Int32.ofNat i)), .val (.int ch)]) (by decide +kernel) O (fun m => by first | rfl | (simp [entryFrame, mkF, argsToLocals, Value.category]; done) | (rcases ref_cases (Sts.ref OS) with rfl | ⟨r, rfl⟩ <;> rfl)) ?_
  intro p e s m below meth c T0 X0 e0
  subst e0
  have K00 := Keep.refl T0.heap [t]
  refine E_getstatic X0 d_putc_0 (hw _ (List.mem_of_getElem? (i := 104) rfl)) Via.refl OS.2.2.2.2.1 (pc' := 3) rfl ?_
  intro T1 X2 e3
  have KK4 := own_keq K00 e3
  rw [← e3] at V0
  refine E_ifT X2 d_putc_3 (XT.i0_ne_t (by decide)) (pc' := 28) (by decide) rfl ?_
  refine E_iloadN X2 d_putc_28 rfl (pc' := 29) rfl ?_
  refine E_iconst X2 (v := (1 : Int32)) d_putc_29 rfl (pc' := 30) rfl ?_
  refine E_ishl X2 (v := (Int32.ofNat (2 * i))) d_putc_30 (o_two (by omega)) (pc' := 31) rfl ?_
  refine E_istoreN X2 d_putc_31 (l' := #[.val (.ref t), .val (.int (Int32.ofNat (2 * i))), .val (.int ch)]) rfl (pc' := 32) rfl ?_
  refine E_aloadN X2 d_putc_32 rfl rfl (pc' := 33) rfl ?_
  refine E_iloadN X2 d_putc_33 rfl (pc' := 34) rfl ?_
  refine E_iinc X2 (y := (Int32.ofNat (2 * i + 1))) d_putc_34 o_add rfl (l' := #[.val (.ref t), .val (.int (Int32.ofNat (2 * i + 1))), .val (.int ch)]) rfl (pc' := 37) rfl ?_
  refine E_iloadN X2 d_putc_37 rfl (pc' := 38) rfl ?_
  refine E_getstatic X2 d_putc_38 (hw _ (List.mem_of_getElem? (i := 105) rfl)) Via.refl OS.2.2.2.2.2.1 (pc' := 41) rfl ?_
  intro T5 X6 e7
  have KK8 := own_keq KK4 e7
  rw [← e7] at V0
  refine E_ishr X6 d_putc_41 rfl (pc' := 42) rfl ?_
  refine E_i2b X6 d_putc_42 rfl (pc' := 43) rfl ?_
  refine E_bastoreA X6 (y := ((ch >>> ((0 : Int32) &&& 31))).toInt8.toInt32) d_putc_43 (o_b8 _) V0 ⟨o_nn (by omega), o_lt (by omega) (by omega)⟩ (by rw [o_cl (by omega), hvs]) gt (pc' := 44) rfl ?_
  intro T9 X10 K11 V12
  have KK13 := KK8.trans K11 (allS (Or.inl (by simp)) (fun x q => nomatch q))
  have V14 : Arv Z T9.heap t kb .byte (Int32.ofNat (2 * n)) (vs ++ [.int (ch >>> ((0 : Int32) &&& 31)).toInt8.toInt32]) (.int (0 : Int32)) := V12
  refine E_aloadN X10 d_putc_44 rfl rfl (pc' := 45) rfl ?_
  refine E_iloadN X10 d_putc_45 rfl (pc' := 46) rfl ?_
  refine E_iloadN X10 d_putc_46 rfl (pc' := 47) rfl ?_
  refine E_getstatic X10 d_putc_47 (hw _ (List.mem_of_getElem? (i := 106) rfl)) Via.refl OS.2.2.2.2.2.2 (pc' := 50) rfl ?_
  intro T15 X16 e17
  have KK18 := own_keq KK13 e17
  rw [← e17] at V14
  refine E_ishr X16 d_putc_50 rfl (pc' := 51) rfl ?_
  refine E_i2b X16 d_putc_51 rfl (pc' := 52) rfl ?_
  refine E_bastoreA X16 (y := ((ch >>> ((8 : Int32) &&& 31))).toInt8.toInt32) d_putc_52 (o_b8 _) V14 ⟨o_nn (by omega), o_lt (by omega) (by omega)⟩ (by rw [o_cl (by omega), List.length_append, hvs]; rfl) gt (pc' := 53) rfl ?_
  intro T19 X20 K21 V22
  have KK23 := KK18.trans K21 (allS (Or.inl (by simp)) (fun x q => nomatch q))
  have V24 : Arv Z T19.heap t kb .byte (Int32.ofNat (2 * n)) ((vs ++ [.int (ch >>> ((0 : Int32) &&& 31)).toInt8.toInt32]) ++ [.int (ch >>> ((8 : Int32) &&& 31)).toInt8.toInt32]) (.int (0 : Int32)) := V22
  exact E_return X20 d_putc_53 rfl (by decide) (by decide) (⟨rfl, KK23, by have q := V24; rw [List.append_assoc] at q; exact q⟩)
theorem d_tob_0 : decode jdk_52_method_14_code 0 = .ok (.iload_n 2, 1) := by decide +kernel
theorem d_tob_1 : decode jdk_52_method_14_code 1 = .ok (.invokestatic 107, 3) := by decide +kernel
theorem d_tob_4 : decode jdk_52_method_14_code 4 = .ok (.astore_n 3, 1) := by decide +kernel
theorem d_tob_5 : decode jdk_52_method_14_code 5 = .ok (.iconst 0, 1) := by decide +kernel
theorem d_tob_6 : decode jdk_52_method_14_code 6 = .ok (.istore 4, 2) := by decide +kernel
theorem d_tob_8 : decode jdk_52_method_14_code 8 = .ok (.iload 4, 2) := by decide +kernel
theorem d_tob_10 : decode jdk_52_method_14_code 10 = .ok (.iload_n 2, 1) := by decide +kernel
theorem d_tob_11 : decode jdk_52_method_14_code 11 = .ok (.if_icmp .ge 21, 3) := by decide +kernel
theorem d_tob_14 : decode jdk_52_method_14_code 14 = .ok (.aload_n 3, 1) := by decide +kernel
theorem d_tob_15 : decode jdk_52_method_14_code 15 = .ok (.iload 4, 2) := by decide +kernel
theorem d_tob_17 : decode jdk_52_method_14_code 17 = .ok (.aload_n 0, 1) := by decide +kernel
theorem d_tob_18 : decode jdk_52_method_14_code 18 = .ok (.iload_n 1, 1) := by decide +kernel
theorem d_tob_19 : decode jdk_52_method_14_code 19 = .ok (.caload, 1) := by decide +kernel
theorem d_tob_20 : decode jdk_52_method_14_code 20 = .ok (.invokestatic 111, 3) := by decide +kernel
theorem d_tob_23 : decode jdk_52_method_14_code 23 = .ok (.iinc 1 1, 3) := by decide +kernel
theorem d_tob_26 : decode jdk_52_method_14_code 26 = .ok (.iinc 4 1, 3) := by decide +kernel
theorem d_tob_29 : decode jdk_52_method_14_code 29 = .ok (.goto (-21), 3) := by decide +kernel
theorem d_tob_32 : decode jdk_52_method_14_code 32 = .ok (.aload_n 3, 1) := by decide +kernel
theorem d_tob_33 : decode jdk_52_method_14_code 33 = .ok (.areturn, 1) := by decide +kernel
abbrev rm_tob : Room := ({ frames := 2, cells := 1, slots := 10, locals := 24 } : Room)
def Q_tob (Z : State) (b : Addr) (kC : ClassId) (cs : List Int32) (dv : Value) (h0 : Heap) (v : Option Value) (h : Heap) : Prop := ∃ t kb, v = some (.ref t) ∧ Keep h0 h [] ∧ h0.size ≤ t ∧ Arv Z h t kb .byte (Int32.ofNat (2 * cs.length)) (u16 cs) (.int (0 : Int32))
set_option maxRecDepth 65536 in
set_option maxHeartbeats 40000000 in
theorem lp_tob (l : Launch) (Z : State) (a0 : Array Value) (hw : ∀ d ∈ tables_1, d.before a0 Z = true) (G1 : Int32) (G3 : Value) (OS : Sts Z G1 G3) (b : Addr) (kC : ClassId) (cs : List Int32) (dv : Value) {h0 : Heap} {p : Program} {e : Env} {s : State} {m : MethodId} {below : List Frame} {meth : Method} {c : Code} (k : Nat) : ∀ {T0 : State} (i : Nat) (t : Addr) (kb : ClassId), Wk l Z rm_tob jdk_52_method_14_code 5 (some (.array .byte)) "java/lang/StringUTF16" "toBytes" p e s m #[(.ref b), (.int (0 : Int32)), (.int (Int32.ofNat cs.length))] below meth c T0 1 10 → (i + k = cs.length) → (cs.length ≤ 4000) → (Arv Z T0.heap b kC .char (Int32.ofNat cs.length) (cs.map Value.int) dv) → (Arv Z T0.heap t kb .byte (Int32.ofNat (2 * cs.length)) (u16 (cs.take i)) (.int (0 : Int32))) → (b ≠ t) → (Z.heap.size ≤ t) → (h0.size ≤ t) → (Keep h0 T0.heap []) → Ends p e below s Z (Q_tob Z b kC cs dv h0) rm_tob.cells rm_tob.slots T0 (mkF m 8 #[.val (.ref b), .val (.int (Int32.ofNat i)), .val (.int (Int32.ofNat cs.length)), .val (.ref t), .val (.int (Int32.ofNat i))] []) := by
  induction k with
  | zero =>
    intro T0 i t kb X0 hi hlen V0 D0 hbt gt szt K00
    have hik : i = cs.length := by omega
    subst hik
    rw [List.take_length] at D0
    refine E_iload X0 d_tob_8 rfl (pc' := 10) rfl ?_
    refine E_iloadN X0 d_tob_10 rfl (pc' := 11) rfl ?_
    refine E_icT X0 d_tob_11 (XT.ii_ge_t (o_nlt (Nat.le_refl _) (by omega))) (pc' := 32) (by decide) rfl ?_
    refine E_aloadN X0 d_tob_32 rfl rfl (pc' := 33) rfl ?_
    exact E_areturn X0 (t := (.array .byte)) d_tob_33 rfl rfl rfl rfl (by decide) (by decide) (⟨t, kb, rfl, K00, szt, D0⟩)
  | succ k ih =>
    intro T0 i t kb X0 hi hlen V0 D0 hbt gt szt K00
    have hlt : i < cs.length := by omega
    refine E_iload X0 d_tob_8 rfl (pc' := 10) rfl ?_
    refine E_iloadN X0 d_tob_10 rfl (pc' := 11) rfl ?_
    refine E_icF X0 d_tob_11 (XT.ii_ge_f (o_lt hlt (by omega))) (pc' := 14) rfl ?_
    refine E_aloadN X0 d_tob_14 rfl rfl (pc' := 15) rfl ?_
    refine E_iload X0 d_tob_15 rfl (pc' := 17) rfl ?_
    refine E_aloadN X0 d_tob_17 rfl rfl (pc' := 18) rfl ?_
    refine E_iloadN X0 d_tob_18 rfl (pc' := 19) rfl ?_
    refine E_caload X0 (v := (.int (cs.getD i 0))) d_tob_19 V0 ⟨o_nn (by omega), o_lt hlt (by omega)⟩ (own_getD Value.int hlt hlen) (pc' := 20) rfl ?_
    refine E_static X0 (rm := rm_putc) d_tob_20 (hw _ (List.mem_of_getElem? (i := 101) rfl)) (hw _ (List.mem_of_getElem? (i := 102) rfl)) (hw _ (List.mem_of_getElem? (i := 23) rfl)) (hw _ (List.mem_of_getElem? (i := 103) rfl)) (by decide) (argsL := [(.ref t), (.int (Int32.ofNat i)), (.int (cs.getD i 0))]) (st := []) rfl (ct_putc l Z a0 hw G1 G3 OS t kb cs.length i (cs.getD i 0) (u16 (cs.take i)) X0.old D0 hlen hlt (by rw [u16_len, List.length_take]; omega) gt) (lenOf (pd_7) rfl) rfl (by decide) (by decide) (by decide) (Nat.le_of_ble_eq_true rfl) (pc' := 23) rfl ?_
    intro T1 _ X2 hQ3
    obtain ⟨rfl, K4, V5⟩ := hQ3
    have KK6 := K00.trans K4 (allS (Or.inr szt) (fun x q => nomatch q))
    have Arv_7 := V0.keep K4 (ninS hbt nin0)
    rw [← u16_take hlt] at V5
    show Ends p e below s Z _ _ _ T1 (mkF m 23 #[.val (.ref b), .val (.int (Int32.ofNat i)), .val (.int (Int32.ofNat cs.length)), .val (.ref t), .val (.int (Int32.ofNat i))] [])
    refine E_iinc X2 (y := (Int32.ofNat (i + 1))) d_tob_23 o_add rfl (l' := #[.val (.ref b), .val (.int (Int32.ofNat (i + 1))), .val (.int (Int32.ofNat cs.length)), .val (.ref t), .val (.int (Int32.ofNat i))]) rfl (pc' := 26) rfl ?_
    refine E_iinc X2 (y := (Int32.ofNat (i + 1))) d_tob_26 o_add rfl (l' := #[.val (.ref b), .val (.int (Int32.ofNat (i + 1))), .val (.int (Int32.ofNat cs.length)), .val (.ref t), .val (.int (Int32.ofNat (i + 1)))]) rfl (pc' := 29) rfl ?_
    refine E_goto X2 d_tob_29 (pc' := 8) (by decide) rfl ?_
    exact ih (i + 1) t kb X2 (by omega) hlen Arv_7 V5 hbt gt szt KK6
set_option maxRecDepth 65536 in
set_option maxHeartbeats 40000000 in
theorem ct_tob (l : Launch) (Z : State) (a0 : Array Value) (hw : ∀ d ∈ tables_1, d.before a0 Z = true) (G1 : Int32) (G3 : Value) (OS : Sts Z G1 G3) (b : Addr) (kC : ClassId) (cs : List Int32) (dv : Value) {h0 : Heap} (O : Ext Z.heap h0) (hmx : cs.length ≤ 5) (hmx4 : cs.length ≤ 4000) (V0 : Arv Z h0 b kC .char (Int32.ofNat cs.length) (cs.map Value.int) dv) : Ct l Z (⟨"java/lang/StringUTF16", "toBytes", "([CII)[B"⟩ : MethodName) jdk_52_method_14_code 5 (some (.array .byte)) rm_tob #[(.ref b), (.int (0 : Int32)), (.int (Int32.ofNat cs.length))] h0 (Q_tob Z b kC cs dv h0) := by
  refine Ct.of_body (Ls := #[.val (.ref b), .val (.int (0 : Int32)), .val (.int (Int32.ofNat cs.length)), .unset, .unset]) (by decide +kernel) O (fun m => by first | rfl | (simp [entryFrame, mkF, argsToLocals, Value.category]; done) | (rcases ref_cases (Sts.ref OS) with rfl | ⟨r, rfl⟩ <;> rfl)) ?_
  intro p e s m below meth c T0 X0 e0
  subst e0
  have K00 := Keep.refl T0.heap []
  refine E_iloadN X0 d_tob_0 rfl (pc' := 1) rfl ?_
  refine E_static X0 (rm := rm_nbf) d_tob_1 (hw _ (List.mem_of_getElem? (i := 94) rfl)) (hw _ (List.mem_of_getElem? (i := 95) rfl)) (hw _ (List.mem_of_getElem? (i := 23) rfl)) (hw _ (List.mem_of_getElem? (i := 96) rfl)) (by decide) (argsL := [(.int (Int32.ofNat cs.length))]) (st := []) rfl (ct_nbf l Z a0 hw G1 G3 OS cs.length X0.old hmx hmx4) (lenOf (pd_8) rfl) rfl (by decide) (by decide) (by decide) (Nat.le_of_ble_eq_true rfl) (pc' := 4) rfl ?_
  intro T1 _ X2 hQ3
  obtain ⟨t, kb, rfl, K4, szt, V5⟩ := hQ3
  have hbt : b ≠ t := Nat.ne_of_lt (Nat.lt_of_lt_of_le V0.lt szt)
  have gt : Z.heap.size ≤ t := Nat.le_trans X0.le szt
  have KK6 := K00.trans K4 (fun x q => nomatch q)
  have Arv_7 := V0.keep K4 nin0
  show Ends p e below s Z _ _ _ T1 (mkF m 4 #[.val (.ref b), .val (.int (0 : Int32)), .val (.int (Int32.ofNat cs.length)), .unset, .unset] [(.ref t)])
  refine E_astoreN X2 d_tob_4 rfl (l' := #[.val (.ref b), .val (.int (0 : Int32)), .val (.int (Int32.ofNat cs.length)), .val (.ref t), .unset]) rfl (pc' := 5) rfl ?_
  refine E_iconst X2 (v := (0 : Int32)) d_tob_5 rfl (pc' := 6) rfl ?_
  refine E_istore X2 d_tob_6 (l' := #[.val (.ref b), .val (.int (0 : Int32)), .val (.int (Int32.ofNat cs.length)), .val (.ref t), .val (.int (0 : Int32))]) rfl (pc' := 8) rfl ?_
  exact lp_tob l Z a0 hw G1 G3 OS b kC cs dv cs.length 0 t kb X2 (by omega) hmx4 Arv_7 V5 hbt gt szt KK6
theorem d_compress5_0 : decode jdk_52_method_21_code 0 = .ok (.iconst 0, 1) := by decide +kernel
theorem d_compress5_1 : decode jdk_52_method_21_code 1 = .ok (.istore 5, 2) := by decide +kernel
theorem d_compress5_3 : decode jdk_52_method_21_code 3 = .ok (.iload 5, 2) := by decide +kernel
theorem d_compress5_5 : decode jdk_52_method_21_code 5 = .ok (.iload 4, 2) := by decide +kernel
theorem d_compress5_7 : decode jdk_52_method_21_code 7 = .ok (.if_icmp .ge 37, 3) := by decide +kernel
theorem d_compress5_10 : decode jdk_52_method_21_code 10 = .ok (.aload_n 0, 1) := by decide +kernel
theorem d_compress5_11 : decode jdk_52_method_21_code 11 = .ok (.iload_n 1, 1) := by decide +kernel
theorem d_compress5_12 : decode jdk_52_method_21_code 12 = .ok (.caload, 1) := by decide +kernel
theorem d_compress5_13 : decode jdk_52_method_21_code 13 = .ok (.istore 6, 2) := by decide +kernel
theorem d_compress5_15 : decode jdk_52_method_21_code 15 = .ok (.iload 6, 2) := by decide +kernel
theorem d_compress5_17 : decode jdk_52_method_21_code 17 = .ok (.sipush 255, 3) := by decide +kernel
theorem d_compress5_20 : decode jdk_52_method_21_code 20 = .ok (.if_icmp .le 6, 3) := by decide +kernel
theorem d_compress5_23 : decode jdk_52_method_21_code 23 = .ok (.iload 5, 2) := by decide +kernel
theorem d_compress5_25 : decode jdk_52_method_21_code 25 = .ok (.ireturn, 1) := by decide +kernel
theorem d_compress5_26 : decode jdk_52_method_21_code 26 = .ok (.aload_n 2, 1) := by decide +kernel
theorem d_compress5_27 : decode jdk_52_method_21_code 27 = .ok (.iload_n 3, 1) := by decide +kernel
theorem d_compress5_28 : decode jdk_52_method_21_code 28 = .ok (.iload 6, 2) := by decide +kernel
theorem d_compress5_30 : decode jdk_52_method_21_code 30 = .ok (.i2b, 1) := by decide +kernel
theorem d_compress5_31 : decode jdk_52_method_21_code 31 = .ok (.bastore, 1) := by decide +kernel
theorem d_compress5_32 : decode jdk_52_method_21_code 32 = .ok (.iinc 1 1, 3) := by decide +kernel
theorem d_compress5_35 : decode jdk_52_method_21_code 35 = .ok (.iinc 3 1, 3) := by decide +kernel
theorem d_compress5_38 : decode jdk_52_method_21_code 38 = .ok (.iinc 5 1, 3) := by decide +kernel
theorem d_compress5_41 : decode jdk_52_method_21_code 41 = .ok (.goto (-38), 3) := by decide +kernel
theorem d_compress5_44 : decode jdk_52_method_21_code 44 = .ok (.iload 4, 2) := by decide +kernel
theorem d_compress5_46 : decode jdk_52_method_21_code 46 = .ok (.ireturn, 1) := by decide +kernel
abbrev rm_compress5 : Room := ({ frames := 0, cells := 0, slots := 0, locals := 0 } : Room)
def Q_compress5 (Z : State) (b t : Addr) (kC kb : ClassId) (cs : List Int32) (dv : Value) (h0 : Heap) (v : Option Value) (h : Heap) : Prop := Keep h0 h [t] ∧ ((v = some (.int (Int32.ofNat cs.length)) ∧ (∀ c ∈ cs, ¬ (255 : Int32) < c) ∧ Arv Z h t kb .byte (Int32.ofNat cs.length) (cs.map lo8) (.int (0 : Int32))) ∨ (∃ j, j < cs.length ∧ v = some (.int (Int32.ofNat j)) ∧ (255 : Int32) < cs.getD j 0))
set_option maxRecDepth 65536 in
set_option maxHeartbeats 40000000 in
theorem lp_compress5 (l : Launch) (Z : State) (a0 : Array Value) (hw : ∀ d ∈ tables_1, d.before a0 Z = true) (G1 : Int32) (G3 : Value) (OS : Sts Z G1 G3) (b t : Addr) (kC kb : ClassId) (cs : List Int32) (dv : Value) {h0 : Heap} {p : Program} {e : Env} {s : State} {m : MethodId} {below : List Frame} {meth : Method} {c : Code} (k : Nat) : ∀ {T0 : State} (i : Nat) (o : Slot), Wk l Z rm_compress5 jdk_52_method_21_code 7 (some .int) "java/lang/StringUTF16" "compress" p e s m #[(.ref b), (.int (0 : Int32)), (.ref t), (.int (0 : Int32)), (.int (Int32.ofNat cs.length))] below meth c T0 0 0 → (i + k = cs.length) → (o = .unset ∨ ∃ w, o = .val w ∧ w.category = 1) → (cs.length ≤ 4000) → (Arv Z T0.heap b kC .char (Int32.ofNat cs.length) (cs.map Value.int) dv) → (Arv Z T0.heap t kb .byte (Int32.ofNat cs.length) ((cs.take i).map lo8) (.int (0 : Int32))) → (b ≠ t) → (Z.heap.size ≤ t) → (Keep h0 T0.heap [t]) → (∀ c ∈ cs.take i, ¬ (255 : Int32) < c) → Ends p e below s Z (Q_compress5 Z b t kC kb cs dv h0) rm_compress5.cells rm_compress5.slots T0 (mkF m 3 #[.val (.ref b), .val (.int (Int32.ofNat i)), .val (.ref t), .val (.int (Int32.ofNat i)), .val (.int (Int32.ofNat cs.length)), .val (.int (Int32.ofNat i)), o] []) := by
  induction k with
  | zero =>
    intro T0 i o X0 hi hone hlen V0 D0 hbt gt K00 hall
    have hik : i = cs.length := by omega
    subst hik
    rw [List.take_length] at hall
    rw [List.take_length] at D0
    refine E_iload X0 d_compress5_3 rfl (pc' := 5) rfl ?_
    refine E_iload X0 d_compress5_5 rfl (pc' := 7) rfl ?_
    refine E_icT X0 d_compress5_7 (XT.ii_ge_t (o_nlt (Nat.le_refl _) (by omega))) (pc' := 44) (by decide) rfl ?_
    refine E_iload X0 d_compress5_44 rfl (pc' := 46) rfl ?_
    exact E_ireturnI X0 d_compress5_46 rfl (by decide) (by decide) (⟨K00, Or.inl ⟨rfl, hall, D0⟩⟩)
  | succ k ih =>
    intro T0 i o X0 hi hone hlen V0 D0 hbt gt K00 hall
    have hlt : i < cs.length := by omega
    obtain ⟨ch, hch⟩ : ∃ c, c = cs.getD i 0 := ⟨_, rfl⟩
    refine E_iload X0 d_compress5_3 rfl (pc' := 5) rfl ?_
    refine E_iload X0 d_compress5_5 rfl (pc' := 7) rfl ?_
    refine E_icF X0 d_compress5_7 (XT.ii_ge_f (o_lt hlt (by omega))) (pc' := 10) rfl ?_
    refine E_aloadN X0 d_compress5_10 rfl rfl (pc' := 11) rfl ?_
    refine E_iloadN X0 d_compress5_11 rfl (pc' := 12) rfl ?_
    refine E_caload X0 (v := (.int ch)) d_compress5_12 V0 ⟨o_nn (by omega), o_lt hlt (by omega)⟩ (by rw [own_getD Value.int hlt hlen, hch]) (pc' := 13) rfl ?_
    refine E_istore X0 d_compress5_13 (l' := #[.val (.ref b), .val (.int (Int32.ofNat i)), .val (.ref t), .val (.int (Int32.ofNat i)), .val (.int (Int32.ofNat cs.length)), .val (.int (Int32.ofNat i)), .val (.int ch)]) (XS.store1 rfl hone rfl) (pc' := 15) rfl ?_
    refine E_iload X0 d_compress5_15 rfl (pc' := 17) rfl ?_
    refine E_sipush X0 (v := (255 : Int32)) d_compress5_17 rfl (pc' := 20) rfl ?_
    by_cases hc : (255 : Int32) < ch
    · skip
      refine E_icF X0 d_compress5_20 (XT.ii_le_f hc) (pc' := 23) rfl ?_
      refine E_iload X0 d_compress5_23 rfl (pc' := 25) rfl ?_
      exact E_ireturnI X0 d_compress5_25 rfl (by decide) (by decide) (⟨K00, Or.inr ⟨i, hlt, rfl, hch ▸ hc⟩⟩)
    · skip
      refine E_icT X0 d_compress5_20 (XT.ii_le_t hc) (pc' := 26) (by decide) rfl ?_
      refine E_aloadN X0 d_compress5_26 rfl rfl (pc' := 27) rfl ?_
      refine E_iloadN X0 d_compress5_27 rfl (pc' := 28) rfl ?_
      refine E_iload X0 d_compress5_28 rfl (pc' := 30) rfl ?_
      refine E_i2b X0 d_compress5_30 rfl (pc' := 31) rfl ?_
      refine E_bastoreA X0 (y := (ch).toInt8.toInt32) d_compress5_31 (o_b8 _) D0 ⟨o_nn (by omega), o_lt hlt (by omega)⟩ (by rw [o_cl (by omega), own_tl lo8 (by omega)]) gt (pc' := 32) rfl ?_
      intro T1 X2 K3 V4
      have KK5 := K00.trans K3 (allS (Or.inl (by simp)) (fun x q => nomatch q))
      have Arv_6 := V0.keep K3 (ninS hbt nin0)
      have V7 : Arv Z T1.heap t kb .byte (Int32.ofNat cs.length) ((cs.take i).map lo8 ++ [lo8 ch]) (.int (0 : Int32)) := V4
      refine E_iinc X2 (y := (Int32.ofNat (i + 1))) d_compress5_32 o_add rfl (l' := #[.val (.ref b), .val (.int (Int32.ofNat (i + 1))), .val (.ref t), .val (.int (Int32.ofNat i)), .val (.int (Int32.ofNat cs.length)), .val (.int (Int32.ofNat i)), .val (.int ch)]) rfl (pc' := 35) rfl ?_
      refine E_iinc X2 (y := (Int32.ofNat (i + 1))) d_compress5_35 o_add rfl (l' := #[.val (.ref b), .val (.int (Int32.ofNat (i + 1))), .val (.ref t), .val (.int (Int32.ofNat (i + 1))), .val (.int (Int32.ofNat cs.length)), .val (.int (Int32.ofNat i)), .val (.int ch)]) rfl (pc' := 38) rfl ?_
      refine E_iinc X2 (y := (Int32.ofNat (i + 1))) d_compress5_38 o_add rfl (l' := #[.val (.ref b), .val (.int (Int32.ofNat (i + 1))), .val (.ref t), .val (.int (Int32.ofNat (i + 1))), .val (.int (Int32.ofNat cs.length)), .val (.int (Int32.ofNat (i + 1))), .val (.int ch)]) rfl (pc' := 41) rfl ?_
      refine E_goto X2 d_compress5_41 (pc' := 3) (by decide) rfl ?_
      have hV2 : Arv Z T1.heap t kb .byte (Int32.ofNat cs.length) ((cs.take (i + 1)).map lo8) (.int (0 : Int32)) := by rw [own_take lo8 hlt, ← hch]; exact V7
      have hall2 := own_all hlt hch hall hc
      exact ih (i + 1) (.val (.int ch)) X2 (by omega) (Or.inr ⟨_, rfl, rfl⟩) hlen Arv_6 hV2 hbt gt KK5 hall2
set_option maxRecDepth 65536 in
set_option maxHeartbeats 40000000 in
theorem ct_compress5 (l : Launch) (Z : State) (a0 : Array Value) (hw : ∀ d ∈ tables_1, d.before a0 Z = true) (G1 : Int32) (G3 : Value) (OS : Sts Z G1 G3) (b t : Addr) (kC kb : ClassId) (cs : List Int32) (dv : Value) {h0 : Heap} (O : Ext Z.heap h0) (hlen : cs.length ≤ 4000) (V0 : Arv Z h0 b kC .char (Int32.ofNat cs.length) (cs.map Value.int) dv) (D0 : Arv Z h0 t kb .byte (Int32.ofNat cs.length) ([]) (.int (0 : Int32))) (hbt : b ≠ t) (gt : Z.heap.size ≤ t) : Ct l Z (⟨"java/lang/StringUTF16", "compress", "([CI[BII)I"⟩ : MethodName) jdk_52_method_21_code 7 (some .int) rm_compress5 #[(.ref b), (.int (0 : Int32)), (.ref t), (.int (0 : Int32)), (.int (Int32.ofNat cs.length))] h0 (Q_compress5 Z b t kC kb cs dv h0) := by
  refine Ct.of_body (Ls := #[.val (.ref b), .val (.int (0 : Int32)), .val (.ref t), .val (.int (0 : Int32)), .val (.int (Int32.ofNat cs.length)), .unset, .unset]) (by decide +kernel) O (fun m => by first | rfl | (simp [entryFrame, mkF, argsToLocals, Value.category]; done) | (rcases ref_cases (Sts.ref OS) with rfl | ⟨r, rfl⟩ <;> rfl)) ?_
  intro p e s m below meth c T0 X0 e0
  subst e0
  refine E_iconst X0 (v := (0 : Int32)) d_compress5_0 rfl (pc' := 1) rfl ?_
  refine E_istore X0 d_compress5_1 (l' := #[.val (.ref b), .val (.int (0 : Int32)), .val (.ref t), .val (.int (0 : Int32)), .val (.int (Int32.ofNat cs.length)), .val (.int (0 : Int32)), .unset]) rfl (pc' := 3) rfl ?_
  exact lp_compress5 l Z a0 hw G1 G3 OS b t kC kb cs dv cs.length 0 .unset X0 (by omega) (Or.inl rfl) hlen V0 D0 hbt gt (Keep.refl _ _) (fun c hc => by simp at hc)
theorem d_cfl_0 : decode jdk_52_method_15_code 0 = .ok (.iload_n 1, 1) := by decide +kernel
theorem d_cfl_1 : decode jdk_52_method_15_code 1 = .ok (.aload_n 0, 1) := by decide +kernel
theorem d_cfl_2 : decode jdk_52_method_15_code 2 = .ok (.arraylength, 1) := by decide +kernel
theorem d_cfl_3 : decode jdk_52_method_15_code 3 = .ok (.isub, 1) := by decide +kernel
theorem d_cfl_4 : decode jdk_52_method_15_code 4 = .ok (.bipush 31, 2) := by decide +kernel
theorem d_cfl_6 : decode jdk_52_method_15_code 6 = .ok (.iushr, 1) := by decide +kernel
theorem d_cfl_7 : decode jdk_52_method_15_code 7 = .ok (.i2b, 1) := by decide +kernel
theorem d_cfl_8 : decode jdk_52_method_15_code 8 = .ok (.ireturn, 1) := by decide +kernel
abbrev rm_cfl : Room := ({ frames := 0, cells := 0, slots := 0, locals := 0 } : Room)
def Q_cfl (Z : State) (t : Addr) (kb : ClassId) (N n z : Int32) (vs : List Value) (h0 : Heap) (v : Option Value) (h : Heap) : Prop := v = some (.int z) ∧ h = h0
set_option maxRecDepth 65536 in
set_option maxHeartbeats 40000000 in
theorem ct_cfl (l : Launch) (Z : State) (a0 : Array Value) (hw : ∀ d ∈ tables_1, d.before a0 Z = true) (G1 : Int32) (G3 : Value) (OS : Sts Z G1 G3) (t : Addr) (kb : ClassId) (N n z : Int32) (vs : List Value) {h0 : Heap} (O : Ext Z.heap h0) (V0 : Arv Z h0 t kb .byte N vs (.int (0 : Int32))) (hz : nar .byte ((((n - N).toUInt32 >>> ((31 : Int32) &&& 31).toUInt32).toInt32).toInt8.toInt32) = z) : Ct l Z (⟨"java/lang/StringUTF16", "coderFromArrayLen", "([BI)B"⟩ : MethodName) jdk_52_method_15_code 2 (some .byte) rm_cfl #[(.ref t), (.int n)] h0 (Q_cfl Z t kb N n z vs h0) := by
  refine Ct.of_body (Ls := #[.val (.ref t), .val (.int n)]) (by decide +kernel) O (fun m => by first | rfl | (simp [entryFrame, mkF, argsToLocals, Value.category]; done) | (rcases ref_cases (Sts.ref OS) with rfl | ⟨r, rfl⟩ <;> rfl)) ?_
  intro p e s m below meth c T0 X0 e0
  subst e0
  refine E_iloadN X0 d_cfl_0 rfl (pc' := 1) rfl ?_
  refine E_aloadN X0 d_cfl_1 rfl rfl (pc' := 2) rfl ?_
  refine E_arraylength X0 d_cfl_2 V0 (pc' := 3) rfl ?_
  refine E_isub X0 d_cfl_3 rfl (pc' := 4) rfl ?_
  refine E_bipush X0 (v := (31 : Int32)) d_cfl_4 rfl (pc' := 6) rfl ?_
  refine E_iushr X0 d_cfl_6 rfl (pc' := 7) rfl ?_
  refine E_i2b X0 d_cfl_7 rfl (pc' := 8) rfl ?_
  exact E_ireturnN X0 (t := .byte) d_cfl_8 rfl (by simp) (by decide) (by decide) (⟨by rw [hz], rfl⟩)
theorem d_compress3_0 : decode jdk_52_method_16_code 0 = .ok (.iload_n 2, 1) := by decide +kernel
theorem d_compress3_1 : decode jdk_52_method_16_code 1 = .ok (.newarray .byte, 2) := by decide +kernel
theorem d_compress3_3 : decode jdk_52_method_16_code 3 = .ok (.astore_n 3, 1) := by decide +kernel
theorem d_compress3_4 : decode jdk_52_method_16_code 4 = .ok (.aload_n 0, 1) := by decide +kernel
theorem d_compress3_5 : decode jdk_52_method_16_code 5 = .ok (.iload_n 1, 1) := by decide +kernel
theorem d_compress3_6 : decode jdk_52_method_16_code 6 = .ok (.aload_n 3, 1) := by decide +kernel
theorem d_compress3_7 : decode jdk_52_method_16_code 7 = .ok (.iconst 0, 1) := by decide +kernel
theorem d_compress3_8 : decode jdk_52_method_16_code 8 = .ok (.iload_n 2, 1) := by decide +kernel
theorem d_compress3_9 : decode jdk_52_method_16_code 9 = .ok (.invokestatic 115, 3) := by decide +kernel
theorem d_compress3_12 : decode jdk_52_method_16_code 12 = .ok (.istore 4, 2) := by decide +kernel
theorem d_compress3_14 : decode jdk_52_method_16_code 14 = .ok (.iload 4, 2) := by decide +kernel
theorem d_compress3_16 : decode jdk_52_method_16_code 16 = .ok (.iload_n 2, 1) := by decide +kernel
theorem d_compress3_17 : decode jdk_52_method_16_code 17 = .ok (.if_icmp .eq 40, 3) := by decide +kernel
theorem d_compress3_20 : decode jdk_52_method_16_code 20 = .ok (.aload_n 0, 1) := by decide +kernel
theorem d_compress3_21 : decode jdk_52_method_16_code 21 = .ok (.iload_n 1, 1) := by decide +kernel
theorem d_compress3_22 : decode jdk_52_method_16_code 22 = .ok (.iload_n 2, 1) := by decide +kernel
theorem d_compress3_23 : decode jdk_52_method_16_code 23 = .ok (.invokestatic 119, 3) := by decide +kernel
theorem d_compress3_26 : decode jdk_52_method_16_code 26 = .ok (.astore 5, 2) := by decide +kernel
theorem d_compress3_28 : decode jdk_52_method_16_code 28 = .ok (.aload 5, 2) := by decide +kernel
theorem d_compress3_30 : decode jdk_52_method_16_code 30 = .ok (.iload 4, 2) := by decide +kernel
theorem d_compress3_32 : decode jdk_52_method_16_code 32 = .ok (.invokestatic 71, 3) := by decide +kernel
theorem d_compress3_35 : decode jdk_52_method_16_code 35 = .ok (.sipush 255, 3) := by decide +kernel
theorem d_compress3_38 : decode jdk_52_method_16_code 38 = .ok (.if_icmp .gt 16, 3) := by decide +kernel
theorem d_compress3_54 : decode jdk_52_method_16_code 54 = .ok (.aload 5, 2) := by decide +kernel
theorem d_compress3_56 : decode jdk_52_method_16_code 56 = .ok (.areturn, 1) := by decide +kernel
theorem d_compress3_57 : decode jdk_52_method_16_code 57 = .ok (.aload_n 3, 1) := by decide +kernel
theorem d_compress3_58 : decode jdk_52_method_16_code 58 = .ok (.areturn, 1) := by decide +kernel
abbrev rm_compress3 : Room := ({ frames := 3, cells := 2, slots := 15, locals := 40 } : Room)
def Q_compress3 (Z : State) (b : Addr) (kC : ClassId) (cs : List Int32) (dv : Value) (h0 : Heap) (v : Option Value) (h : Heap) : Prop := ∃ t kb, v = some (.ref t) ∧ Keep h0 h [] ∧ h0.size ≤ t ∧ (((∀ c ∈ cs, ¬ (255 : Int32) < c) ∧ Arv Z h t kb .byte (Int32.ofNat cs.length) (cs.map lo8) (.int (0 : Int32))) ∨ Arv Z h t kb .byte (Int32.ofNat (2 * cs.length)) (u16 cs) (.int (0 : Int32)))
set_option maxRecDepth 65536 in
set_option maxHeartbeats 40000000 in
theorem ct_compress3 (l : Launch) (Z : State) (a0 : Array Value) (hw : ∀ d ∈ tables_1, d.before a0 Z = true) (G1 : Int32) (G3 : Value) (OS : Sts Z G1 G3) (b : Addr) (kC : ClassId) (cs : List Int32) (dv : Value) {h0 : Heap} (O : Ext Z.heap h0) (hmx : cs.length ≤ 5) (hmx4 : cs.length ≤ 4000) (hp : ∀ c ∈ cs, ¬ c < 0 ∧ ¬ (65535 : Int32) < c) (V0 : Arv Z h0 b kC .char (Int32.ofNat cs.length) (cs.map Value.int) dv) : Ct l Z (⟨"java/lang/StringUTF16", "compress", "([CII)[B"⟩ : MethodName) jdk_52_method_16_code 6 (some (.array .byte)) rm_compress3 #[(.ref b), (.int (0 : Int32)), (.int (Int32.ofNat cs.length))] h0 (Q_compress3 Z b kC cs dv h0) := by
  refine Ct.of_body (Ls := #[.val (.ref b), .val (.int (0 : Int32)), .val (.int (Int32.ofNat cs.length)), .unset, .unset, .unset]) (by decide +kernel) O (fun m => by first | rfl | (simp [entryFrame, mkF, argsToLocals, Value.category]; done) | (rcases ref_cases (Sts.ref OS) with rfl | ⟨r, rfl⟩ <;> rfl)) ?_
  intro p e s m below meth c T0 X0 e0
  subst e0
  have K00 := Keep.refl T0.heap []
  refine E_iloadN X0 d_compress3_0 rfl (pc' := 1) rfl ?_
  refine E_newarray X0 5 d_compress3_1 (hw _ (List.mem_of_getElem? (i := 25) rfl)) (o_nn (by omega)) (by rw [o_cl (by omega)]; exact hmx) (by decide) (by decide) (by decide) (pc' := 3) rfl ?_
  intro T1 b3 k7 X2 hb4 K5 V6
  have sz8 : T0.heap.size ≤ b3 := Nat.le_trans K00.1 (Nat.le_of_eq hb4.symm)
  have ne9 : b ≠ b3 := Nat.ne_of_lt (Nat.lt_of_lt_of_eq V0.lt hb4.symm)
  have KK10 := K00.trans K5 (fun x q => nomatch q)
  have Arv_11 := V0.keep K5 nin0
  have g12 : Z.heap.size ≤ b3 := Nat.le_trans X0.le (Nat.le_of_eq hb4.symm)
  have V13 : Arv Z T1.heap b3 k7 .byte (Int32.ofNat cs.length) [] (.int (0 : Int32)) := V6
  refine E_astoreN X2 d_compress3_3 rfl (l' := #[.val (.ref b), .val (.int (0 : Int32)), .val (.int (Int32.ofNat cs.length)), .val (.ref b3), .unset, .unset]) rfl (pc' := 4) rfl ?_
  refine E_aloadN X2 d_compress3_4 rfl rfl (pc' := 5) rfl ?_
  refine E_iloadN X2 d_compress3_5 rfl (pc' := 6) rfl ?_
  refine E_aloadN X2 d_compress3_6 rfl rfl (pc' := 7) rfl ?_
  refine E_iconst X2 (v := (0 : Int32)) d_compress3_7 rfl (pc' := 8) rfl ?_
  refine E_iloadN X2 d_compress3_8 rfl (pc' := 9) rfl ?_
  refine E_static X2 (rm := rm_compress5) d_compress3_9 (hw _ (List.mem_of_getElem? (i := 26) rfl)) (hw _ (List.mem_of_getElem? (i := 27) rfl)) (hw _ (List.mem_of_getElem? (i := 23) rfl)) (hw _ (List.mem_of_getElem? (i := 28) rfl)) (by decide) (argsL := [(.ref b), (.int (0 : Int32)), (.ref b3), (.int (0 : Int32)), (.int (Int32.ofNat cs.length))]) (st := []) rfl (ct_compress5 l Z a0 hw G1 G3 OS b b3 kC k7 cs dv X2.old hmx4 Arv_11 V13 ne9 g12) (lenOf (pd_9) rfl) rfl (by decide) (by decide) (by decide) (Nat.le_of_ble_eq_true rfl) (pc' := 12) rfl ?_
  intro T14 _ X15 hQ16
  obtain ⟨K17, hor⟩ := hQ16
  have KK18 := KK10.trans K17 (allS (Or.inr sz8) (fun x q => nomatch q))
  have Arv_19 := Arv_11.keep K17 (ninS ne9 nin0)
  rcases hor with ⟨rfl, hall, VB⟩ | ⟨j, hj, rfl, hbig⟩
  · skip
    show Ends p e below s Z _ _ _ T14 (mkF m 12 #[.val (.ref b), .val (.int (0 : Int32)), .val (.int (Int32.ofNat cs.length)), .val (.ref b3), .unset, .unset] [(.int (Int32.ofNat cs.length))])
    refine E_istore X15 d_compress3_12 (l' := #[.val (.ref b), .val (.int (0 : Int32)), .val (.int (Int32.ofNat cs.length)), .val (.ref b3), .val (.int (Int32.ofNat cs.length)), .unset]) rfl (pc' := 14) rfl ?_
    refine E_iload X15 d_compress3_14 rfl (pc' := 16) rfl ?_
    refine E_iloadN X15 d_compress3_16 rfl (pc' := 17) rfl ?_
    refine E_icT X15 d_compress3_17 (XT.ii_eq_t rfl) (pc' := 57) (by decide) rfl ?_
    refine E_aloadN X15 d_compress3_57 rfl rfl (pc' := 58) rfl ?_
    exact E_areturn X15 (t := (.array .byte)) d_compress3_58 rfl rfl rfl rfl (by decide) (by decide) (⟨b3, k7, rfl, KK18, sz8, Or.inl ⟨hall, VB⟩⟩)
  · skip
    show Ends p e below s Z _ _ _ T14 (mkF m 12 #[.val (.ref b), .val (.int (0 : Int32)), .val (.int (Int32.ofNat cs.length)), .val (.ref b3), .unset, .unset] [(.int (Int32.ofNat j))])
    refine E_istore X15 d_compress3_12 (l' := #[.val (.ref b), .val (.int (0 : Int32)), .val (.int (Int32.ofNat cs.length)), .val (.ref b3), .val (.int (Int32.ofNat j)), .unset]) rfl (pc' := 14) rfl ?_
    refine E_iload X15 d_compress3_14 rfl (pc' := 16) rfl ?_
    refine E_iloadN X15 d_compress3_16 rfl (pc' := 17) rfl ?_
    refine E_icF X15 d_compress3_17 (XT.ii_eq_f (fun q => by have q2 := congrArg Int32.toInt q; rw [o_int (by omega), o_int (by omega)] at q2; omega)) (pc' := 20) rfl ?_
    refine E_aloadN X15 d_compress3_20 rfl rfl (pc' := 21) rfl ?_
    refine E_iloadN X15 d_compress3_21 rfl (pc' := 22) rfl ?_
    refine E_iloadN X15 d_compress3_22 rfl (pc' := 23) rfl ?_
    refine E_static X15 (rm := rm_tob) d_compress3_23 (hw _ (List.mem_of_getElem? (i := 91) rfl)) (hw _ (List.mem_of_getElem? (i := 92) rfl)) (hw _ (List.mem_of_getElem? (i := 23) rfl)) (hw _ (List.mem_of_getElem? (i := 93) rfl)) (by decide) (argsL := [(.ref b), (.int (0 : Int32)), (.int (Int32.ofNat cs.length))]) (st := []) rfl (ct_tob l Z a0 hw G1 G3 OS b kC cs dv X15.old hmx hmx4 Arv_19) (lenOf (pd_10) rfl) rfl (by decide) (by decide) (by decide) (Nat.le_of_ble_eq_true rfl) (pc' := 26) rfl ?_
    intro T20 _ X21 hQ22
    obtain ⟨tt, kt, rfl, K23, s24, VT25⟩ := hQ22
    have KK26 := KK18.trans K23 (fun x q => nomatch q)
    have Arv_27 := Arv_19.keep K23 nin0
    have szt : T0.heap.size ≤ tt := Nat.le_trans KK18.1 s24
    show Ends p e below s Z _ _ _ T20 (mkF m 26 #[.val (.ref b), .val (.int (0 : Int32)), .val (.int (Int32.ofNat cs.length)), .val (.ref b3), .val (.int (Int32.ofNat j)), .unset] [(.ref tt)])
    refine E_astore X21 d_compress3_26 rfl (l' := #[.val (.ref b), .val (.int (0 : Int32)), .val (.int (Int32.ofNat cs.length)), .val (.ref b3), .val (.int (Int32.ofNat j)), .val (.ref tt)]) rfl (pc' := 28) rfl ?_
    refine E_aload X21 d_compress3_28 rfl rfl (pc' := 30) rfl ?_
    refine E_iload X21 d_compress3_30 rfl (pc' := 32) rfl ?_
    refine E_static X21 (rm := rm_ugc) d_compress3_32 (hw _ (List.mem_of_getElem? (i := 107) rfl)) (hw _ (List.mem_of_getElem? (i := 108) rfl)) (hw _ (List.mem_of_getElem? (i := 23) rfl)) (hw _ (List.mem_of_getElem? (i := 109) rfl)) (by decide) (argsL := [(.ref tt), (.int (Int32.ofNat j))]) (st := []) rfl (ct_ugc l Z a0 hw G1 G3 OS tt kt cs j X21.old VT25 hj hmx4 (hp _ (own_mem hj))) (lenOf (pd_4) rfl) rfl (by decide) (by decide) (by decide) (Nat.le_of_ble_eq_true rfl) (pc' := 35) rfl ?_
    intro T28 _ X29 hQ30
    obtain ⟨rfl, e31⟩ := hQ30
    have KK32 := own_keq KK26 e31
    rw [← e31] at Arv_27 VT25
    show Ends p e below s Z _ _ _ T28 (mkF m 35 #[.val (.ref b), .val (.int (0 : Int32)), .val (.int (Int32.ofNat cs.length)), .val (.ref b3), .val (.int (Int32.ofNat j)), .val (.ref tt)] [(.int (cs.getD j 0))])
    refine E_sipush X29 (v := (255 : Int32)) d_compress3_35 rfl (pc' := 38) rfl ?_
    refine E_icT X29 d_compress3_38 (XT.ii_gt_t hbig) (pc' := 54) (by decide) rfl ?_
    refine E_aload X29 d_compress3_54 rfl rfl (pc' := 56) rfl ?_
    exact E_areturn X29 (t := (.array .byte)) d_compress3_56 rfl rfl rfl rfl (by decide) (by decide) (⟨tt, kt, rfl, KK32, szt, Or.inr VT25⟩)
theorem d_init4_0 : decode jdk_42_method_149_code 0 = .ok (.aload_n 0, 1) := by decide +kernel
theorem d_init4_1 : decode jdk_42_method_149_code 1 = .ok (.invokespecial 1, 3) := by decide +kernel
theorem d_init4_4 : decode jdk_42_method_149_code 4 = .ok (.iload_n 3, 1) := by decide +kernel
theorem d_init4_5 : decode jdk_42_method_149_code 5 = .ok (.ifCond .ne 22, 3) := by decide +kernel
theorem d_init4_27 : decode jdk_42_method_149_code 27 = .ok (.getstatic 38, 3) := by decide +kernel
theorem d_init4_30 : decode jdk_42_method_149_code 30 = .ok (.ifCond .eq 28, 3) := by decide +kernel
theorem d_init4_33 : decode jdk_42_method_149_code 33 = .ok (.aload_n 1, 1) := by decide +kernel
theorem d_init4_34 : decode jdk_42_method_149_code 34 = .ok (.iload_n 2, 1) := by decide +kernel
theorem d_init4_35 : decode jdk_42_method_149_code 35 = .ok (.iload_n 3, 1) := by decide +kernel
theorem d_init4_36 : decode jdk_42_method_149_code 36 = .ok (.invokestatic 177, 3) := by decide +kernel
theorem d_init4_39 : decode jdk_42_method_149_code 39 = .ok (.astore 5, 2) := by decide +kernel
theorem d_init4_41 : decode jdk_42_method_149_code 41 = .ok (.aload_n 0, 1) := by decide +kernel
theorem d_init4_42 : decode jdk_42_method_149_code 42 = .ok (.aload 5, 2) := by decide +kernel
theorem d_init4_44 : decode jdk_42_method_149_code 44 = .ok (.iload_n 3, 1) := by decide +kernel
theorem d_init4_45 : decode jdk_42_method_149_code 45 = .ok (.invokestatic 47, 3) := by decide +kernel
theorem d_init4_48 : decode jdk_42_method_149_code 48 = .ok (.putfield 15, 3) := by decide +kernel
theorem d_init4_51 : decode jdk_42_method_149_code 51 = .ok (.aload_n 0, 1) := by decide +kernel
theorem d_init4_52 : decode jdk_42_method_149_code 52 = .ok (.aload 5, 2) := by decide +kernel
theorem d_init4_54 : decode jdk_42_method_149_code 54 = .ok (.putfield 9, 3) := by decide +kernel
theorem d_init4_57 : decode jdk_42_method_149_code 57 = .ok (.return_, 1) := by decide +kernel
abbrev rm_init4 : Room := ({ frames := 4, cells := 2, slots := 15, locals := 57 } : Room)
def Q_init4 (Z : State) (x b : Addr) (kC : ClassId) (cs : List Int32) (dv v0 c0 : Value) (h0 : Heap) (v : Option Value) (h : Heap) : Prop := v = none ∧ Keep h0 h [x] ∧ ∃ t, h0.size ≤ t ∧ OStr Z h x t cs
set_option maxRecDepth 65536 in
set_option maxHeartbeats 40000000 in
theorem ct_init4 (l : Launch) (Z : State) (a0 : Array Value) (hw : ∀ d ∈ tables_1, d.before a0 Z = true) (G1 : Int32) (G3 : Value) (OS : Sts Z G1 G3) (x b : Addr) (kC : ClassId) (cs : List Int32) (dv v0 c0 : Value) {h0 : Heap} (O : Ext Z.heap h0) (h0l : 0 < cs.length) (hmx : cs.length ≤ 5) (hp : ∀ c ∈ cs, ¬ c < 0 ∧ ¬ (65535 : Int32) < c) (E0 : Exa Z h0 x "java/lang/String") (F0 : Fld Z h0 x "java/lang/String" "value" "[B" v0) (C0 : Fld Z h0 x "java/lang/String" "coder" "B" c0) (gx : Z.heap.size ≤ x) (V0 : Arv Z h0 b kC .char (Int32.ofNat cs.length) (cs.map Value.int) dv) : Ct l Z (⟨"java/lang/String", "<init>", "([CIILjava/lang/Void;)V"⟩ : MethodName) jdk_42_method_149_code 6 none rm_init4 #[(.ref x), (.ref b), (.int (0 : Int32)), (.int (Int32.ofNat cs.length)), .null] h0 (Q_init4 Z x b kC cs dv v0 c0 h0) := by
  refine Ct.of_body (Ls := #[.val (.ref x), .val (.ref b), .val (.int (0 : Int32)), .val (.int (Int32.ofNat cs.length)), .val .null, .unset]) (by decide +kernel) O (fun m => by first | rfl | (simp [entryFrame, mkF, argsToLocals, Value.category]; done) | (rcases ref_cases (Sts.ref OS) with rfl | ⟨r, rfl⟩ <;> rfl)) ?_
  intro p e s m below meth c T0 X0 e0
  subst e0
  have hmx4 : cs.length ≤ 4000 := by omega
  have hxb : b ≠ x := fun q => by subst q; exact absurd rfl (ne_arr E0 (hw _ (List.mem_of_getElem? (i := 8) rfl)) (V0.choose_spec.1))
  have K00 := Keep.refl T0.heap [x]
  refine E_aloadN X0 d_init4_0 rfl rfl (pc' := 1) rfl ?_
  refine E_initO X0 d_init4_1 (hw _ (List.mem_of_getElem? (i := 17) rfl)) (hw _ (List.mem_of_getElem? (i := 18) rfl)) (hw _ (List.mem_of_getElem? (i := 19) rfl)) rfl (by decide) (Nat.le_of_ble_eq_true rfl) (pc' := 4) rfl ?_
  intro T1 X2 e3
  have KK4 := own_keq K00 e3
  rw [← e3] at E0 F0 C0 V0
  refine E_iloadN X2 d_init4_4 rfl (pc' := 5) rfl ?_
  refine E_ifT X2 d_init4_5 (XT.i0_ne_t (fun q => by have q2 := congrArg Int32.toInt q; rw [o_int (by omega)] at q2; have o1 : (0 : Int32).toInt = 0 := rfl; omega)) (pc' := 27) (by decide) rfl ?_
  refine E_getstatic X2 d_init4_27 (hw _ (List.mem_of_getElem? (i := 20) rfl)) Via.refl OS.1 (pc' := 30) rfl ?_
  intro T5 X6 e7
  have KK8 := own_keq KK4 e7
  rw [← e7] at E0 F0 C0 V0
  refine E_ifF X6 d_init4_30 (XT.i0_eq_f OS.2.1) (pc' := 33) rfl ?_
  refine E_aloadN X6 d_init4_33 rfl rfl (pc' := 34) rfl ?_
  refine E_iloadN X6 d_init4_34 rfl (pc' := 35) rfl ?_
  refine E_iloadN X6 d_init4_35 rfl (pc' := 36) rfl ?_
  refine E_static X6 (rm := rm_compress3) d_init4_36 (hw _ (List.mem_of_getElem? (i := 21) rfl)) (hw _ (List.mem_of_getElem? (i := 22) rfl)) (hw _ (List.mem_of_getElem? (i := 23) rfl)) (hw _ (List.mem_of_getElem? (i := 24) rfl)) (by decide) (argsL := [(.ref b), (.int (0 : Int32)), (.int (Int32.ofNat cs.length))]) (st := []) rfl (ct_compress3 l Z a0 hw G1 G3 OS b kC cs dv X6.old hmx hmx4 hp V0) (lenOf (pd_10) rfl) rfl (by decide) (by decide) (by decide) (Nat.le_of_ble_eq_true rfl) (pc' := 39) rfl ?_
  intro T9 _ X10 hQ11
  obtain ⟨t, kb, rfl, K12, szt0, hVT⟩ := hQ11
  have hxt : t ≠ x := Ne.symm (Nat.ne_of_lt (Nat.lt_of_lt_of_le E0.lt szt0))
  have KK13 := KK8.trans K12 (fun x q => nomatch q)
  have Exa_14 := E0.keep K12
  have Fld_15 := F0.keep K12 nin0
  have Fld_16 := C0.keep K12 nin0
  have Arv_17 := V0.keep K12 nin0
  have szt : T0.heap.size ≤ t := Nat.le_trans KK8.1 szt0
  rcases hVT with ⟨hall, VT⟩ | VT
  · skip
    show Ends p e below s Z _ _ _ T9 (mkF m 39 #[.val (.ref x), .val (.ref b), .val (.int (0 : Int32)), .val (.int (Int32.ofNat cs.length)), .val .null, .unset] [(.ref t)])
    refine E_astore X10 d_init4_39 rfl (l' := #[.val (.ref x), .val (.ref b), .val (.int (0 : Int32)), .val (.int (Int32.ofNat cs.length)), .val .null, .val (.ref t)]) rfl (pc' := 41) rfl ?_
    refine E_aloadN X10 d_init4_41 rfl rfl (pc' := 42) rfl ?_
    refine E_aload X10 d_init4_42 rfl rfl (pc' := 44) rfl ?_
    refine E_iloadN X10 d_init4_44 rfl (pc' := 45) rfl ?_
    refine E_static X10 (rm := rm_cfl) d_init4_45 (hw _ (List.mem_of_getElem? (i := 29) rfl)) (hw _ (List.mem_of_getElem? (i := 30) rfl)) (hw _ (List.mem_of_getElem? (i := 23) rfl)) (hw _ (List.mem_of_getElem? (i := 31) rfl)) (by decide) (argsL := [(.ref t), (.int (Int32.ofNat cs.length))]) (st := [(.ref x)]) rfl (ct_cfl l Z a0 hw G1 G3 OS t kb (Int32.ofNat cs.length) (Int32.ofNat cs.length) 0 (cs.map lo8) X10.old VT (by rw [Int32.sub_self]; rfl)) (lenOf (pd_11) rfl) rfl (by decide) (by decide) (by decide) (Nat.le_of_ble_eq_true rfl) (pc' := 48) rfl ?_
    intro T18 _ X19 hQ20
    obtain ⟨rfl, e21⟩ := hQ20
    have KK22 := own_keq KK13 e21
    rw [← e21] at Exa_14 Fld_15 Fld_16 Arv_17 VT
    show Ends p e below s Z _ _ _ T18 (mkF m 48 #[.val (.ref x), .val (.ref b), .val (.int (0 : Int32)), .val (.int (Int32.ofNat cs.length)), .val .null, .val (.ref t)] [(.int (0 : Int32)), (.ref x)])
    refine E_putfield X19 (ty := .byte) d_init4_48 (hw _ (List.mem_of_getElem? (i := 32) rfl)) Via.refl Fld_16 Exa_14 (Or.inr ⟨(hw _ (List.mem_of_getElem? (i := 33) rfl)), rfl, rfl⟩) (hw _ (List.mem_of_getElem? (i := 8) rfl)) (by decide) rfl rfl gx (pc' := 51) rfl ?_
    intro T23 X24 W25
    have K26 := Keep.of_wr W25
    have KK27 := KK22.trans K26 (allS (Or.inl (by simp)) (fun x q => nomatch q))
    have Exa_28 := Exa_14.keep K26
    have Arv_29 := Arv_17.keep K26 (ninS hxb nin0)
    have Arv_30 := VT.keep K26 (ninS hxt nin0)
    have F31 := Fld_16.same W25
    have F32 := Fld_15.other W25 (Or.inr (slot_ne (Or.inr (hw _ (List.mem_of_getElem? (i := 35) rfl))) (Or.inr (hw _ (List.mem_of_getElem? (i := 33) rfl))) (by decide) (t := (.array .byte)) (t' := .byte) (by decide) (by decide)))
    refine E_aloadN X24 d_init4_51 rfl rfl (pc' := 52) rfl ?_
    refine E_aload X24 d_init4_52 rfl rfl (pc' := 54) rfl ?_
    refine E_putfield X24 (ty := (.array .byte)) d_init4_54 (hw _ (List.mem_of_getElem? (i := 34) rfl)) Via.refl F32 Exa_28 (Or.inr ⟨(hw _ (List.mem_of_getElem? (i := 35) rfl)), rfl, rfl⟩) (hw _ (List.mem_of_getElem? (i := 8) rfl)) (by decide) rfl rfl gx (pc' := 57) rfl ?_
    intro T33 X34 W35
    have K36 := Keep.of_wr W35
    have KK37 := KK27.trans K36 (allS (Or.inl (by simp)) (fun x q => nomatch q))
    have Exa_38 := Exa_28.keep K36
    have Arv_39 := Arv_29.keep K36 (ninS hxb nin0)
    have Arv_40 := Arv_30.keep K36 (ninS hxt nin0)
    have F41 := F32.same W35
    have F42 := F31.other W35 (Or.inr (slot_ne (Or.inr (hw _ (List.mem_of_getElem? (i := 33) rfl))) (Or.inr (hw _ (List.mem_of_getElem? (i := 35) rfl))) (by decide) (t := .byte) (t' := (.array .byte)) (by decide) (by decide)))
    exact E_return X34 d_init4_57 rfl (by decide) (by decide) (⟨rfl, KK37, t, szt, kb, _, _, _, Exa_38, F41, F42, Arv_40, Or.inl ⟨rfl, rfl, rfl, hall⟩, hp, hmx4⟩)
  · skip
    show Ends p e below s Z _ _ _ T9 (mkF m 39 #[.val (.ref x), .val (.ref b), .val (.int (0 : Int32)), .val (.int (Int32.ofNat cs.length)), .val .null, .unset] [(.ref t)])
    refine E_astore X10 d_init4_39 rfl (l' := #[.val (.ref x), .val (.ref b), .val (.int (0 : Int32)), .val (.int (Int32.ofNat cs.length)), .val .null, .val (.ref t)]) rfl (pc' := 41) rfl ?_
    refine E_aloadN X10 d_init4_41 rfl rfl (pc' := 42) rfl ?_
    refine E_aload X10 d_init4_42 rfl rfl (pc' := 44) rfl ?_
    refine E_iloadN X10 d_init4_44 rfl (pc' := 45) rfl ?_
    refine E_static X10 (rm := rm_cfl) d_init4_45 (hw _ (List.mem_of_getElem? (i := 29) rfl)) (hw _ (List.mem_of_getElem? (i := 30) rfl)) (hw _ (List.mem_of_getElem? (i := 23) rfl)) (hw _ (List.mem_of_getElem? (i := 31) rfl)) (by decide) (argsL := [(.ref t), (.int (Int32.ofNat cs.length))]) (st := [(.ref x)]) rfl (ct_cfl l Z a0 hw G1 G3 OS t kb (Int32.ofNat (2 * cs.length)) (Int32.ofNat cs.length) 1 (u16 cs) X10.old VT (o_cfl (by omega) (by omega))) (lenOf (pd_11) rfl) rfl (by decide) (by decide) (by decide) (Nat.le_of_ble_eq_true rfl) (pc' := 48) rfl ?_
    intro T43 _ X44 hQ45
    obtain ⟨rfl, e46⟩ := hQ45
    have KK47 := own_keq KK13 e46
    rw [← e46] at Exa_14 Fld_15 Fld_16 Arv_17 VT
    show Ends p e below s Z _ _ _ T43 (mkF m 48 #[.val (.ref x), .val (.ref b), .val (.int (0 : Int32)), .val (.int (Int32.ofNat cs.length)), .val .null, .val (.ref t)] [(.int (1 : Int32)), (.ref x)])
    refine E_putfield X44 (ty := .byte) d_init4_48 (hw _ (List.mem_of_getElem? (i := 32) rfl)) Via.refl Fld_16 Exa_14 (Or.inr ⟨(hw _ (List.mem_of_getElem? (i := 33) rfl)), rfl, rfl⟩) (hw _ (List.mem_of_getElem? (i := 8) rfl)) (by decide) rfl rfl gx (pc' := 51) rfl ?_
    intro T48 X49 W50
    have K51 := Keep.of_wr W50
    have KK52 := KK47.trans K51 (allS (Or.inl (by simp)) (fun x q => nomatch q))
    have Exa_53 := Exa_14.keep K51
    have Arv_54 := Arv_17.keep K51 (ninS hxb nin0)
    have Arv_55 := VT.keep K51 (ninS hxt nin0)
    have F56 := Fld_16.same W50
    have F57 := Fld_15.other W50 (Or.inr (slot_ne (Or.inr (hw _ (List.mem_of_getElem? (i := 35) rfl))) (Or.inr (hw _ (List.mem_of_getElem? (i := 33) rfl))) (by decide) (t := (.array .byte)) (t' := .byte) (by decide) (by decide)))
    refine E_aloadN X49 d_init4_51 rfl rfl (pc' := 52) rfl ?_
    refine E_aload X49 d_init4_52 rfl rfl (pc' := 54) rfl ?_
    refine E_putfield X49 (ty := (.array .byte)) d_init4_54 (hw _ (List.mem_of_getElem? (i := 34) rfl)) Via.refl F57 Exa_53 (Or.inr ⟨(hw _ (List.mem_of_getElem? (i := 35) rfl)), rfl, rfl⟩) (hw _ (List.mem_of_getElem? (i := 8) rfl)) (by decide) rfl rfl gx (pc' := 57) rfl ?_
    intro T58 X59 W60
    have K61 := Keep.of_wr W60
    have KK62 := KK52.trans K61 (allS (Or.inl (by simp)) (fun x q => nomatch q))
    have Exa_63 := Exa_53.keep K61
    have Arv_64 := Arv_54.keep K61 (ninS hxb nin0)
    have Arv_65 := Arv_55.keep K61 (ninS hxt nin0)
    have F66 := F57.same W60
    have F67 := F56.other W60 (Or.inr (slot_ne (Or.inr (hw _ (List.mem_of_getElem? (i := 33) rfl))) (Or.inr (hw _ (List.mem_of_getElem? (i := 35) rfl))) (by decide) (t := .byte) (t' := (.array .byte)) (by decide) (by decide)))
    exact E_return X59 d_init4_57 rfl (by decide) (by decide) (⟨rfl, KK62, t, szt, kb, _, _, _, Exa_63, F66, F67, Arv_65, Or.inr ⟨rfl, rfl, rfl⟩, hp, hmx4⟩)
theorem d_sinit_0 : decode jdk_42_method_3_code 0 = .ok (.aload_n 0, 1) := by decide +kernel
theorem d_sinit_1 : decode jdk_42_method_3_code 1 = .ok (.aload_n 1, 1) := by decide +kernel
theorem d_sinit_2 : decode jdk_42_method_3_code 2 = .ok (.iconst 0, 1) := by decide +kernel
theorem d_sinit_3 : decode jdk_42_method_3_code 3 = .ok (.aload_n 1, 1) := by decide +kernel
theorem d_sinit_4 : decode jdk_42_method_3_code 4 = .ok (.arraylength, 1) := by decide +kernel
theorem d_sinit_5 : decode jdk_42_method_3_code 5 = .ok (.aconst_null, 1) := by decide +kernel
theorem d_sinit_6 : decode jdk_42_method_3_code 6 = .ok (.invokespecial 27, 3) := by decide +kernel
theorem d_sinit_9 : decode jdk_42_method_3_code 9 = .ok (.return_, 1) := by decide +kernel
abbrev rm_sinit : Room := ({ frames := 5, cells := 2, slots := 15, locals := 74 } : Room)
def Q_sinit (Z : State) (x b : Addr) (kC : ClassId) (cs : List Int32) (dv v0 c0 : Value) (h0 : Heap) (v : Option Value) (h : Heap) : Prop := v = none ∧ Keep h0 h [x] ∧ ∃ t, h0.size ≤ t ∧ OStr Z h x t cs
set_option maxRecDepth 65536 in
set_option maxHeartbeats 40000000 in
theorem ct_sinit (l : Launch) (Z : State) (a0 : Array Value) (hw : ∀ d ∈ tables_1, d.before a0 Z = true) (G1 : Int32) (G3 : Value) (OS : Sts Z G1 G3) (x b : Addr) (kC : ClassId) (cs : List Int32) (dv v0 c0 : Value) {h0 : Heap} (O : Ext Z.heap h0) (h0l : 0 < cs.length) (hmx : cs.length ≤ 5) (hp : ∀ c ∈ cs, ¬ c < 0 ∧ ¬ (65535 : Int32) < c) (E0 : Exa Z h0 x "java/lang/String") (F0 : Fld Z h0 x "java/lang/String" "value" "[B" v0) (C0 : Fld Z h0 x "java/lang/String" "coder" "B" c0) (gx : Z.heap.size ≤ x) (V0 : Arv Z h0 b kC .char (Int32.ofNat cs.length) (cs.map Value.int) dv) : Ct l Z (⟨"java/lang/String", "<init>", "([C)V"⟩ : MethodName) jdk_42_method_3_code 2 none rm_sinit #[(.ref x), (.ref b)] h0 (Q_sinit Z x b kC cs dv v0 c0 h0) := by
  refine Ct.of_body (Ls := #[.val (.ref x), .val (.ref b)]) (by decide +kernel) O (fun m => by first | rfl | (simp [entryFrame, mkF, argsToLocals, Value.category]; done) | (rcases ref_cases (Sts.ref OS) with rfl | ⟨r, rfl⟩ <;> rfl)) ?_
  intro p e s m below meth c T0 X0 e0
  subst e0
  refine E_aloadN X0 d_sinit_0 rfl rfl (pc' := 1) rfl ?_
  refine E_aloadN X0 d_sinit_1 rfl rfl (pc' := 2) rfl ?_
  refine E_iconst X0 (v := (0 : Int32)) d_sinit_2 rfl (pc' := 3) rfl ?_
  refine E_aloadN X0 d_sinit_3 rfl rfl (pc' := 4) rfl ?_
  refine E_arraylength X0 d_sinit_4 V0 (pc' := 5) rfl ?_
  refine E_aconstNull X0 d_sinit_5 (pc' := 6) rfl ?_
  refine E_special X0 (rm := rm_init4) (a := x) d_sinit_6 rfl rfl (hw _ (List.mem_of_getElem? (i := 13) rfl)) (hw _ (List.mem_of_getElem? (i := 14) rfl)) (hw _ (List.mem_of_getElem? (i := 16) rfl)) (by decide) (hw _ (List.mem_of_getElem? (i := 9) rfl)) (argsL := [(.ref b), (.int (0 : Int32)), (.int (Int32.ofNat cs.length)), .null]) (st := []) rfl (ct_init4 l Z a0 hw G1 G3 OS x b kC cs dv v0 c0 X0.old h0l hmx hp E0 F0 C0 gx V0) (lenOf (pd_12) rfl) rfl (by decide) (by decide) (by decide) (Nat.le_of_ble_eq_true rfl) (pc' := 9) rfl ?_
  intro T1 _ X2 hQ3
  obtain ⟨rfl, KF, t, szt, SF⟩ := hQ3
  show Ends p e below s Z _ _ _ T1 (mkF m 9 #[.val (.ref x), .val (.ref b)] [])
  exact E_return X2 d_sinit_9 rfl (by decide) (by decide) (⟨rfl, KF, t, szt, SF⟩)
def lnF (cs : List Int32) : Nat → Int32
  | 0 => 1
  | i + 1 => if cs.getD i 0 = 10 then lnF cs i + 1 else lnF cs i
def lsF (cs : List Int32) : Nat → Int32
  | 0 => 0
  | i + 1 => if cs.getD i 0 = 10 then Int32.ofNat i + 1 else lsF cs i
def nlF (c : Int32) (i o : Nat) : Int32 := if i < o ∧ c = 10 then 1 else 0
theorem nlF_01 (c : Int32) (i o : Nat) : nlF c i o = 1 ↔ i < o ∧ c = 10 := by unfold nlF; split <;> simp_all
theorem own_six (x : Int32) : ∃ o : Nat, o ≤ 5 ∧ (x &&& (2147483647 : Int32)) % (6 : Int32) = Int32.ofNat o := by
  have e1 := c_and x (2147483647 : Int32) (by decide)
  have e2 := (c_irem (x &&& (2147483647 : Int32)) (6 : Int32) 6 rfl).1 e1.1
  refine ⟨((x &&& (2147483647 : Int32)) % (6 : Int32)).toInt.toNat, by omega, ?_⟩
  apply Int32.toInt_inj.mp
  rw [o_int (by omega)]; omega
theorem own_sub (x a : Int32) : x - (a + 1) + 1 = x - a := by
  apply Int32.toInt_inj.mp
  have e1 := c_iadd (x - (a + 1)) 1; have e2 := c_isub x (a + 1); have e3 := c_iadd a 1; have e4 := c_isub x a
  have r1 := rng32 (x - (a + 1) + 1); have r2 := rng32 (x - a)
  have o1 : (1 : Int32).toInt = 1 := rfl
  omega
theorem ch_ok (x : Int32) : ¬ (x &&& (65535 : Int32)).toUInt32.toUInt16.toUInt32.toInt32 < 0 ∧ ¬ (65535 : Int32) < (x &&& (65535 : Int32)).toUInt32.toUInt16.toUInt32.toInt32 := by
  have e := c_i2c (x &&& (65535 : Int32))
  simp only [Int32.lt_iff_toInt_lt, Int32.reduceToInt]; omega
theorem law_line (c0 c1 c2 c3 c4 : Int32) (o : Nat) (ho : o ≤ 5) : lnF [c0, c1, c2, c3, c4] o = (1 : Int32) + nlF c0 0 o + nlF c1 1 o + nlF c2 2 o + nlF c3 3 o + nlF c4 4 o := by
  have hc : o = 0 ∨ o = 1 ∨ o = 2 ∨ o = 3 ∨ o = 4 ∨ o = 5 := by omega
  by_cases h0 : c0 = 10 <;> by_cases h1 : c1 = 10 <;> by_cases h2 : c2 = 10 <;> by_cases h3 : c3 = 10 <;> by_cases h4 : c4 = 10 <;> rcases hc with rfl | rfl | rfl | rfl | rfl | rfl <;> simp only [lnF, nlF, List.getD_cons_zero, List.getD_cons_succ, h0, h1, h2, h3, h4, if_true, if_false, and_true, and_false] <;> decide
theorem law_start (c0 c1 c2 c3 c4 : Int32) (o : Nat) (ho : o ≤ 5) : (nlF c4 4 o = 1 → lsF [c0, c1, c2, c3, c4] o = 4 + 1) ∧ (¬ nlF c4 4 o = 1 → nlF c3 3 o = 1 → lsF [c0, c1, c2, c3, c4] o = 3 + 1) ∧ (¬ nlF c4 4 o = 1 → ¬ nlF c3 3 o = 1 → nlF c2 2 o = 1 → lsF [c0, c1, c2, c3, c4] o = 2 + 1) ∧ (¬ nlF c4 4 o = 1 → ¬ nlF c3 3 o = 1 → ¬ nlF c2 2 o = 1 → nlF c1 1 o = 1 → lsF [c0, c1, c2, c3, c4] o = 1 + 1) ∧ (¬ nlF c4 4 o = 1 → ¬ nlF c3 3 o = 1 → ¬ nlF c2 2 o = 1 → ¬ nlF c1 1 o = 1 → nlF c0 0 o = 1 → lsF [c0, c1, c2, c3, c4] o = 0 + 1) ∧ (¬ nlF c4 4 o = 1 → ¬ nlF c3 3 o = 1 → ¬ nlF c2 2 o = 1 → ¬ nlF c1 1 o = 1 → ¬ nlF c0 0 o = 1 → lsF [c0, c1, c2, c3, c4] o = -1 + 1) := by
  have hc : o = 0 ∨ o = 1 ∨ o = 2 ∨ o = 3 ∨ o = 4 ∨ o = 5 := by omega
  simp only [nlF_01]
  by_cases h0 : c0 = 10 <;> by_cases h1 : c1 = 10 <;> by_cases h2 : c2 = 10 <;> by_cases h3 : c3 = 10 <;> by_cases h4 : c4 = 10 <;> rcases hc with rfl | rfl | rfl | rfl | rfl | rfl <;> simp only [lsF, List.getD_cons_zero, List.getD_cons_succ, h0, h1, h2, h3, h4, if_true, if_false, and_true, and_false] <;> simp +decide
theorem d_ch_0 : decode method_2_code 0 = .ok (.iload_n 0, 1) := by decide +kernel
theorem d_ch_1 : decode method_2_code 1 = .ok (.iconst 1, 1) := by decide +kernel
theorem d_ch_2 : decode method_2_code 2 = .ok (.iand, 1) := by decide +kernel
theorem d_ch_3 : decode method_2_code 3 = .ok (.ifCond .eq 8, 3) := by decide +kernel
theorem d_ch_6 : decode method_2_code 6 = .ok (.bipush 10, 2) := by decide +kernel
theorem d_ch_8 : decode method_2_code 8 = .ok (.goto 10, 3) := by decide +kernel
theorem d_ch_11 : decode method_2_code 11 = .ok (.iload_n 0, 1) := by decide +kernel
theorem d_ch_12 : decode method_2_code 12 = .ok (.iconst 1, 1) := by decide +kernel
theorem d_ch_13 : decode method_2_code 13 = .ok (.iushr, 1) := by decide +kernel
theorem d_ch_14 : decode method_2_code 14 = .ok (.ldc 7, 2) := by decide +kernel
theorem d_ch_16 : decode method_2_code 16 = .ok (.iand, 1) := by decide +kernel
theorem d_ch_17 : decode method_2_code 17 = .ok (.i2c, 1) := by decide +kernel
theorem d_ch_18 : decode method_2_code 18 = .ok (.ireturn, 1) := by decide +kernel
abbrev rm_ch : Room := ({ frames := 0, cells := 0, slots := 0, locals := 0 } : Room)
def Q_ch (Z : State) (p0 : Int32) (h0 : Heap) (v : Option Value) (h : Heap) : Prop := ∃ z, v = some (.int z) ∧ h = h0 ∧ ¬ z < 0 ∧ ¬ (65535 : Int32) < z
set_option maxRecDepth 65536 in
set_option maxHeartbeats 40000000 in
theorem ct_ch (l : Launch) (Z : State) (a0 : Array Value) (hw : ∀ d ∈ tables_1, d.before a0 Z = true) (G1 : Int32) (G3 : Value) (OS : Sts Z G1 G3) (p0 : Int32) {h0 : Heap} (O : Ext Z.heap h0)  : Ct l Z (⟨"com/example/semblance/semblance/QueryTokensPositionPinLaw", "ch", "(I)C"⟩ : MethodName) method_2_code 1 (some .char) rm_ch #[(.int p0)] h0 (Q_ch Z p0 h0) := by
  refine Ct.of_body (Ls := #[.val (.int p0)]) (by decide +kernel) O (fun m => by first | rfl | (simp [entryFrame, mkF, argsToLocals, Value.category]; done) | (rcases ref_cases (Sts.ref OS) with rfl | ⟨r, rfl⟩ <;> rfl)) ?_
  intro p e s m below meth c T0 X0 e0
  subst e0
  refine E_iloadN X0 d_ch_0 rfl (pc' := 1) rfl ?_
  refine E_iconst X0 (v := (1 : Int32)) d_ch_1 rfl (pc' := 2) rfl ?_
  refine E_iand X0 d_ch_2 rfl (pc' := 3) rfl ?_
  by_cases hc3 : (p0 &&& (1 : Int32)) = 0
  · skip
    refine E_ifT X0 d_ch_3 (XT.i0_eq_t hc3) (pc' := 11) (by decide) rfl ?_
    refine E_iloadN X0 d_ch_11 rfl (pc' := 12) rfl ?_
    refine E_iconst X0 (v := (1 : Int32)) d_ch_12 rfl (pc' := 13) rfl ?_
    refine E_iushr X0 d_ch_13 rfl (pc' := 14) rfl ?_
    refine E_ldcI X0 (v := (65535 : Int32)) d_ch_14 (hw _ (List.mem_of_getElem? (i := 5) rfl)) (pc' := 16) rfl ?_
    refine E_iand X0 d_ch_16 rfl (pc' := 17) rfl ?_
    refine E_i2c X0 d_ch_17 rfl (pc' := 18) rfl ?_
    exact E_ireturnN X0 (t := .char) d_ch_18 rfl (by simp) (by decide) (by decide) (⟨_, rfl, rfl, by rw [o_nar (ch_ok _).1 (ch_ok _).2]; exact (ch_ok _).1, by rw [o_nar (ch_ok _).1 (ch_ok _).2]; exact (ch_ok _).2⟩)
  · skip
    refine E_ifF X0 d_ch_3 (XT.i0_eq_f hc3) (pc' := 6) rfl ?_
    refine E_bipush X0 (v := (10 : Int32)) d_ch_6 rfl (pc' := 8) rfl ?_
    refine E_goto X0 d_ch_8 (pc' := 18) (by decide) rfl ?_
    exact E_ireturnN X0 (t := .char) d_ch_18 rfl (by simp) (by decide) (by decide) (⟨_, rfl, rfl, by decide, by decide⟩)
theorem d_recinit_0 : decode jdk_30_method_1_code 0 = .ok (.aload_n 0, 1) := by decide +kernel
theorem d_recinit_1 : decode jdk_30_method_1_code 1 = .ok (.invokespecial 1, 3) := by decide +kernel
theorem d_recinit_4 : decode jdk_30_method_1_code 4 = .ok (.return_, 1) := by decide +kernel
abbrev rm_recinit : Room := ({ frames := 1, cells := 0, slots := 0, locals := 12 } : Room)
def Q_recinit (Z : State) (x : Addr) (h0 : Heap) (v : Option Value) (h : Heap) : Prop := v = none ∧ h = h0
set_option maxRecDepth 65536 in
set_option maxHeartbeats 40000000 in
theorem ct_recinit (l : Launch) (Z : State) (a0 : Array Value) (hw : ∀ d ∈ tables_1, d.before a0 Z = true) (G1 : Int32) (G3 : Value) (OS : Sts Z G1 G3) (x : Addr) {h0 : Heap} (O : Ext Z.heap h0)  : Ct l Z (⟨"java/lang/Record", "<init>", "()V"⟩ : MethodName) jdk_30_method_1_code 1 none rm_recinit #[(.ref x)] h0 (Q_recinit Z x h0) := by
  refine Ct.of_body (Ls := #[.val (.ref x)]) (by decide +kernel) O (fun m => by first | rfl | (simp [entryFrame, mkF, argsToLocals, Value.category]; done) | (rcases ref_cases (Sts.ref OS) with rfl | ⟨r, rfl⟩ <;> rfl)) ?_
  intro p e s m below meth c T0 X0 e0
  subst e0
  refine E_aloadN X0 d_recinit_0 rfl rfl (pc' := 1) rfl ?_
  refine E_initO X0 d_recinit_1 (hw _ (List.mem_of_getElem? (i := 73) rfl)) (hw _ (List.mem_of_getElem? (i := 18) rfl)) (hw _ (List.mem_of_getElem? (i := 19) rfl)) rfl (by decide) (Nat.le_of_ble_eq_true rfl) (pc' := 4) rfl ?_
  intro T1 X2 e3
  exact E_return X2 d_recinit_4 rfl (by decide) (by decide) (⟨rfl, e3⟩)
theorem d_pinit_0 : decode prog_9_method_1_code 0 = .ok (.aload_n 0, 1) := by decide +kernel
theorem d_pinit_1 : decode prog_9_method_1_code 1 = .ok (.invokespecial 1, 3) := by decide +kernel
theorem d_pinit_4 : decode prog_9_method_1_code 4 = .ok (.aload_n 0, 1) := by decide +kernel
theorem d_pinit_5 : decode prog_9_method_1_code 5 = .ok (.iload_n 1, 1) := by decide +kernel
theorem d_pinit_6 : decode prog_9_method_1_code 6 = .ok (.putfield 7, 3) := by decide +kernel
theorem d_pinit_9 : decode prog_9_method_1_code 9 = .ok (.aload_n 0, 1) := by decide +kernel
theorem d_pinit_10 : decode prog_9_method_1_code 10 = .ok (.iload_n 2, 1) := by decide +kernel
theorem d_pinit_11 : decode prog_9_method_1_code 11 = .ok (.putfield 13, 3) := by decide +kernel
theorem d_pinit_14 : decode prog_9_method_1_code 14 = .ok (.return_, 1) := by decide +kernel
abbrev rm_pinit : Room := ({ frames := 2, cells := 0, slots := 0, locals := 24 } : Room)
def Q_pinit (Z : State) (x : Addr) (v0 c0 : Value) (ln co : Int32) (h0 : Heap) (v : Option Value) (h : Heap) : Prop := v = none ∧ Keep h0 h [x] ∧ Fld Z h x "com/example/semblance/semblance/QueryTokens$Position" "line" "I" (.int ln) ∧ Fld Z h x "com/example/semblance/semblance/QueryTokens$Position" "column" "I" (.int co)
set_option maxRecDepth 65536 in
set_option maxHeartbeats 40000000 in
theorem ct_pinit (l : Launch) (Z : State) (a0 : Array Value) (hw : ∀ d ∈ tables_1, d.before a0 Z = true) (G1 : Int32) (G3 : Value) (OS : Sts Z G1 G3) (x : Addr) (v0 c0 : Value) (ln co : Int32) {h0 : Heap} (O : Ext Z.heap h0) (E0 : Exa Z h0 x "com/example/semblance/semblance/QueryTokens$Position") (F0 : Fld Z h0 x "com/example/semblance/semblance/QueryTokens$Position" "line" "I" v0) (C0 : Fld Z h0 x "com/example/semblance/semblance/QueryTokens$Position" "column" "I" c0) (gx : Z.heap.size ≤ x) : Ct l Z (⟨"com/example/semblance/semblance/QueryTokens$Position", "<init>", "(II)V"⟩ : MethodName) prog_9_method_1_code 3 none rm_pinit #[(.ref x), (.int ln), (.int co)] h0 (Q_pinit Z x v0 c0 ln co h0) := by
  refine Ct.of_body (Ls := #[.val (.ref x), .val (.int ln), .val (.int co)]) (by decide +kernel) O (fun m => by first | rfl | (simp [entryFrame, mkF, argsToLocals, Value.category]; done) | (rcases ref_cases (Sts.ref OS) with rfl | ⟨r, rfl⟩ <;> rfl)) ?_
  intro p e s m below meth c T0 X0 e0
  subst e0
  have K00 := Keep.refl T0.heap [x]
  refine E_aloadN X0 d_pinit_0 rfl rfl (pc' := 1) rfl ?_
  refine E_special X0 (rm := rm_recinit) (a := x) d_pinit_1 rfl rfl (hw _ (List.mem_of_getElem? (i := 68) rfl)) (hw _ (List.mem_of_getElem? (i := 69) rfl)) (hw _ (List.mem_of_getElem? (i := 72) rfl)) (by decide) (hw _ (List.mem_of_getElem? (i := 71) rfl)) (argsL := []) (st := []) rfl (ct_recinit l Z a0 hw G1 G3 OS x X0.old) (lenOf (pd_13) rfl) rfl (by decide) (by decide) (by decide) (Nat.le_of_ble_eq_true rfl) (pc' := 4) rfl ?_
  intro T1 _ X2 hQ3
  obtain ⟨rfl, e4⟩ := hQ3
  have KK5 := own_keq K00 e4
  rw [← e4] at E0 F0 C0
  show Ends p e below s Z _ _ _ T1 (mkF m 4 #[.val (.ref x), .val (.int ln), .val (.int co)] [])
  refine E_aloadN X2 d_pinit_4 rfl rfl (pc' := 5) rfl ?_
  refine E_iloadN X2 d_pinit_5 rfl (pc' := 6) rfl ?_
  refine E_putfield X2 (ty := .int) d_pinit_6 (hw _ (List.mem_of_getElem? (i := 74) rfl)) Via.refl F0 E0 (Or.inr ⟨(hw _ (List.mem_of_getElem? (i := 75) rfl)), rfl, rfl⟩) (hw _ (List.mem_of_getElem? (i := 63) rfl)) (by decide) rfl rfl gx (pc' := 9) rfl ?_
  intro T6 X7 W8
  have K9 := Keep.of_wr W8
  have KK10 := KK5.trans K9 (allS (Or.inl (by simp)) (fun x q => nomatch q))
  have Exa_11 := E0.keep K9
  have F12 := F0.same W8
  have F13 := C0.other W8 (Or.inr (slot_ne (Or.inr (hw _ (List.mem_of_getElem? (i := 77) rfl))) (Or.inr (hw _ (List.mem_of_getElem? (i := 75) rfl))) (by decide) (t := .int) (t' := .int) (by decide) (by decide)))
  refine E_aloadN X7 d_pinit_9 rfl rfl (pc' := 10) rfl ?_
  refine E_iloadN X7 d_pinit_10 rfl (pc' := 11) rfl ?_
  refine E_putfield X7 (ty := .int) d_pinit_11 (hw _ (List.mem_of_getElem? (i := 76) rfl)) Via.refl F13 Exa_11 (Or.inr ⟨(hw _ (List.mem_of_getElem? (i := 77) rfl)), rfl, rfl⟩) (hw _ (List.mem_of_getElem? (i := 63) rfl)) (by decide) rfl rfl gx (pc' := 14) rfl ?_
  intro T14 X15 W16
  have K17 := Keep.of_wr W16
  have KK18 := KK10.trans K17 (allS (Or.inl (by simp)) (fun x q => nomatch q))
  have Exa_19 := Exa_11.keep K17
  have F20 := F13.same W16
  have F21 := F12.other W16 (Or.inr (slot_ne (Or.inr (hw _ (List.mem_of_getElem? (i := 75) rfl))) (Or.inr (hw _ (List.mem_of_getElem? (i := 77) rfl))) (by decide) (t := .int) (t' := .int) (by decide) (by decide)))
  exact E_return X15 d_pinit_14 rfl (by decide) (by decide) (⟨rfl, KK18, F21, F20⟩)
theorem d_line_0 : decode prog_9_method_5_code 0 = .ok (.aload_n 0, 1) := by decide +kernel
theorem d_line_1 : decode prog_9_method_5_code 1 = .ok (.getfield 7, 3) := by decide +kernel
theorem d_line_4 : decode prog_9_method_5_code 4 = .ok (.ireturn, 1) := by decide +kernel
abbrev rm_line : Room := ({ frames := 0, cells := 0, slots := 0, locals := 0 } : Room)
def Q_line (Z : State) (x : Addr) (ln : Int32) (h0 : Heap) (v : Option Value) (h : Heap) : Prop := v = some (.int ln) ∧ h = h0
set_option maxRecDepth 65536 in
set_option maxHeartbeats 40000000 in
theorem ct_line (l : Launch) (Z : State) (a0 : Array Value) (hw : ∀ d ∈ tables_1, d.before a0 Z = true) (G1 : Int32) (G3 : Value) (OS : Sts Z G1 G3) (x : Addr) (ln : Int32) {h0 : Heap} (O : Ext Z.heap h0) (F0 : Fld Z h0 x "com/example/semblance/semblance/QueryTokens$Position" "line" "I" (.int ln)) : Ct l Z (⟨"com/example/semblance/semblance/QueryTokens$Position", "line", "()I"⟩ : MethodName) prog_9_method_5_code 1 (some .int) rm_line #[(.ref x)] h0 (Q_line Z x ln h0) := by
  refine Ct.of_body (Ls := #[.val (.ref x)]) (by decide +kernel) O (fun m => by first | rfl | (simp [entryFrame, mkF, argsToLocals, Value.category]; done) | (rcases ref_cases (Sts.ref OS) with rfl | ⟨r, rfl⟩ <;> rfl)) ?_
  intro p e s m below meth c T0 X0 e0
  subst e0
  refine E_aloadN X0 d_line_0 rfl rfl (pc' := 1) rfl ?_
  refine E_getfield X0 d_line_1 (hw _ (List.mem_of_getElem? (i := 74) rfl)) Via.refl F0 (pc' := 4) rfl ?_
  intro T1 X2 e3
  rw [← e3] at F0
  exact E_ireturnI X2 d_line_4 rfl (by decide) (by decide) (⟨rfl, e3⟩)
theorem d_column_0 : decode prog_9_method_6_code 0 = .ok (.aload_n 0, 1) := by decide +kernel
theorem d_column_1 : decode prog_9_method_6_code 1 = .ok (.getfield 13, 3) := by decide +kernel
theorem d_column_4 : decode prog_9_method_6_code 4 = .ok (.ireturn, 1) := by decide +kernel
abbrev rm_column : Room := ({ frames := 0, cells := 0, slots := 0, locals := 0 } : Room)
def Q_column (Z : State) (x : Addr) (ln : Int32) (h0 : Heap) (v : Option Value) (h : Heap) : Prop := v = some (.int ln) ∧ h = h0
set_option maxRecDepth 65536 in
set_option maxHeartbeats 40000000 in
theorem ct_column (l : Launch) (Z : State) (a0 : Array Value) (hw : ∀ d ∈ tables_1, d.before a0 Z = true) (G1 : Int32) (G3 : Value) (OS : Sts Z G1 G3) (x : Addr) (ln : Int32) {h0 : Heap} (O : Ext Z.heap h0) (F0 : Fld Z h0 x "com/example/semblance/semblance/QueryTokens$Position" "column" "I" (.int ln)) : Ct l Z (⟨"com/example/semblance/semblance/QueryTokens$Position", "column", "()I"⟩ : MethodName) prog_9_method_6_code 1 (some .int) rm_column #[(.ref x)] h0 (Q_column Z x ln h0) := by
  refine Ct.of_body (Ls := #[.val (.ref x)]) (by decide +kernel) O (fun m => by first | rfl | (simp [entryFrame, mkF, argsToLocals, Value.category]; done) | (rcases ref_cases (Sts.ref OS) with rfl | ⟨r, rfl⟩ <;> rfl)) ?_
  intro p e s m below meth c T0 X0 e0
  subst e0
  refine E_aloadN X0 d_column_0 rfl rfl (pc' := 1) rfl ?_
  refine E_getfield X0 d_column_1 (hw _ (List.mem_of_getElem? (i := 76) rfl)) Via.refl F0 (pc' := 4) rfl ?_
  intro T1 X2 e3
  rw [← e3] at F0
  exact E_ireturnI X2 d_column_4 rfl (by decide) (by decide) (⟨rfl, e3⟩)
theorem o_lti {i o : Nat} (hi : i < 2147483648) (ho : o < 2147483648) : Int32.ofNat i < Int32.ofNat o ↔ i < o := by
  rw [Int32.lt_iff_toInt_lt, o_int hi, o_int ho]; omega
theorem d_nl_0 : decode method_3_code 0 = .ok (.iload_n 1, 1) := by decide +kernel
theorem d_nl_1 : decode method_3_code 1 = .ok (.iload_n 2, 1) := by decide +kernel
theorem d_nl_2 : decode method_3_code 2 = .ok (.if_icmp .ge 15, 3) := by decide +kernel
theorem d_nl_5 : decode method_3_code 5 = .ok (.aload_n 0, 1) := by decide +kernel
theorem d_nl_6 : decode method_3_code 6 = .ok (.iload_n 1, 1) := by decide +kernel
theorem d_nl_7 : decode method_3_code 7 = .ok (.caload, 1) := by decide +kernel
theorem d_nl_8 : decode method_3_code 8 = .ok (.bipush 10, 2) := by decide +kernel
theorem d_nl_10 : decode method_3_code 10 = .ok (.if_icmp .ne 7, 3) := by decide +kernel
theorem d_nl_13 : decode method_3_code 13 = .ok (.iconst 1, 1) := by decide +kernel
theorem d_nl_14 : decode method_3_code 14 = .ok (.goto 4, 3) := by decide +kernel
theorem d_nl_17 : decode method_3_code 17 = .ok (.iconst 0, 1) := by decide +kernel
theorem d_nl_18 : decode method_3_code 18 = .ok (.ireturn, 1) := by decide +kernel
abbrev rm_nl : Room := ({ frames := 0, cells := 0, slots := 0, locals := 0 } : Room)
def Q_nl (Z : State) (b : Addr) (kC : ClassId) (i o : Nat) (ch : Int32) (vs : List Value) (dv : Value) (h0 : Heap) (v : Option Value) (h : Heap) : Prop := v = some (.int (nlF ch i o)) ∧ h = h0
set_option maxRecDepth 65536 in
set_option maxHeartbeats 40000000 in
theorem ct_nl (l : Launch) (Z : State) (a0 : Array Value) (hw : ∀ d ∈ tables_1, d.before a0 Z = true) (G1 : Int32) (G3 : Value) (OS : Sts Z G1 G3) (b : Addr) (kC : ClassId) (i o : Nat) (ch : Int32) (vs : List Value) (dv : Value) {h0 : Heap} (O : Ext Z.heap h0) (V0 : Arv Z h0 b kC .char (5 : Int32) vs dv) (hi : i < 5) (ho : o ≤ 5) (hv : vs.getD (Int32.ofNat i).toNatClampNeg dv = .int ch) : Ct l Z (⟨"com/example/semblance/semblance/QueryTokensPositionPinLaw", "nl", "([CII)I"⟩ : MethodName) method_3_code 3 (some .int) rm_nl #[(.ref b), (.int (Int32.ofNat i)), (.int (Int32.ofNat o))] h0 (Q_nl Z b kC i o ch vs dv h0) := by
  refine Ct.of_body (Ls := #[.val (.ref b), .val (.int (Int32.ofNat i)), .val (.int (Int32.ofNat o))]) (by decide +kernel) O (fun m => by first | rfl | (simp [entryFrame, mkF, argsToLocals, Value.category]; done) | (rcases ref_cases (Sts.ref OS) with rfl | ⟨r, rfl⟩ <;> rfl)) ?_
  intro p e s m below meth c T0 X0 e0
  subst e0
  refine E_iloadN X0 d_nl_0 rfl (pc' := 1) rfl ?_
  refine E_iloadN X0 d_nl_1 rfl (pc' := 2) rfl ?_
  by_cases h2 : (Int32.ofNat i) < (Int32.ofNat o)
  · skip
    refine E_icF X0 d_nl_2 (XT.ii_ge_f h2) (pc' := 5) rfl ?_
    have h1 := (o_lti (by omega) (by omega)).mp h2
    refine E_aloadN X0 d_nl_5 rfl rfl (pc' := 6) rfl ?_
    refine E_iloadN X0 d_nl_6 rfl (pc' := 7) rfl ?_
    refine E_caload X0 (v := (.int ch)) d_nl_7 V0 ⟨o_nn (by omega), (o_lt (n := 5) hi (by decide))⟩ hv (pc' := 8) rfl ?_
    refine E_bipush X0 (v := (10 : Int32)) d_nl_8 rfl (pc' := 10) rfl ?_
    by_cases hc10 : ch = (10 : Int32)
    · skip
      refine E_icF X0 d_nl_10 (XT.ii_ne_f hc10) (pc' := 13) rfl ?_
      refine E_iconst X0 (v := (1 : Int32)) d_nl_13 rfl (pc' := 14) rfl ?_
      refine E_goto X0 d_nl_14 (pc' := 18) (by decide) rfl ?_
      exact E_ireturnI X0 d_nl_18 rfl (by decide) (by decide) (⟨by rw [nlF, if_pos ⟨h1, hc10⟩], rfl⟩)
    · skip
      refine E_icT X0 d_nl_10 (XT.ii_ne_t hc10) (pc' := 17) (by decide) rfl ?_
      refine E_iconst X0 (v := (0 : Int32)) d_nl_17 rfl (pc' := 18) rfl ?_
      exact E_ireturnI X0 d_nl_18 rfl (by decide) (by decide) (⟨by rw [nlF, if_neg (fun q => hc10 q.2)], rfl⟩)
  · skip
    refine E_icT X0 d_nl_2 (XT.ii_ge_t h2) (pc' := 17) (by decide) rfl ?_
    have h1 : ¬ i < o := fun q => h2 ((o_lti (by omega) (by omega)).mpr q)
    refine E_iconst X0 (v := (0 : Int32)) d_nl_17 rfl (pc' := 18) rfl ?_
    exact E_ireturnI X0 d_nl_18 rfl (by decide) (by decide) (⟨by rw [nlF, if_neg (fun q => h1 q.1)], rfl⟩)
theorem d_position_0 : decode prog_7_method_4_code 0 = .ok (.iconst 1, 1) := by decide +kernel
theorem d_position_1 : decode prog_7_method_4_code 1 = .ok (.istore_n 2, 1) := by decide +kernel
theorem d_position_2 : decode prog_7_method_4_code 2 = .ok (.iconst 0, 1) := by decide +kernel
theorem d_position_3 : decode prog_7_method_4_code 3 = .ok (.istore_n 3, 1) := by decide +kernel
theorem d_position_4 : decode prog_7_method_4_code 4 = .ok (.iconst 0, 1) := by decide +kernel
theorem d_position_5 : decode prog_7_method_4_code 5 = .ok (.istore 4, 2) := by decide +kernel
theorem d_position_7 : decode prog_7_method_4_code 7 = .ok (.iload 4, 2) := by decide +kernel
theorem d_position_9 : decode prog_7_method_4_code 9 = .ok (.iload_n 1, 1) := by decide +kernel
theorem d_position_10 : decode prog_7_method_4_code 10 = .ok (.if_icmp .ge 28, 3) := by decide +kernel
theorem d_position_13 : decode prog_7_method_4_code 13 = .ok (.aload_n 0, 1) := by decide +kernel
theorem d_position_14 : decode prog_7_method_4_code 14 = .ok (.iload 4, 2) := by decide +kernel
theorem d_position_16 : decode prog_7_method_4_code 16 = .ok (.invokevirtual 28, 3) := by decide +kernel
theorem d_position_19 : decode prog_7_method_4_code 19 = .ok (.bipush 10, 2) := by decide +kernel
theorem d_position_21 : decode prog_7_method_4_code 21 = .ok (.if_icmp .ne 11, 3) := by decide +kernel
theorem d_position_24 : decode prog_7_method_4_code 24 = .ok (.iinc 2 1, 3) := by decide +kernel
theorem d_position_27 : decode prog_7_method_4_code 27 = .ok (.iload 4, 2) := by decide +kernel
theorem d_position_29 : decode prog_7_method_4_code 29 = .ok (.iconst 1, 1) := by decide +kernel
theorem d_position_30 : decode prog_7_method_4_code 30 = .ok (.iadd, 1) := by decide +kernel
theorem d_position_31 : decode prog_7_method_4_code 31 = .ok (.istore_n 3, 1) := by decide +kernel
theorem d_position_32 : decode prog_7_method_4_code 32 = .ok (.iinc 4 1, 3) := by decide +kernel
theorem d_position_35 : decode prog_7_method_4_code 35 = .ok (.goto (-28), 3) := by decide +kernel
theorem d_position_38 : decode prog_7_method_4_code 38 = .ok (.new 129, 3) := by decide +kernel
theorem d_position_41 : decode prog_7_method_4_code 41 = .ok (.dup, 1) := by decide +kernel
theorem d_position_42 : decode prog_7_method_4_code 42 = .ok (.iload_n 2, 1) := by decide +kernel
theorem d_position_43 : decode prog_7_method_4_code 43 = .ok (.iload_n 1, 1) := by decide +kernel
theorem d_position_44 : decode prog_7_method_4_code 44 = .ok (.iload_n 3, 1) := by decide +kernel
theorem d_position_45 : decode prog_7_method_4_code 45 = .ok (.isub, 1) := by decide +kernel
theorem d_position_46 : decode prog_7_method_4_code 46 = .ok (.iconst 1, 1) := by decide +kernel
theorem d_position_47 : decode prog_7_method_4_code 47 = .ok (.iadd, 1) := by decide +kernel
theorem d_position_48 : decode prog_7_method_4_code 48 = .ok (.invokespecial 131, 3) := by decide +kernel
theorem d_position_51 : decode prog_7_method_4_code 51 = .ok (.areturn, 1) := by decide +kernel
abbrev rm_position : Room := ({ frames := 5, cells := 1, slots := 2, locals := 66 } : Room)
def Q_position (Z : State) (x t : Addr) (cs : List Int32) (o : Nat) (h0 : Heap) (v : Option Value) (h : Heap) : Prop := ∃ a, v = some (.ref a) ∧ Keep h0 h [] ∧ h0.size ≤ a ∧ Exa Z h a "com/example/semblance/semblance/QueryTokens$Position" ∧ Fld Z h a "com/example/semblance/semblance/QueryTokens$Position" "line" "I" (.int (lnF cs o)) ∧ Fld Z h a "com/example/semblance/semblance/QueryTokens$Position" "column" "I" (.int (Int32.ofNat o - lsF cs o + (1 : Int32)))
set_option maxRecDepth 65536 in
set_option maxHeartbeats 40000000 in
theorem lp_position (l : Launch) (Z : State) (a0 : Array Value) (hw : ∀ d ∈ tables_1, d.before a0 Z = true) (G1 : Int32) (G3 : Value) (OS : Sts Z G1 G3) (x t : Addr) (cs : List Int32) (o : Nat) {h0 : Heap} {p : Program} {e : Env} {s : State} {m : MethodId} {below : List Frame} {meth : Method} {c : Code} (k : Nat) : ∀ {T0 : State} (i : Nat), Wk l Z rm_position prog_7_method_4_code 5 (some (.object "com/example/semblance/semblance/QueryTokens$Position")) "com/example/semblance/semblance/QueryTokens" "position" p e s m #[(.ref x), (.int (Int32.ofNat o))] below meth c T0 0 0 → (i + k = o) → (o ≤ cs.length) → (T0.heap = h0) → (OStr Z T0.heap x t cs) → Ends p e below s Z (Q_position Z x t cs o h0) rm_position.cells rm_position.slots T0 (mkF m 7 #[.val (.ref x), .val (.int (Int32.ofNat o)), .val (.int (lnF cs i)), .val (.int (lsF cs i)), .val (.int (Int32.ofNat i))] []) := by
  induction k with
  | zero =>
    intro T0 i X0 hi ho eh S0
    have ls : cs.length ≤ 4000 := by obtain ⟨_, _, _, _, _, _, _, _, _, _, q⟩ := S0; exact q
    have hik : i = o := by omega
    subst hik
    subst eh
    have K00 := Keep.refl T0.heap []
    refine E_iload X0 d_position_7 rfl (pc' := 9) rfl ?_
    refine E_iloadN X0 d_position_9 rfl (pc' := 10) rfl ?_
    refine E_icT X0 d_position_10 (XT.ii_ge_t (o_nlt (Nat.le_refl _) (by have := ls; omega))) (pc' := 38) (by decide) rfl ?_
    refine E_new X0 d_position_38 (hw _ (List.mem_of_getElem? (i := 62) rfl)) (hw _ (List.mem_of_getElem? (i := 63) rfl)) (hw _ (List.mem_of_getElem? (i := 64) rfl)) (by decide) (by decide) (pc' := 41) rfl ?_
    intro T1 b3 X2 hb4 K5 E6 D7
    have sz8 : T0.heap.size ≤ b3 := Nat.le_trans K00.1 (Nat.le_of_eq hb4.symm)
    have ne9 : x ≠ b3 := Nat.ne_of_lt (Nat.lt_of_lt_of_eq (OStr.lt S0) hb4.symm)
    have ne10 : t ≠ b3 := Nat.ne_of_lt (Nat.lt_of_lt_of_eq (OStr.ltv S0) hb4.symm)
    have KK11 := K00.trans K5 (fun x q => nomatch q)
    have Str_12 := OStr.keep S0 K5 nin0 nin0
    have g13 : Z.heap.size ≤ b3 := Nat.le_trans X0.le (Nat.le_of_eq hb4.symm)
    have F14 : Fld Z T1.heap b3 "com/example/semblance/semblance/QueryTokens$Position" "line" "I" (.int (0 : Int32)) := D7 (Or.inr (hw _ (List.mem_of_getElem? (i := 75) rfl))) (ty := .int) (by decide)
    have F15 : Fld Z T1.heap b3 "com/example/semblance/semblance/QueryTokens$Position" "column" "I" (.int (0 : Int32)) := D7 (Or.inr (hw _ (List.mem_of_getElem? (i := 77) rfl))) (ty := .int) (by decide)
    refine E_dup X2 d_position_41 rfl (pc' := 42) rfl ?_
    refine E_iloadN X2 d_position_42 rfl (pc' := 43) rfl ?_
    refine E_iloadN X2 d_position_43 rfl (pc' := 44) rfl ?_
    refine E_iloadN X2 d_position_44 rfl (pc' := 45) rfl ?_
    refine E_isub X2 d_position_45 rfl (pc' := 46) rfl ?_
    refine E_iconst X2 (v := (1 : Int32)) d_position_46 rfl (pc' := 47) rfl ?_
    refine E_iadd X2 d_position_47 rfl (pc' := 48) rfl ?_
    refine E_special X2 (rm := rm_pinit) (a := b3) d_position_48 rfl rfl (hw _ (List.mem_of_getElem? (i := 65) rfl)) (hw _ (List.mem_of_getElem? (i := 66) rfl)) (hw _ (List.mem_of_getElem? (i := 67) rfl)) (by decide) (hw _ (List.mem_of_getElem? (i := 64) rfl)) (argsL := [(.int (lnF cs i)), (.int (((Int32.ofNat i) - (lsF cs i)) + (1 : Int32)))]) (st := [(.ref b3)]) rfl (ct_pinit l Z a0 hw G1 G3 OS b3 (.int (0 : Int32)) (.int (0 : Int32)) (lnF cs i) (((Int32.ofNat i) - (lsF cs i)) + (1 : Int32)) X2.old E6 F14 F15 g13) (lenOf (pd_1) rfl) rfl (by decide) (by decide) (by decide) (Nat.le_of_ble_eq_true rfl) (pc' := 51) rfl ?_
    intro T16 _ X17 hQ18
    obtain ⟨rfl, K19, FL, FC⟩ := hQ18
    have KK20 := KK11.trans K19 (allS (Or.inr sz8) (fun x q => nomatch q))
    have Str_21 := OStr.keep Str_12 K19 (ninS ne9 nin0) (ninS ne10 nin0)
    have Exa_22 := E6.keep K19
    show Ends p e below s Z _ _ _ T16 (mkF m 51 #[.val (.ref x), .val (.int (Int32.ofNat i)), .val (.int (lnF cs i)), .val (.int (lsF cs i)), .val (.int (Int32.ofNat i))] [(.ref b3)])
    exact E_areturn X17 (t := (.object "com/example/semblance/semblance/QueryTokens$Position")) d_position_51 rfl rfl rfl rfl (by decide) (by decide) (⟨b3, rfl, KK20, sz8, Exa_22, FL, FC⟩)
  | succ k ih =>
    intro T0 i X0 hi ho eh S0
    have ls : cs.length ≤ 4000 := by obtain ⟨_, _, _, _, _, _, _, _, _, _, q⟩ := S0; exact q
    have hlt : i < cs.length := by omega
    refine E_iload X0 d_position_7 rfl (pc' := 9) rfl ?_
    refine E_iloadN X0 d_position_9 rfl (pc' := 10) rfl ?_
    refine E_icF X0 d_position_10 (XT.ii_ge_f (o_lt (by omega) (by have := ls; omega))) (pc' := 13) rfl ?_
    refine E_aloadN X0 d_position_13 rfl rfl (pc' := 14) rfl ?_
    refine E_iload X0 d_position_14 rfl (pc' := 16) rfl ?_
    refine E_virtual X0 (rm := rm_sch) (a := x) (D := "java/lang/String") d_position_16 (hw _ (List.mem_of_getElem? (i := 40) rfl)) (hw _ (List.mem_of_getElem? (i := 41) rfl)) (hw _ (List.mem_of_getElem? (i := 43) rfl)) (hw _ (List.mem_of_getElem? (i := 42) rfl)) (notFace_of_selects (args := #[]) (mvT X0.hZ (hw _ (List.mem_of_getElem? (i := 43) rfl)))) (by decide) (OStr.exa S0) (hw _ (List.mem_of_getElem? (i := 9) rfl)) (hw _ (List.mem_of_getElem? (i := 44) rfl)) (argsL := [(.int (Int32.ofNat i))]) (st := []) rfl (ct_sch l Z a0 hw G1 G3 OS x t cs i X0.old S0 hlt) (lenOf (pd_14) rfl) rfl (by decide) (by decide) (by decide) (Nat.le_of_ble_eq_true rfl) (pc' := 19) rfl ?_
    intro T1 _ X2 hQ3
    obtain ⟨rfl, e4⟩ := hQ3
    rw [← e4] at S0
    show Ends p e below s Z _ _ _ T1 (mkF m 19 #[.val (.ref x), .val (.int (Int32.ofNat o)), .val (.int (lnF cs i)), .val (.int (lsF cs i)), .val (.int (Int32.ofNat i))] [(.int (cs.getD i 0))])
    refine E_bipush X2 (v := (10 : Int32)) d_position_19 rfl (pc' := 21) rfl ?_
    by_cases hc21 : (cs.getD i 0) = (10 : Int32)
    · skip
      refine E_icF X2 d_position_21 (XT.ii_ne_f hc21) (pc' := 24) rfl ?_
      refine E_iinc X2 (y := (lnF cs (i + 1))) d_position_24 (by rw [lnF, if_pos hc21]; rfl) rfl (l' := #[.val (.ref x), .val (.int (Int32.ofNat o)), .val (.int (lnF cs (i + 1))), .val (.int (lsF cs i)), .val (.int (Int32.ofNat i))]) rfl (pc' := 27) rfl ?_
      refine E_iload X2 d_position_27 rfl (pc' := 29) rfl ?_
      refine E_iconst X2 (v := (1 : Int32)) d_position_29 rfl (pc' := 30) rfl ?_
      refine E_iadd X2 (v := (lsF cs (i + 1))) d_position_30 (by rw [lsF, if_pos hc21]) (pc' := 31) rfl ?_
      refine E_istoreN X2 d_position_31 (l' := #[.val (.ref x), .val (.int (Int32.ofNat o)), .val (.int (lnF cs (i + 1))), .val (.int (lsF cs (i + 1))), .val (.int (Int32.ofNat i))]) rfl (pc' := 32) rfl ?_
      refine E_iinc X2 (y := (Int32.ofNat (i + 1))) d_position_32 o_add rfl (l' := #[.val (.ref x), .val (.int (Int32.ofNat o)), .val (.int (lnF cs (i + 1))), .val (.int (lsF cs (i + 1))), .val (.int (Int32.ofNat (i + 1)))]) rfl (pc' := 35) rfl ?_
      refine E_goto X2 d_position_35 (pc' := 7) (by decide) rfl ?_
      exact ih (i + 1) X2 (by omega) ho (e4.trans eh) S0
    · skip
      refine E_icT X2 d_position_21 (XT.ii_ne_t hc21) (pc' := 32) (by decide) rfl ?_
      refine E_iinc X2 (y := (Int32.ofNat (i + 1))) d_position_32 o_add rfl (l' := #[.val (.ref x), .val (.int (Int32.ofNat o)), .val (.int (lnF cs i)), .val (.int (lsF cs i)), .val (.int (Int32.ofNat (i + 1)))]) rfl (pc' := 35) rfl ?_
      refine E_goto X2 d_position_35 (pc' := 7) (by decide) rfl ?_
      have e1 : lnF cs (i + 1) = lnF cs i := by rw [lnF, if_neg hc21]
      have e2 : lsF cs (i + 1) = lsF cs i := by rw [lsF, if_neg hc21]
      rw [← e1, ← e2]
      exact ih (i + 1) X2 (by omega) ho (e4.trans eh) S0
set_option maxRecDepth 65536 in
set_option maxHeartbeats 40000000 in
theorem ct_position (l : Launch) (Z : State) (a0 : Array Value) (hw : ∀ d ∈ tables_1, d.before a0 Z = true) (G1 : Int32) (G3 : Value) (OS : Sts Z G1 G3) (x t : Addr) (cs : List Int32) (o : Nat) {h0 : Heap} (O : Ext Z.heap h0) (S0 : OStr Z h0 x t cs) (ho : o ≤ cs.length) : Ct l Z (⟨"com/example/semblance/semblance/QueryTokens", "position", "(Ljava/lang/String;I)Lcom/example/semblance/semblance/QueryTokens$Position;"⟩ : MethodName) prog_7_method_4_code 5 (some (.object "com/example/semblance/semblance/QueryTokens$Position")) rm_position #[(.ref x), (.int (Int32.ofNat o))] h0 (Q_position Z x t cs o h0) := by
  refine Ct.of_body (Ls := #[.val (.ref x), .val (.int (Int32.ofNat o)), .unset, .unset, .unset]) (by decide +kernel) O (fun m => by first | rfl | (simp [entryFrame, mkF, argsToLocals, Value.category]; done) | (rcases ref_cases (Sts.ref OS) with rfl | ⟨r, rfl⟩ <;> rfl)) ?_
  intro p e s m below meth c T0 X0 e0
  subst e0
  refine E_iconst X0 (v := (1 : Int32)) d_position_0 rfl (pc' := 1) rfl ?_
  refine E_istoreN X0 d_position_1 (l' := #[.val (.ref x), .val (.int (Int32.ofNat o)), .val (.int (1 : Int32)), .unset, .unset]) rfl (pc' := 2) rfl ?_
  refine E_iconst X0 (v := (0 : Int32)) d_position_2 rfl (pc' := 3) rfl ?_
  refine E_istoreN X0 d_position_3 (l' := #[.val (.ref x), .val (.int (Int32.ofNat o)), .val (.int (1 : Int32)), .val (.int (0 : Int32)), .unset]) rfl (pc' := 4) rfl ?_
  refine E_iconst X0 (v := (0 : Int32)) d_position_4 rfl (pc' := 5) rfl ?_
  refine E_istore X0 d_position_5 (l' := #[.val (.ref x), .val (.int (Int32.ofNat o)), .val (.int (1 : Int32)), .val (.int (0 : Int32)), .val (.int (0 : Int32))]) rfl (pc' := 7) rfl ?_
  exact lp_position l Z a0 hw G1 G3 OS x t cs o o 0 X0 (by omega) ho rfl S0
theorem allN {P : Int32 → Prop} : ∀ c ∈ ([] : List Int32), P c := fun _ q => nomatch q
theorem allC {P : Int32 → Prop} {a : Int32} {r : List Int32} (h : P a) (t : ∀ c ∈ r, P c) : ∀ c ∈ a :: r, P c := fun c q => (List.mem_cons.mp q).elim (fun u => u ▸ h) (t c)
set_option maxRecDepth 65536 in
set_option maxHeartbeats 40000000 in
theorem ct_law (l : Launch) (Z : State) (a0 : Array Value) (hw : ∀ d ∈ tables_1, d.before a0 Z = true) (p0 p1 p2 p3 p4 p5 : Int32) (G1 : Int32) (G3 : Value) (O : Ext Z.heap Z.heap) (OS : Sts Z G1 G3) : Ct l Z x code maxLocals ret room_1 #[(.int p0), (.int p1), (.int p2), (.int p3), (.int p4), (.int p5)] Z.heap (fun v _ => v = some (.int 1)) := by
  show Ct l Z (⟨"com/example/semblance/semblance/QueryTokensPositionPinLaw", "law", "(IIIIII)Z"⟩ : MethodName) code 12 (some .boolean) ({ frames := 9, cells := 24, slots := 128, locals := 208 } : Room) _ _ _
  refine Ct.of_body (Ls := #[.val (.int p0), .val (.int p1), .val (.int p2), .val (.int p3), .val (.int p4), .val (.int p5), .unset, .unset, .unset, .unset, .unset, .unset]) (by decide +kernel) O (fun m => by first | rfl | (simp [entryFrame, mkF, argsToLocals, Value.category]; done) | (rcases ref_cases (Sts.ref OS) with rfl | ⟨r, rfl⟩ <;> rfl)) ?_
  intro p e s m below meth c T0 X0 e0
  obtain ⟨oo, hoo, hoo2⟩ := own_six p5
  refine E_iconst X0 (v := (5 : Int32)) at_0 rfl (pc' := 1) rfl ?_
  refine E_newarray X0 5 at_1 (hw _ (List.mem_of_getElem? (i := 0) rfl)) (by decide) (by decide) (by decide) (by decide) (by decide) (pc' := 3) rfl ?_
  intro T1 b3 k7 X2 hb4 K5 V6
  have g8 : Z.heap.size ≤ b3 := Nat.le_trans X0.le (Nat.le_of_eq hb4.symm)
  have V9 : Arv Z T1.heap b3 k7 .char (5 : Int32) [(.int (0 : Int32)), (.int (0 : Int32)), (.int (0 : Int32)), (.int (0 : Int32)), (.int (0 : Int32))] (.int (0 : Int32)) := V6.pad (pad_rep [] (.int (0 : Int32)) 5)
  refine E_dup X2 at_3 rfl (pc' := 4) rfl ?_
  refine E_iconst X2 (v := (0 : Int32)) at_4 rfl (pc' := 5) rfl ?_
  refine E_iloadN X2 at_5 rfl (pc' := 6) rfl ?_
  refine E_static X2 (rm := rm_ch) at_6 (hw _ (List.mem_of_getElem? (i := 1) rfl)) (hw _ (List.mem_of_getElem? (i := 2) rfl)) (hw _ (List.mem_of_getElem? (i := 3) rfl)) (hw _ (List.mem_of_getElem? (i := 4) rfl)) (by decide) (argsL := [(.int p0)]) (st := [(.int (0 : Int32)), (.ref b3), (.ref b3)]) rfl (ct_ch l Z a0 hw G1 G3 OS p0 X2.old) (lenOf (pd_14) rfl) rfl (by decide) (by decide) (by decide) (Nat.le_of_ble_eq_true rfl) (pc' := 9) rfl ?_
  intro T11 _ X12 hQ13
  obtain ⟨z10, rfl, e14, bz10, cz10⟩ := hQ13
  rw [← e14] at V9
  show Ends p e below s Z _ _ _ T11 (mkF m 9 #[.val (.int p0), .val (.int p1), .val (.int p2), .val (.int p3), .val (.int p4), .val (.int p5), .unset, .unset, .unset, .unset, .unset, .unset] [(.int z10), (.int (0 : Int32)), (.ref b3), (.ref b3)])
  refine E_castore X12 0 (y := z10) at_9 (o_nar bz10 cz10) V9 ⟨by decide, by decide⟩ rfl (Nat.le_of_ble_eq_true rfl) g8 (pc' := 10) rfl ?_
  intro T15 X16 K17 V18
  have V19 : Arv Z T15.heap b3 k7 .char (5 : Int32) [(.int z10), (.int (0 : Int32)), (.int (0 : Int32)), (.int (0 : Int32)), (.int (0 : Int32))] (.int (0 : Int32)) := V18
  refine E_dup X16 at_10 rfl (pc' := 11) rfl ?_
  refine E_iconst X16 (v := (1 : Int32)) at_11 rfl (pc' := 12) rfl ?_
  refine E_iloadN X16 at_12 rfl (pc' := 13) rfl ?_
  refine E_static X16 (rm := rm_ch) at_13 (hw _ (List.mem_of_getElem? (i := 1) rfl)) (hw _ (List.mem_of_getElem? (i := 2) rfl)) (hw _ (List.mem_of_getElem? (i := 3) rfl)) (hw _ (List.mem_of_getElem? (i := 4) rfl)) (by decide) (argsL := [(.int p1)]) (st := [(.int (1 : Int32)), (.ref b3), (.ref b3)]) rfl (ct_ch l Z a0 hw G1 G3 OS p1 X16.old) (lenOf (pd_14) rfl) rfl (by decide) (by decide) (by decide) (Nat.le_of_ble_eq_true rfl) (pc' := 16) rfl ?_
  intro T21 _ X22 hQ23
  obtain ⟨z20, rfl, e24, bz20, cz20⟩ := hQ23
  rw [← e24] at V19
  show Ends p e below s Z _ _ _ T21 (mkF m 16 #[.val (.int p0), .val (.int p1), .val (.int p2), .val (.int p3), .val (.int p4), .val (.int p5), .unset, .unset, .unset, .unset, .unset, .unset] [(.int z20), (.int (1 : Int32)), (.ref b3), (.ref b3)])
  refine E_castore X22 1 (y := z20) at_16 (o_nar bz20 cz20) V19 ⟨by decide, by decide⟩ rfl (Nat.le_of_ble_eq_true rfl) g8 (pc' := 17) rfl ?_
  intro T25 X26 K27 V28
  have V29 : Arv Z T25.heap b3 k7 .char (5 : Int32) [(.int z10), (.int z20), (.int (0 : Int32)), (.int (0 : Int32)), (.int (0 : Int32))] (.int (0 : Int32)) := V28
  refine E_dup X26 at_17 rfl (pc' := 18) rfl ?_
  refine E_iconst X26 (v := (2 : Int32)) at_18 rfl (pc' := 19) rfl ?_
  refine E_iloadN X26 at_19 rfl (pc' := 20) rfl ?_
  refine E_static X26 (rm := rm_ch) at_20 (hw _ (List.mem_of_getElem? (i := 1) rfl)) (hw _ (List.mem_of_getElem? (i := 2) rfl)) (hw _ (List.mem_of_getElem? (i := 3) rfl)) (hw _ (List.mem_of_getElem? (i := 4) rfl)) (by decide) (argsL := [(.int p2)]) (st := [(.int (2 : Int32)), (.ref b3), (.ref b3)]) rfl (ct_ch l Z a0 hw G1 G3 OS p2 X26.old) (lenOf (pd_14) rfl) rfl (by decide) (by decide) (by decide) (Nat.le_of_ble_eq_true rfl) (pc' := 23) rfl ?_
  intro T31 _ X32 hQ33
  obtain ⟨z30, rfl, e34, bz30, cz30⟩ := hQ33
  rw [← e34] at V29
  show Ends p e below s Z _ _ _ T31 (mkF m 23 #[.val (.int p0), .val (.int p1), .val (.int p2), .val (.int p3), .val (.int p4), .val (.int p5), .unset, .unset, .unset, .unset, .unset, .unset] [(.int z30), (.int (2 : Int32)), (.ref b3), (.ref b3)])
  refine E_castore X32 2 (y := z30) at_23 (o_nar bz30 cz30) V29 ⟨by decide, by decide⟩ rfl (Nat.le_of_ble_eq_true rfl) g8 (pc' := 24) rfl ?_
  intro T35 X36 K37 V38
  have V39 : Arv Z T35.heap b3 k7 .char (5 : Int32) [(.int z10), (.int z20), (.int z30), (.int (0 : Int32)), (.int (0 : Int32))] (.int (0 : Int32)) := V38
  refine E_dup X36 at_24 rfl (pc' := 25) rfl ?_
  refine E_iconst X36 (v := (3 : Int32)) at_25 rfl (pc' := 26) rfl ?_
  refine E_iloadN X36 at_26 rfl (pc' := 27) rfl ?_
  refine E_static X36 (rm := rm_ch) at_27 (hw _ (List.mem_of_getElem? (i := 1) rfl)) (hw _ (List.mem_of_getElem? (i := 2) rfl)) (hw _ (List.mem_of_getElem? (i := 3) rfl)) (hw _ (List.mem_of_getElem? (i := 4) rfl)) (by decide) (argsL := [(.int p3)]) (st := [(.int (3 : Int32)), (.ref b3), (.ref b3)]) rfl (ct_ch l Z a0 hw G1 G3 OS p3 X36.old) (lenOf (pd_14) rfl) rfl (by decide) (by decide) (by decide) (Nat.le_of_ble_eq_true rfl) (pc' := 30) rfl ?_
  intro T41 _ X42 hQ43
  obtain ⟨z40, rfl, e44, bz40, cz40⟩ := hQ43
  rw [← e44] at V39
  show Ends p e below s Z _ _ _ T41 (mkF m 30 #[.val (.int p0), .val (.int p1), .val (.int p2), .val (.int p3), .val (.int p4), .val (.int p5), .unset, .unset, .unset, .unset, .unset, .unset] [(.int z40), (.int (3 : Int32)), (.ref b3), (.ref b3)])
  refine E_castore X42 3 (y := z40) at_30 (o_nar bz40 cz40) V39 ⟨by decide, by decide⟩ rfl (Nat.le_of_ble_eq_true rfl) g8 (pc' := 31) rfl ?_
  intro T45 X46 K47 V48
  have V49 : Arv Z T45.heap b3 k7 .char (5 : Int32) [(.int z10), (.int z20), (.int z30), (.int z40), (.int (0 : Int32))] (.int (0 : Int32)) := V48
  refine E_dup X46 at_31 rfl (pc' := 32) rfl ?_
  refine E_iconst X46 (v := (4 : Int32)) at_32 rfl (pc' := 33) rfl ?_
  refine E_iload X46 at_33 rfl (pc' := 35) rfl ?_
  refine E_static X46 (rm := rm_ch) at_35 (hw _ (List.mem_of_getElem? (i := 1) rfl)) (hw _ (List.mem_of_getElem? (i := 2) rfl)) (hw _ (List.mem_of_getElem? (i := 3) rfl)) (hw _ (List.mem_of_getElem? (i := 4) rfl)) (by decide) (argsL := [(.int p4)]) (st := [(.int (4 : Int32)), (.ref b3), (.ref b3)]) rfl (ct_ch l Z a0 hw G1 G3 OS p4 X46.old) (lenOf (pd_14) rfl) rfl (by decide) (by decide) (by decide) (Nat.le_of_ble_eq_true rfl) (pc' := 38) rfl ?_
  intro T51 _ X52 hQ53
  obtain ⟨z50, rfl, e54, bz50, cz50⟩ := hQ53
  rw [← e54] at V49
  show Ends p e below s Z _ _ _ T51 (mkF m 38 #[.val (.int p0), .val (.int p1), .val (.int p2), .val (.int p3), .val (.int p4), .val (.int p5), .unset, .unset, .unset, .unset, .unset, .unset] [(.int z50), (.int (4 : Int32)), (.ref b3), (.ref b3)])
  refine E_castore X52 4 (y := z50) at_38 (o_nar bz50 cz50) V49 ⟨by decide, by decide⟩ rfl (Nat.le_of_ble_eq_true rfl) g8 (pc' := 39) rfl ?_
  intro T55 X56 K57 V58
  have V59 : Arv Z T55.heap b3 k7 .char (5 : Int32) [(.int z10), (.int z20), (.int z30), (.int z40), (.int z50)] (.int (0 : Int32)) := V58
  refine E_astore X56 at_39 rfl (l' := #[.val (.int p0), .val (.int p1), .val (.int p2), .val (.int p3), .val (.int p4), .val (.int p5), .val (.ref b3), .unset, .unset, .unset, .unset, .unset]) rfl (pc' := 41) rfl ?_
  refine E_iload X56 at_41 rfl (pc' := 43) rfl ?_
  refine E_ldcI X56 (v := (2147483647 : Int32)) at_43 (hw _ (List.mem_of_getElem? (i := 6) rfl)) (pc' := 45) rfl ?_
  refine E_iand X56 at_45 rfl (pc' := 46) rfl ?_
  refine E_bipush X56 (v := (6 : Int32)) at_46 rfl (pc' := 48) rfl ?_
  refine E_irem X56 (v := (Int32.ofNat oo)) at_48 (by decide) hoo2 (pc' := 49) rfl ?_
  refine E_istore X56 at_49 (l' := #[.val (.int p0), .val (.int p1), .val (.int p2), .val (.int p3), .val (.int p4), .val (.int p5), .val (.ref b3), .val (.int (Int32.ofNat oo)), .unset, .unset, .unset, .unset]) rfl (pc' := 51) rfl ?_
  refine E_new X56 at_51 (hw _ (List.mem_of_getElem? (i := 7) rfl)) (hw _ (List.mem_of_getElem? (i := 8) rfl)) (hw _ (List.mem_of_getElem? (i := 9) rfl)) (by decide) (by decide) (pc' := 54) rfl ?_
  intro T60 b62 X61 hb63 K64 E65 D66
  have ne67 : b3 ≠ b62 := Nat.ne_of_lt (Nat.lt_of_lt_of_eq V59.lt hb63.symm)
  have Arv_68 := V59.keep K64 nin0
  have g69 : Z.heap.size ≤ b62 := Nat.le_trans X56.le (Nat.le_of_eq hb63.symm)
  have F70 : Fld Z T60.heap b62 "java/lang/String" "coder" "B" (.int (0 : Int32)) := D66 (Or.inr (hw _ (List.mem_of_getElem? (i := 33) rfl))) (ty := .byte) (by decide)
  have F71 : Fld Z T60.heap b62 "java/lang/String" "value" "[B" .null := D66 (Or.inr (hw _ (List.mem_of_getElem? (i := 35) rfl))) (ty := (.array .byte)) (by decide)
  refine E_dup X61 at_54 rfl (pc' := 55) rfl ?_
  refine E_aload X61 at_55 rfl rfl (pc' := 57) rfl ?_
  refine E_special X61 (rm := rm_sinit) (a := b62) at_57 rfl rfl (hw _ (List.mem_of_getElem? (i := 10) rfl)) (hw _ (List.mem_of_getElem? (i := 11) rfl)) (hw _ (List.mem_of_getElem? (i := 12) rfl)) (by decide) (hw _ (List.mem_of_getElem? (i := 9) rfl)) (argsL := [(.ref b3)]) (st := [(.ref b62)]) rfl (ct_sinit l Z a0 hw G1 G3 OS b62 b3 k7 [z10, z20, z30, z40, z50] (.int (0 : Int32)) .null (.int (0 : Int32)) X61.old (Nat.le_of_ble_eq_true rfl) (Nat.le_of_ble_eq_true rfl) (allC ⟨bz10, cz10⟩ (allC ⟨bz20, cz20⟩ (allC ⟨bz30, cz30⟩ (allC ⟨bz40, cz40⟩ (allC ⟨bz50, cz50⟩ allN))))) E65 F71 F70 g69 Arv_68) (lenOf (pd_15) rfl) rfl (by decide) (by decide) (by decide) (Nat.le_of_ble_eq_true rfl) (pc' := 60) rfl ?_
  intro T72 _ X73 hQ74
  obtain ⟨rfl, K75, t76, sz77, S78⟩ := hQ74
  have ne79 : b3 ≠ t76 := Nat.ne_of_lt (Nat.lt_of_lt_of_le Arv_68.lt sz77)
  have ne80 : b62 ≠ t76 := Nat.ne_of_lt (Nat.lt_of_lt_of_le E65.lt sz77)
  have Arv_81 := Arv_68.keep K75 (ninS ne67 nin0)
  show Ends p e below s Z _ _ _ T72 (mkF m 60 #[.val (.int p0), .val (.int p1), .val (.int p2), .val (.int p3), .val (.int p4), .val (.int p5), .val (.ref b3), .val (.int (Int32.ofNat oo)), .unset, .unset, .unset, .unset] [(.ref b62)])
  refine E_astore X73 at_60 rfl (l' := #[.val (.int p0), .val (.int p1), .val (.int p2), .val (.int p3), .val (.int p4), .val (.int p5), .val (.ref b3), .val (.int (Int32.ofNat oo)), .val (.ref b62), .unset, .unset, .unset]) rfl (pc' := 62) rfl ?_
  refine E_aload X73 at_62 rfl rfl (pc' := 64) rfl ?_
  refine E_iload X73 at_64 rfl (pc' := 66) rfl ?_
  refine E_static X73 (rm := rm_position) at_66 (hw _ (List.mem_of_getElem? (i := 36) rfl)) (hw _ (List.mem_of_getElem? (i := 37) rfl)) (hw _ (List.mem_of_getElem? (i := 38) rfl)) (hw _ (List.mem_of_getElem? (i := 39) rfl)) (by decide) (argsL := [(.ref b62), (.int (Int32.ofNat oo))]) (st := []) rfl (ct_position l Z a0 hw G1 G3 OS b62 t76 [z10, z20, z30, z40, z50] oo X73.old S78 (by show oo ≤ 5; exact hoo)) (lenOf (pd_16) rfl) rfl (by decide) (by decide) (by decide) (Nat.le_of_ble_eq_true rfl) (pc' := 69) rfl ?_
  intro T82 _ X83 hQ84
  obtain ⟨pa, rfl, K85, szp, EP, FL, FC⟩ := hQ84
  have Arv_86 := Arv_81.keep K85 nin0
  have Str_87 := OStr.keep S78 K85 nin0 nin0
  show Ends p e below s Z _ _ _ T82 (mkF m 69 #[.val (.int p0), .val (.int p1), .val (.int p2), .val (.int p3), .val (.int p4), .val (.int p5), .val (.ref b3), .val (.int (Int32.ofNat oo)), .val (.ref b62), .unset, .unset, .unset] [(.ref pa)])
  refine E_astore X83 at_69 rfl (l' := #[.val (.int p0), .val (.int p1), .val (.int p2), .val (.int p3), .val (.int p4), .val (.int p5), .val (.ref b3), .val (.int (Int32.ofNat oo)), .val (.ref b62), .val (.ref pa), .unset, .unset]) rfl (pc' := 71) rfl ?_
  refine E_iconst X83 (v := (1 : Int32)) at_71 rfl (pc' := 72) rfl ?_
  refine E_aload X83 at_72 rfl rfl (pc' := 74) rfl ?_
  refine E_iconst X83 (v := (0 : Int32)) at_74 rfl (pc' := 75) rfl ?_
  refine E_iload X83 at_75 rfl (pc' := 77) rfl ?_
  refine E_static X83 (rm := rm_nl) at_77 (hw _ (List.mem_of_getElem? (i := 78) rfl)) (hw _ (List.mem_of_getElem? (i := 79) rfl)) (hw _ (List.mem_of_getElem? (i := 3) rfl)) (hw _ (List.mem_of_getElem? (i := 80) rfl)) (by decide) (argsL := [(.ref b3), (.int (0 : Int32)), (.int (Int32.ofNat oo))]) (st := [(.int (1 : Int32))]) rfl (ct_nl l Z a0 hw G1 G3 OS b3 k7 0 oo z10 [(.int z10), (.int z20), (.int z30), (.int z40), (.int z50)] (.int (0 : Int32)) X83.old Arv_86 (by decide) hoo rfl) (lenOf (pd_17) rfl) rfl (by decide) (by decide) (by decide) (Nat.le_of_ble_eq_true rfl) (pc' := 80) rfl ?_
  intro T88 _ X89 hQ90
  obtain ⟨rfl, e91⟩ := hQ90
  rw [← e91] at Arv_86 Str_87 EP FL FC
  show Ends p e below s Z _ _ _ T88 (mkF m 80 #[.val (.int p0), .val (.int p1), .val (.int p2), .val (.int p3), .val (.int p4), .val (.int p5), .val (.ref b3), .val (.int (Int32.ofNat oo)), .val (.ref b62), .val (.ref pa), .unset, .unset] [(.int (nlF z10 0 oo)), (.int (1 : Int32))])
  refine E_iadd X89 at_80 rfl (pc' := 81) rfl ?_
  refine E_aload X89 at_81 rfl rfl (pc' := 83) rfl ?_
  refine E_iconst X89 (v := (1 : Int32)) at_83 rfl (pc' := 84) rfl ?_
  refine E_iload X89 at_84 rfl (pc' := 86) rfl ?_
  refine E_static X89 (rm := rm_nl) at_86 (hw _ (List.mem_of_getElem? (i := 78) rfl)) (hw _ (List.mem_of_getElem? (i := 79) rfl)) (hw _ (List.mem_of_getElem? (i := 3) rfl)) (hw _ (List.mem_of_getElem? (i := 80) rfl)) (by decide) (argsL := [(.ref b3), (.int (1 : Int32)), (.int (Int32.ofNat oo))]) (st := [(.int ((1 : Int32) + (nlF z10 0 oo)))]) rfl (ct_nl l Z a0 hw G1 G3 OS b3 k7 1 oo z20 [(.int z10), (.int z20), (.int z30), (.int z40), (.int z50)] (.int (0 : Int32)) X89.old Arv_86 (by decide) hoo rfl) (lenOf (pd_17) rfl) rfl (by decide) (by decide) (by decide) (Nat.le_of_ble_eq_true rfl) (pc' := 89) rfl ?_
  intro T92 _ X93 hQ94
  obtain ⟨rfl, e95⟩ := hQ94
  rw [← e95] at Arv_86 Str_87 EP FL FC
  show Ends p e below s Z _ _ _ T92 (mkF m 89 #[.val (.int p0), .val (.int p1), .val (.int p2), .val (.int p3), .val (.int p4), .val (.int p5), .val (.ref b3), .val (.int (Int32.ofNat oo)), .val (.ref b62), .val (.ref pa), .unset, .unset] [(.int (nlF z20 1 oo)), (.int ((1 : Int32) + (nlF z10 0 oo)))])
  refine E_iadd X93 at_89 rfl (pc' := 90) rfl ?_
  refine E_aload X93 at_90 rfl rfl (pc' := 92) rfl ?_
  refine E_iconst X93 (v := (2 : Int32)) at_92 rfl (pc' := 93) rfl ?_
  refine E_iload X93 at_93 rfl (pc' := 95) rfl ?_
  refine E_static X93 (rm := rm_nl) at_95 (hw _ (List.mem_of_getElem? (i := 78) rfl)) (hw _ (List.mem_of_getElem? (i := 79) rfl)) (hw _ (List.mem_of_getElem? (i := 3) rfl)) (hw _ (List.mem_of_getElem? (i := 80) rfl)) (by decide) (argsL := [(.ref b3), (.int (2 : Int32)), (.int (Int32.ofNat oo))]) (st := [(.int (((1 : Int32) + (nlF z10 0 oo)) + (nlF z20 1 oo)))]) rfl (ct_nl l Z a0 hw G1 G3 OS b3 k7 2 oo z30 [(.int z10), (.int z20), (.int z30), (.int z40), (.int z50)] (.int (0 : Int32)) X93.old Arv_86 (by decide) hoo rfl) (lenOf (pd_17) rfl) rfl (by decide) (by decide) (by decide) (Nat.le_of_ble_eq_true rfl) (pc' := 98) rfl ?_
  intro T96 _ X97 hQ98
  obtain ⟨rfl, e99⟩ := hQ98
  rw [← e99] at Arv_86 Str_87 EP FL FC
  show Ends p e below s Z _ _ _ T96 (mkF m 98 #[.val (.int p0), .val (.int p1), .val (.int p2), .val (.int p3), .val (.int p4), .val (.int p5), .val (.ref b3), .val (.int (Int32.ofNat oo)), .val (.ref b62), .val (.ref pa), .unset, .unset] [(.int (nlF z30 2 oo)), (.int (((1 : Int32) + (nlF z10 0 oo)) + (nlF z20 1 oo)))])
  refine E_iadd X97 at_98 rfl (pc' := 99) rfl ?_
  refine E_aload X97 at_99 rfl rfl (pc' := 101) rfl ?_
  refine E_iconst X97 (v := (3 : Int32)) at_101 rfl (pc' := 102) rfl ?_
  refine E_iload X97 at_102 rfl (pc' := 104) rfl ?_
  refine E_static X97 (rm := rm_nl) at_104 (hw _ (List.mem_of_getElem? (i := 78) rfl)) (hw _ (List.mem_of_getElem? (i := 79) rfl)) (hw _ (List.mem_of_getElem? (i := 3) rfl)) (hw _ (List.mem_of_getElem? (i := 80) rfl)) (by decide) (argsL := [(.ref b3), (.int (3 : Int32)), (.int (Int32.ofNat oo))]) (st := [(.int ((((1 : Int32) + (nlF z10 0 oo)) + (nlF z20 1 oo)) + (nlF z30 2 oo)))]) rfl (ct_nl l Z a0 hw G1 G3 OS b3 k7 3 oo z40 [(.int z10), (.int z20), (.int z30), (.int z40), (.int z50)] (.int (0 : Int32)) X97.old Arv_86 (by decide) hoo rfl) (lenOf (pd_17) rfl) rfl (by decide) (by decide) (by decide) (Nat.le_of_ble_eq_true rfl) (pc' := 107) rfl ?_
  intro T100 _ X101 hQ102
  obtain ⟨rfl, e103⟩ := hQ102
  rw [← e103] at Arv_86 Str_87 EP FL FC
  show Ends p e below s Z _ _ _ T100 (mkF m 107 #[.val (.int p0), .val (.int p1), .val (.int p2), .val (.int p3), .val (.int p4), .val (.int p5), .val (.ref b3), .val (.int (Int32.ofNat oo)), .val (.ref b62), .val (.ref pa), .unset, .unset] [(.int (nlF z40 3 oo)), (.int ((((1 : Int32) + (nlF z10 0 oo)) + (nlF z20 1 oo)) + (nlF z30 2 oo)))])
  refine E_iadd X101 at_107 rfl (pc' := 108) rfl ?_
  refine E_aload X101 at_108 rfl rfl (pc' := 110) rfl ?_
  refine E_iconst X101 (v := (4 : Int32)) at_110 rfl (pc' := 111) rfl ?_
  refine E_iload X101 at_111 rfl (pc' := 113) rfl ?_
  refine E_static X101 (rm := rm_nl) at_113 (hw _ (List.mem_of_getElem? (i := 78) rfl)) (hw _ (List.mem_of_getElem? (i := 79) rfl)) (hw _ (List.mem_of_getElem? (i := 3) rfl)) (hw _ (List.mem_of_getElem? (i := 80) rfl)) (by decide) (argsL := [(.ref b3), (.int (4 : Int32)), (.int (Int32.ofNat oo))]) (st := [(.int (((((1 : Int32) + (nlF z10 0 oo)) + (nlF z20 1 oo)) + (nlF z30 2 oo)) + (nlF z40 3 oo)))]) rfl (ct_nl l Z a0 hw G1 G3 OS b3 k7 4 oo z50 [(.int z10), (.int z20), (.int z30), (.int z40), (.int z50)] (.int (0 : Int32)) X101.old Arv_86 (by decide) hoo rfl) (lenOf (pd_17) rfl) rfl (by decide) (by decide) (by decide) (Nat.le_of_ble_eq_true rfl) (pc' := 116) rfl ?_
  intro T104 _ X105 hQ106
  obtain ⟨rfl, e107⟩ := hQ106
  rw [← e107] at Arv_86 Str_87 EP FL FC
  show Ends p e below s Z _ _ _ T104 (mkF m 116 #[.val (.int p0), .val (.int p1), .val (.int p2), .val (.int p3), .val (.int p4), .val (.int p5), .val (.ref b3), .val (.int (Int32.ofNat oo)), .val (.ref b62), .val (.ref pa), .unset, .unset] [(.int (nlF z50 4 oo)), (.int (((((1 : Int32) + (nlF z10 0 oo)) + (nlF z20 1 oo)) + (nlF z30 2 oo)) + (nlF z40 3 oo)))])
  refine E_iadd X105 at_116 rfl (pc' := 117) rfl ?_
  refine E_istore X105 at_117 (l' := #[.val (.int p0), .val (.int p1), .val (.int p2), .val (.int p3), .val (.int p4), .val (.int p5), .val (.ref b3), .val (.int (Int32.ofNat oo)), .val (.ref b62), .val (.ref pa), .val (.int ((((((1 : Int32) + (nlF z10 0 oo)) + (nlF z20 1 oo)) + (nlF z30 2 oo)) + (nlF z40 3 oo)) + (nlF z50 4 oo))), .unset]) rfl (pc' := 119) rfl ?_
  refine E_iconst X105 (v := (-1 : Int32)) at_119 rfl (pc' := 120) rfl ?_
  refine E_istore X105 at_120 (l' := #[.val (.int p0), .val (.int p1), .val (.int p2), .val (.int p3), .val (.int p4), .val (.int p5), .val (.ref b3), .val (.int (Int32.ofNat oo)), .val (.ref b62), .val (.ref pa), .val (.int ((((((1 : Int32) + (nlF z10 0 oo)) + (nlF z20 1 oo)) + (nlF z30 2 oo)) + (nlF z40 3 oo)) + (nlF z50 4 oo))), .val (.int (-1 : Int32))]) rfl (pc' := 122) rfl ?_
  refine E_aload X105 at_122 rfl rfl (pc' := 124) rfl ?_
  refine E_iconst X105 (v := (4 : Int32)) at_124 rfl (pc' := 125) rfl ?_
  refine E_iload X105 at_125 rfl (pc' := 127) rfl ?_
  refine E_static X105 (rm := rm_nl) at_127 (hw _ (List.mem_of_getElem? (i := 78) rfl)) (hw _ (List.mem_of_getElem? (i := 79) rfl)) (hw _ (List.mem_of_getElem? (i := 3) rfl)) (hw _ (List.mem_of_getElem? (i := 80) rfl)) (by decide) (argsL := [(.ref b3), (.int (4 : Int32)), (.int (Int32.ofNat oo))]) (st := []) rfl (ct_nl l Z a0 hw G1 G3 OS b3 k7 4 oo z50 [(.int z10), (.int z20), (.int z30), (.int z40), (.int z50)] (.int (0 : Int32)) X105.old Arv_86 (by decide) hoo rfl) (lenOf (pd_17) rfl) rfl (by decide) (by decide) (by decide) (Nat.le_of_ble_eq_true rfl) (pc' := 130) rfl ?_
  intro T108 _ X109 hQ110
  obtain ⟨rfl, e111⟩ := hQ110
  rw [← e111] at Arv_86 Str_87 EP FL FC
  show Ends p e below s Z _ _ _ T108 (mkF m 130 #[.val (.int p0), .val (.int p1), .val (.int p2), .val (.int p3), .val (.int p4), .val (.int p5), .val (.ref b3), .val (.int (Int32.ofNat oo)), .val (.ref b62), .val (.ref pa), .val (.int ((((((1 : Int32) + (nlF z10 0 oo)) + (nlF z20 1 oo)) + (nlF z30 2 oo)) + (nlF z40 3 oo)) + (nlF z50 4 oo))), .val (.int (-1 : Int32))] [(.int (nlF z50 4 oo))])
  refine E_iconst X109 (v := (1 : Int32)) at_130 rfl (pc' := 131) rfl ?_
  by_cases hn4 : (nlF z50 4 oo) = (1 : Int32)
  · skip
    refine E_icF X109 at_131 (XT.ii_ne_f hn4) (pc' := 134) rfl ?_
    refine E_iconst X109 (v := (4 : Int32)) at_134 rfl (pc' := 135) rfl ?_
    refine E_istore X109 at_135 (l' := #[.val (.int p0), .val (.int p1), .val (.int p2), .val (.int p3), .val (.int p4), .val (.int p5), .val (.ref b3), .val (.int (Int32.ofNat oo)), .val (.ref b62), .val (.ref pa), .val (.int ((((((1 : Int32) + (nlF z10 0 oo)) + (nlF z20 1 oo)) + (nlF z30 2 oo)) + (nlF z40 3 oo)) + (nlF z50 4 oo))), .val (.int (4 : Int32))]) rfl (pc' := 137) rfl ?_
    refine E_goto X109 at_137 (pc' := 209) (by decide) rfl ?_
    refine E_aload X109 at_209 rfl rfl (pc' := 211) rfl ?_
    refine E_virtual X109 (rm := rm_line) (a := pa) (D := "com/example/semblance/semblance/QueryTokens$Position") at_211 (hw _ (List.mem_of_getElem? (i := 81) rfl)) (hw _ (List.mem_of_getElem? (i := 82) rfl)) (hw _ (List.mem_of_getElem? (i := 84) rfl)) (hw _ (List.mem_of_getElem? (i := 83) rfl)) (notFace_of_selects (args := #[]) (mvT X109.hZ (hw _ (List.mem_of_getElem? (i := 84) rfl)))) (by decide) EP (hw _ (List.mem_of_getElem? (i := 64) rfl)) (hw _ (List.mem_of_getElem? (i := 85) rfl)) (argsL := []) (st := []) rfl (ct_line l Z a0 hw G1 G3 OS pa (lnF [z10, z20, z30, z40, z50] oo) X109.old FL) (lenOf (pd_18) rfl) rfl (by decide) (by decide) (by decide) (Nat.le_of_ble_eq_true rfl) (pc' := 214) rfl ?_
    intro T112 _ X113 hQ114
    obtain ⟨rfl, e115⟩ := hQ114
    rw [← e115] at Arv_86 Str_87 EP FL FC
    show Ends p e below s Z _ _ _ T112 (mkF m 214 #[.val (.int p0), .val (.int p1), .val (.int p2), .val (.int p3), .val (.int p4), .val (.int p5), .val (.ref b3), .val (.int (Int32.ofNat oo)), .val (.ref b62), .val (.ref pa), .val (.int ((((((1 : Int32) + (nlF z10 0 oo)) + (nlF z20 1 oo)) + (nlF z30 2 oo)) + (nlF z40 3 oo)) + (nlF z50 4 oo))), .val (.int (4 : Int32))] [(.int (lnF [z10, z20, z30, z40, z50] oo))])
    refine E_iload X113 at_214 rfl (pc' := 216) rfl ?_
    refine E_icF X113 at_216 (XT.ii_ne_f (law_line z10 z20 z30 z40 z50 oo hoo)) (pc' := 219) rfl ?_
    refine E_aload X113 at_219 rfl rfl (pc' := 221) rfl ?_
    refine E_virtual X113 (rm := rm_column) (a := pa) (D := "com/example/semblance/semblance/QueryTokens$Position") at_221 (hw _ (List.mem_of_getElem? (i := 86) rfl)) (hw _ (List.mem_of_getElem? (i := 87) rfl)) (hw _ (List.mem_of_getElem? (i := 89) rfl)) (hw _ (List.mem_of_getElem? (i := 88) rfl)) (notFace_of_selects (args := #[]) (mvT X113.hZ (hw _ (List.mem_of_getElem? (i := 89) rfl)))) (by decide) EP (hw _ (List.mem_of_getElem? (i := 64) rfl)) (hw _ (List.mem_of_getElem? (i := 90) rfl)) (argsL := []) (st := []) rfl (ct_column l Z a0 hw G1 G3 OS pa (Int32.ofNat oo - lsF [z10, z20, z30, z40, z50] oo + (1 : Int32)) X113.old FC) (lenOf (pd_18) rfl) rfl (by decide) (by decide) (by decide) (Nat.le_of_ble_eq_true rfl) (pc' := 224) rfl ?_
    intro T116 _ X117 hQ118
    obtain ⟨rfl, e119⟩ := hQ118
    rw [← e119] at Arv_86 Str_87 EP FL FC
    show Ends p e below s Z _ _ _ T116 (mkF m 224 #[.val (.int p0), .val (.int p1), .val (.int p2), .val (.int p3), .val (.int p4), .val (.int p5), .val (.ref b3), .val (.int (Int32.ofNat oo)), .val (.ref b62), .val (.ref pa), .val (.int ((((((1 : Int32) + (nlF z10 0 oo)) + (nlF z20 1 oo)) + (nlF z30 2 oo)) + (nlF z40 3 oo)) + (nlF z50 4 oo))), .val (.int (4 : Int32))] [(.int (Int32.ofNat oo - lsF [z10, z20, z30, z40, z50] oo + (1 : Int32)))])
    refine E_iload X117 at_224 rfl (pc' := 226) rfl ?_
    refine E_iload X117 at_226 rfl (pc' := 228) rfl ?_
    refine E_isub X117 at_228 rfl (pc' := 229) rfl ?_
    refine E_icF X117 at_229 (XT.ii_ne_f (by rw [(law_start z10 z20 z30 z40 z50 oo hoo).1 hn4]; exact own_sub _ _)) (pc' := 232) rfl ?_
    refine E_iconst X117 (v := (1 : Int32)) at_232 rfl (pc' := 233) rfl ?_
    refine E_goto X117 at_233 (pc' := 237) (by decide) rfl ?_
    exact E_ireturnN X117 (t := .boolean) at_237 rfl (by simp) (by decide) (by decide) (rfl)
  · skip
    refine E_icT X109 at_131 (XT.ii_ne_t hn4) (pc' := 140) (by decide) rfl ?_
    refine E_aload X109 at_140 rfl rfl (pc' := 142) rfl ?_
    refine E_iconst X109 (v := (3 : Int32)) at_142 rfl (pc' := 143) rfl ?_
    refine E_iload X109 at_143 rfl (pc' := 145) rfl ?_
    refine E_static X109 (rm := rm_nl) at_145 (hw _ (List.mem_of_getElem? (i := 78) rfl)) (hw _ (List.mem_of_getElem? (i := 79) rfl)) (hw _ (List.mem_of_getElem? (i := 3) rfl)) (hw _ (List.mem_of_getElem? (i := 80) rfl)) (by decide) (argsL := [(.ref b3), (.int (3 : Int32)), (.int (Int32.ofNat oo))]) (st := []) rfl (ct_nl l Z a0 hw G1 G3 OS b3 k7 3 oo z40 [(.int z10), (.int z20), (.int z30), (.int z40), (.int z50)] (.int (0 : Int32)) X109.old Arv_86 (by decide) hoo rfl) (lenOf (pd_17) rfl) rfl (by decide) (by decide) (by decide) (Nat.le_of_ble_eq_true rfl) (pc' := 148) rfl ?_
    intro T120 _ X121 hQ122
    obtain ⟨rfl, e123⟩ := hQ122
    rw [← e123] at Arv_86 Str_87 EP FL FC
    show Ends p e below s Z _ _ _ T120 (mkF m 148 #[.val (.int p0), .val (.int p1), .val (.int p2), .val (.int p3), .val (.int p4), .val (.int p5), .val (.ref b3), .val (.int (Int32.ofNat oo)), .val (.ref b62), .val (.ref pa), .val (.int ((((((1 : Int32) + (nlF z10 0 oo)) + (nlF z20 1 oo)) + (nlF z30 2 oo)) + (nlF z40 3 oo)) + (nlF z50 4 oo))), .val (.int (-1 : Int32))] [(.int (nlF z40 3 oo))])
    refine E_iconst X121 (v := (1 : Int32)) at_148 rfl (pc' := 149) rfl ?_
    by_cases hn3 : (nlF z40 3 oo) = (1 : Int32)
    · skip
      refine E_icF X121 at_149 (XT.ii_ne_f hn3) (pc' := 152) rfl ?_
      refine E_iconst X121 (v := (3 : Int32)) at_152 rfl (pc' := 153) rfl ?_
      refine E_istore X121 at_153 (l' := #[.val (.int p0), .val (.int p1), .val (.int p2), .val (.int p3), .val (.int p4), .val (.int p5), .val (.ref b3), .val (.int (Int32.ofNat oo)), .val (.ref b62), .val (.ref pa), .val (.int ((((((1 : Int32) + (nlF z10 0 oo)) + (nlF z20 1 oo)) + (nlF z30 2 oo)) + (nlF z40 3 oo)) + (nlF z50 4 oo))), .val (.int (3 : Int32))]) rfl (pc' := 155) rfl ?_
      refine E_goto X121 at_155 (pc' := 209) (by decide) rfl ?_
      refine E_aload X121 at_209 rfl rfl (pc' := 211) rfl ?_
      refine E_virtual X121 (rm := rm_line) (a := pa) (D := "com/example/semblance/semblance/QueryTokens$Position") at_211 (hw _ (List.mem_of_getElem? (i := 81) rfl)) (hw _ (List.mem_of_getElem? (i := 82) rfl)) (hw _ (List.mem_of_getElem? (i := 84) rfl)) (hw _ (List.mem_of_getElem? (i := 83) rfl)) (notFace_of_selects (args := #[]) (mvT X121.hZ (hw _ (List.mem_of_getElem? (i := 84) rfl)))) (by decide) EP (hw _ (List.mem_of_getElem? (i := 64) rfl)) (hw _ (List.mem_of_getElem? (i := 85) rfl)) (argsL := []) (st := []) rfl (ct_line l Z a0 hw G1 G3 OS pa (lnF [z10, z20, z30, z40, z50] oo) X121.old FL) (lenOf (pd_18) rfl) rfl (by decide) (by decide) (by decide) (Nat.le_of_ble_eq_true rfl) (pc' := 214) rfl ?_
      intro T124 _ X125 hQ126
      obtain ⟨rfl, e127⟩ := hQ126
      rw [← e127] at Arv_86 Str_87 EP FL FC
      show Ends p e below s Z _ _ _ T124 (mkF m 214 #[.val (.int p0), .val (.int p1), .val (.int p2), .val (.int p3), .val (.int p4), .val (.int p5), .val (.ref b3), .val (.int (Int32.ofNat oo)), .val (.ref b62), .val (.ref pa), .val (.int ((((((1 : Int32) + (nlF z10 0 oo)) + (nlF z20 1 oo)) + (nlF z30 2 oo)) + (nlF z40 3 oo)) + (nlF z50 4 oo))), .val (.int (3 : Int32))] [(.int (lnF [z10, z20, z30, z40, z50] oo))])
      refine E_iload X125 at_214 rfl (pc' := 216) rfl ?_
      refine E_icF X125 at_216 (XT.ii_ne_f (law_line z10 z20 z30 z40 z50 oo hoo)) (pc' := 219) rfl ?_
      refine E_aload X125 at_219 rfl rfl (pc' := 221) rfl ?_
      refine E_virtual X125 (rm := rm_column) (a := pa) (D := "com/example/semblance/semblance/QueryTokens$Position") at_221 (hw _ (List.mem_of_getElem? (i := 86) rfl)) (hw _ (List.mem_of_getElem? (i := 87) rfl)) (hw _ (List.mem_of_getElem? (i := 89) rfl)) (hw _ (List.mem_of_getElem? (i := 88) rfl)) (notFace_of_selects (args := #[]) (mvT X125.hZ (hw _ (List.mem_of_getElem? (i := 89) rfl)))) (by decide) EP (hw _ (List.mem_of_getElem? (i := 64) rfl)) (hw _ (List.mem_of_getElem? (i := 90) rfl)) (argsL := []) (st := []) rfl (ct_column l Z a0 hw G1 G3 OS pa (Int32.ofNat oo - lsF [z10, z20, z30, z40, z50] oo + (1 : Int32)) X125.old FC) (lenOf (pd_18) rfl) rfl (by decide) (by decide) (by decide) (Nat.le_of_ble_eq_true rfl) (pc' := 224) rfl ?_
      intro T128 _ X129 hQ130
      obtain ⟨rfl, e131⟩ := hQ130
      rw [← e131] at Arv_86 Str_87 EP FL FC
      show Ends p e below s Z _ _ _ T128 (mkF m 224 #[.val (.int p0), .val (.int p1), .val (.int p2), .val (.int p3), .val (.int p4), .val (.int p5), .val (.ref b3), .val (.int (Int32.ofNat oo)), .val (.ref b62), .val (.ref pa), .val (.int ((((((1 : Int32) + (nlF z10 0 oo)) + (nlF z20 1 oo)) + (nlF z30 2 oo)) + (nlF z40 3 oo)) + (nlF z50 4 oo))), .val (.int (3 : Int32))] [(.int (Int32.ofNat oo - lsF [z10, z20, z30, z40, z50] oo + (1 : Int32)))])
      refine E_iload X129 at_224 rfl (pc' := 226) rfl ?_
      refine E_iload X129 at_226 rfl (pc' := 228) rfl ?_
      refine E_isub X129 at_228 rfl (pc' := 229) rfl ?_
      refine E_icF X129 at_229 (XT.ii_ne_f (by rw [(law_start z10 z20 z30 z40 z50 oo hoo).2.1 hn4 hn3]; exact own_sub _ _)) (pc' := 232) rfl ?_
      refine E_iconst X129 (v := (1 : Int32)) at_232 rfl (pc' := 233) rfl ?_
      refine E_goto X129 at_233 (pc' := 237) (by decide) rfl ?_
      exact E_ireturnN X129 (t := .boolean) at_237 rfl (by simp) (by decide) (by decide) (rfl)
    · skip
      refine E_icT X121 at_149 (XT.ii_ne_t hn3) (pc' := 158) (by decide) rfl ?_
      refine E_aload X121 at_158 rfl rfl (pc' := 160) rfl ?_
      refine E_iconst X121 (v := (2 : Int32)) at_160 rfl (pc' := 161) rfl ?_
      refine E_iload X121 at_161 rfl (pc' := 163) rfl ?_
      refine E_static X121 (rm := rm_nl) at_163 (hw _ (List.mem_of_getElem? (i := 78) rfl)) (hw _ (List.mem_of_getElem? (i := 79) rfl)) (hw _ (List.mem_of_getElem? (i := 3) rfl)) (hw _ (List.mem_of_getElem? (i := 80) rfl)) (by decide) (argsL := [(.ref b3), (.int (2 : Int32)), (.int (Int32.ofNat oo))]) (st := []) rfl (ct_nl l Z a0 hw G1 G3 OS b3 k7 2 oo z30 [(.int z10), (.int z20), (.int z30), (.int z40), (.int z50)] (.int (0 : Int32)) X121.old Arv_86 (by decide) hoo rfl) (lenOf (pd_17) rfl) rfl (by decide) (by decide) (by decide) (Nat.le_of_ble_eq_true rfl) (pc' := 166) rfl ?_
      intro T132 _ X133 hQ134
      obtain ⟨rfl, e135⟩ := hQ134
      rw [← e135] at Arv_86 Str_87 EP FL FC
      show Ends p e below s Z _ _ _ T132 (mkF m 166 #[.val (.int p0), .val (.int p1), .val (.int p2), .val (.int p3), .val (.int p4), .val (.int p5), .val (.ref b3), .val (.int (Int32.ofNat oo)), .val (.ref b62), .val (.ref pa), .val (.int ((((((1 : Int32) + (nlF z10 0 oo)) + (nlF z20 1 oo)) + (nlF z30 2 oo)) + (nlF z40 3 oo)) + (nlF z50 4 oo))), .val (.int (-1 : Int32))] [(.int (nlF z30 2 oo))])
      refine E_iconst X133 (v := (1 : Int32)) at_166 rfl (pc' := 167) rfl ?_
      by_cases hn2 : (nlF z30 2 oo) = (1 : Int32)
      · skip
        refine E_icF X133 at_167 (XT.ii_ne_f hn2) (pc' := 170) rfl ?_
        refine E_iconst X133 (v := (2 : Int32)) at_170 rfl (pc' := 171) rfl ?_
        refine E_istore X133 at_171 (l' := #[.val (.int p0), .val (.int p1), .val (.int p2), .val (.int p3), .val (.int p4), .val (.int p5), .val (.ref b3), .val (.int (Int32.ofNat oo)), .val (.ref b62), .val (.ref pa), .val (.int ((((((1 : Int32) + (nlF z10 0 oo)) + (nlF z20 1 oo)) + (nlF z30 2 oo)) + (nlF z40 3 oo)) + (nlF z50 4 oo))), .val (.int (2 : Int32))]) rfl (pc' := 173) rfl ?_
        refine E_goto X133 at_173 (pc' := 209) (by decide) rfl ?_
        refine E_aload X133 at_209 rfl rfl (pc' := 211) rfl ?_
        refine E_virtual X133 (rm := rm_line) (a := pa) (D := "com/example/semblance/semblance/QueryTokens$Position") at_211 (hw _ (List.mem_of_getElem? (i := 81) rfl)) (hw _ (List.mem_of_getElem? (i := 82) rfl)) (hw _ (List.mem_of_getElem? (i := 84) rfl)) (hw _ (List.mem_of_getElem? (i := 83) rfl)) (notFace_of_selects (args := #[]) (mvT X133.hZ (hw _ (List.mem_of_getElem? (i := 84) rfl)))) (by decide) EP (hw _ (List.mem_of_getElem? (i := 64) rfl)) (hw _ (List.mem_of_getElem? (i := 85) rfl)) (argsL := []) (st := []) rfl (ct_line l Z a0 hw G1 G3 OS pa (lnF [z10, z20, z30, z40, z50] oo) X133.old FL) (lenOf (pd_18) rfl) rfl (by decide) (by decide) (by decide) (Nat.le_of_ble_eq_true rfl) (pc' := 214) rfl ?_
        intro T136 _ X137 hQ138
        obtain ⟨rfl, e139⟩ := hQ138
        rw [← e139] at Arv_86 Str_87 EP FL FC
        show Ends p e below s Z _ _ _ T136 (mkF m 214 #[.val (.int p0), .val (.int p1), .val (.int p2), .val (.int p3), .val (.int p4), .val (.int p5), .val (.ref b3), .val (.int (Int32.ofNat oo)), .val (.ref b62), .val (.ref pa), .val (.int ((((((1 : Int32) + (nlF z10 0 oo)) + (nlF z20 1 oo)) + (nlF z30 2 oo)) + (nlF z40 3 oo)) + (nlF z50 4 oo))), .val (.int (2 : Int32))] [(.int (lnF [z10, z20, z30, z40, z50] oo))])
        refine E_iload X137 at_214 rfl (pc' := 216) rfl ?_
        refine E_icF X137 at_216 (XT.ii_ne_f (law_line z10 z20 z30 z40 z50 oo hoo)) (pc' := 219) rfl ?_
        refine E_aload X137 at_219 rfl rfl (pc' := 221) rfl ?_
        refine E_virtual X137 (rm := rm_column) (a := pa) (D := "com/example/semblance/semblance/QueryTokens$Position") at_221 (hw _ (List.mem_of_getElem? (i := 86) rfl)) (hw _ (List.mem_of_getElem? (i := 87) rfl)) (hw _ (List.mem_of_getElem? (i := 89) rfl)) (hw _ (List.mem_of_getElem? (i := 88) rfl)) (notFace_of_selects (args := #[]) (mvT X137.hZ (hw _ (List.mem_of_getElem? (i := 89) rfl)))) (by decide) EP (hw _ (List.mem_of_getElem? (i := 64) rfl)) (hw _ (List.mem_of_getElem? (i := 90) rfl)) (argsL := []) (st := []) rfl (ct_column l Z a0 hw G1 G3 OS pa (Int32.ofNat oo - lsF [z10, z20, z30, z40, z50] oo + (1 : Int32)) X137.old FC) (lenOf (pd_18) rfl) rfl (by decide) (by decide) (by decide) (Nat.le_of_ble_eq_true rfl) (pc' := 224) rfl ?_
        intro T140 _ X141 hQ142
        obtain ⟨rfl, e143⟩ := hQ142
        rw [← e143] at Arv_86 Str_87 EP FL FC
        show Ends p e below s Z _ _ _ T140 (mkF m 224 #[.val (.int p0), .val (.int p1), .val (.int p2), .val (.int p3), .val (.int p4), .val (.int p5), .val (.ref b3), .val (.int (Int32.ofNat oo)), .val (.ref b62), .val (.ref pa), .val (.int ((((((1 : Int32) + (nlF z10 0 oo)) + (nlF z20 1 oo)) + (nlF z30 2 oo)) + (nlF z40 3 oo)) + (nlF z50 4 oo))), .val (.int (2 : Int32))] [(.int (Int32.ofNat oo - lsF [z10, z20, z30, z40, z50] oo + (1 : Int32)))])
        refine E_iload X141 at_224 rfl (pc' := 226) rfl ?_
        refine E_iload X141 at_226 rfl (pc' := 228) rfl ?_
        refine E_isub X141 at_228 rfl (pc' := 229) rfl ?_
        refine E_icF X141 at_229 (XT.ii_ne_f (by rw [(law_start z10 z20 z30 z40 z50 oo hoo).2.2.1 hn4 hn3 hn2]; exact own_sub _ _)) (pc' := 232) rfl ?_
        refine E_iconst X141 (v := (1 : Int32)) at_232 rfl (pc' := 233) rfl ?_
        refine E_goto X141 at_233 (pc' := 237) (by decide) rfl ?_
        exact E_ireturnN X141 (t := .boolean) at_237 rfl (by simp) (by decide) (by decide) (rfl)
      · skip
        refine E_icT X133 at_167 (XT.ii_ne_t hn2) (pc' := 176) (by decide) rfl ?_
        refine E_aload X133 at_176 rfl rfl (pc' := 178) rfl ?_
        refine E_iconst X133 (v := (1 : Int32)) at_178 rfl (pc' := 179) rfl ?_
        refine E_iload X133 at_179 rfl (pc' := 181) rfl ?_
        refine E_static X133 (rm := rm_nl) at_181 (hw _ (List.mem_of_getElem? (i := 78) rfl)) (hw _ (List.mem_of_getElem? (i := 79) rfl)) (hw _ (List.mem_of_getElem? (i := 3) rfl)) (hw _ (List.mem_of_getElem? (i := 80) rfl)) (by decide) (argsL := [(.ref b3), (.int (1 : Int32)), (.int (Int32.ofNat oo))]) (st := []) rfl (ct_nl l Z a0 hw G1 G3 OS b3 k7 1 oo z20 [(.int z10), (.int z20), (.int z30), (.int z40), (.int z50)] (.int (0 : Int32)) X133.old Arv_86 (by decide) hoo rfl) (lenOf (pd_17) rfl) rfl (by decide) (by decide) (by decide) (Nat.le_of_ble_eq_true rfl) (pc' := 184) rfl ?_
        intro T144 _ X145 hQ146
        obtain ⟨rfl, e147⟩ := hQ146
        rw [← e147] at Arv_86 Str_87 EP FL FC
        show Ends p e below s Z _ _ _ T144 (mkF m 184 #[.val (.int p0), .val (.int p1), .val (.int p2), .val (.int p3), .val (.int p4), .val (.int p5), .val (.ref b3), .val (.int (Int32.ofNat oo)), .val (.ref b62), .val (.ref pa), .val (.int ((((((1 : Int32) + (nlF z10 0 oo)) + (nlF z20 1 oo)) + (nlF z30 2 oo)) + (nlF z40 3 oo)) + (nlF z50 4 oo))), .val (.int (-1 : Int32))] [(.int (nlF z20 1 oo))])
        refine E_iconst X145 (v := (1 : Int32)) at_184 rfl (pc' := 185) rfl ?_
        by_cases hn1 : (nlF z20 1 oo) = (1 : Int32)
        · skip
          refine E_icF X145 at_185 (XT.ii_ne_f hn1) (pc' := 188) rfl ?_
          refine E_iconst X145 (v := (1 : Int32)) at_188 rfl (pc' := 189) rfl ?_
          refine E_istore X145 at_189 (l' := #[.val (.int p0), .val (.int p1), .val (.int p2), .val (.int p3), .val (.int p4), .val (.int p5), .val (.ref b3), .val (.int (Int32.ofNat oo)), .val (.ref b62), .val (.ref pa), .val (.int ((((((1 : Int32) + (nlF z10 0 oo)) + (nlF z20 1 oo)) + (nlF z30 2 oo)) + (nlF z40 3 oo)) + (nlF z50 4 oo))), .val (.int (1 : Int32))]) rfl (pc' := 191) rfl ?_
          refine E_goto X145 at_191 (pc' := 209) (by decide) rfl ?_
          refine E_aload X145 at_209 rfl rfl (pc' := 211) rfl ?_
          refine E_virtual X145 (rm := rm_line) (a := pa) (D := "com/example/semblance/semblance/QueryTokens$Position") at_211 (hw _ (List.mem_of_getElem? (i := 81) rfl)) (hw _ (List.mem_of_getElem? (i := 82) rfl)) (hw _ (List.mem_of_getElem? (i := 84) rfl)) (hw _ (List.mem_of_getElem? (i := 83) rfl)) (notFace_of_selects (args := #[]) (mvT X145.hZ (hw _ (List.mem_of_getElem? (i := 84) rfl)))) (by decide) EP (hw _ (List.mem_of_getElem? (i := 64) rfl)) (hw _ (List.mem_of_getElem? (i := 85) rfl)) (argsL := []) (st := []) rfl (ct_line l Z a0 hw G1 G3 OS pa (lnF [z10, z20, z30, z40, z50] oo) X145.old FL) (lenOf (pd_18) rfl) rfl (by decide) (by decide) (by decide) (Nat.le_of_ble_eq_true rfl) (pc' := 214) rfl ?_
          intro T148 _ X149 hQ150
          obtain ⟨rfl, e151⟩ := hQ150
          rw [← e151] at Arv_86 Str_87 EP FL FC
          show Ends p e below s Z _ _ _ T148 (mkF m 214 #[.val (.int p0), .val (.int p1), .val (.int p2), .val (.int p3), .val (.int p4), .val (.int p5), .val (.ref b3), .val (.int (Int32.ofNat oo)), .val (.ref b62), .val (.ref pa), .val (.int ((((((1 : Int32) + (nlF z10 0 oo)) + (nlF z20 1 oo)) + (nlF z30 2 oo)) + (nlF z40 3 oo)) + (nlF z50 4 oo))), .val (.int (1 : Int32))] [(.int (lnF [z10, z20, z30, z40, z50] oo))])
          refine E_iload X149 at_214 rfl (pc' := 216) rfl ?_
          refine E_icF X149 at_216 (XT.ii_ne_f (law_line z10 z20 z30 z40 z50 oo hoo)) (pc' := 219) rfl ?_
          refine E_aload X149 at_219 rfl rfl (pc' := 221) rfl ?_
          refine E_virtual X149 (rm := rm_column) (a := pa) (D := "com/example/semblance/semblance/QueryTokens$Position") at_221 (hw _ (List.mem_of_getElem? (i := 86) rfl)) (hw _ (List.mem_of_getElem? (i := 87) rfl)) (hw _ (List.mem_of_getElem? (i := 89) rfl)) (hw _ (List.mem_of_getElem? (i := 88) rfl)) (notFace_of_selects (args := #[]) (mvT X149.hZ (hw _ (List.mem_of_getElem? (i := 89) rfl)))) (by decide) EP (hw _ (List.mem_of_getElem? (i := 64) rfl)) (hw _ (List.mem_of_getElem? (i := 90) rfl)) (argsL := []) (st := []) rfl (ct_column l Z a0 hw G1 G3 OS pa (Int32.ofNat oo - lsF [z10, z20, z30, z40, z50] oo + (1 : Int32)) X149.old FC) (lenOf (pd_18) rfl) rfl (by decide) (by decide) (by decide) (Nat.le_of_ble_eq_true rfl) (pc' := 224) rfl ?_
          intro T152 _ X153 hQ154
          obtain ⟨rfl, e155⟩ := hQ154
          rw [← e155] at Arv_86 Str_87 EP FL FC
          show Ends p e below s Z _ _ _ T152 (mkF m 224 #[.val (.int p0), .val (.int p1), .val (.int p2), .val (.int p3), .val (.int p4), .val (.int p5), .val (.ref b3), .val (.int (Int32.ofNat oo)), .val (.ref b62), .val (.ref pa), .val (.int ((((((1 : Int32) + (nlF z10 0 oo)) + (nlF z20 1 oo)) + (nlF z30 2 oo)) + (nlF z40 3 oo)) + (nlF z50 4 oo))), .val (.int (1 : Int32))] [(.int (Int32.ofNat oo - lsF [z10, z20, z30, z40, z50] oo + (1 : Int32)))])
          refine E_iload X153 at_224 rfl (pc' := 226) rfl ?_
          refine E_iload X153 at_226 rfl (pc' := 228) rfl ?_
          refine E_isub X153 at_228 rfl (pc' := 229) rfl ?_
          refine E_icF X153 at_229 (XT.ii_ne_f (by rw [(law_start z10 z20 z30 z40 z50 oo hoo).2.2.2.1 hn4 hn3 hn2 hn1]; exact own_sub _ _)) (pc' := 232) rfl ?_
          refine E_iconst X153 (v := (1 : Int32)) at_232 rfl (pc' := 233) rfl ?_
          refine E_goto X153 at_233 (pc' := 237) (by decide) rfl ?_
          exact E_ireturnN X153 (t := .boolean) at_237 rfl (by simp) (by decide) (by decide) (rfl)
        · skip
          refine E_icT X145 at_185 (XT.ii_ne_t hn1) (pc' := 194) (by decide) rfl ?_
          refine E_aload X145 at_194 rfl rfl (pc' := 196) rfl ?_
          refine E_iconst X145 (v := (0 : Int32)) at_196 rfl (pc' := 197) rfl ?_
          refine E_iload X145 at_197 rfl (pc' := 199) rfl ?_
          refine E_static X145 (rm := rm_nl) at_199 (hw _ (List.mem_of_getElem? (i := 78) rfl)) (hw _ (List.mem_of_getElem? (i := 79) rfl)) (hw _ (List.mem_of_getElem? (i := 3) rfl)) (hw _ (List.mem_of_getElem? (i := 80) rfl)) (by decide) (argsL := [(.ref b3), (.int (0 : Int32)), (.int (Int32.ofNat oo))]) (st := []) rfl (ct_nl l Z a0 hw G1 G3 OS b3 k7 0 oo z10 [(.int z10), (.int z20), (.int z30), (.int z40), (.int z50)] (.int (0 : Int32)) X145.old Arv_86 (by decide) hoo rfl) (lenOf (pd_17) rfl) rfl (by decide) (by decide) (by decide) (Nat.le_of_ble_eq_true rfl) (pc' := 202) rfl ?_
          intro T156 _ X157 hQ158
          obtain ⟨rfl, e159⟩ := hQ158
          rw [← e159] at Arv_86 Str_87 EP FL FC
          show Ends p e below s Z _ _ _ T156 (mkF m 202 #[.val (.int p0), .val (.int p1), .val (.int p2), .val (.int p3), .val (.int p4), .val (.int p5), .val (.ref b3), .val (.int (Int32.ofNat oo)), .val (.ref b62), .val (.ref pa), .val (.int ((((((1 : Int32) + (nlF z10 0 oo)) + (nlF z20 1 oo)) + (nlF z30 2 oo)) + (nlF z40 3 oo)) + (nlF z50 4 oo))), .val (.int (-1 : Int32))] [(.int (nlF z10 0 oo))])
          refine E_iconst X157 (v := (1 : Int32)) at_202 rfl (pc' := 203) rfl ?_
          by_cases hn0 : (nlF z10 0 oo) = (1 : Int32)
          · skip
            refine E_icF X157 at_203 (XT.ii_ne_f hn0) (pc' := 206) rfl ?_
            refine E_iconst X157 (v := (0 : Int32)) at_206 rfl (pc' := 207) rfl ?_
            refine E_istore X157 at_207 (l' := #[.val (.int p0), .val (.int p1), .val (.int p2), .val (.int p3), .val (.int p4), .val (.int p5), .val (.ref b3), .val (.int (Int32.ofNat oo)), .val (.ref b62), .val (.ref pa), .val (.int ((((((1 : Int32) + (nlF z10 0 oo)) + (nlF z20 1 oo)) + (nlF z30 2 oo)) + (nlF z40 3 oo)) + (nlF z50 4 oo))), .val (.int (0 : Int32))]) rfl (pc' := 209) rfl ?_
            refine E_aload X157 at_209 rfl rfl (pc' := 211) rfl ?_
            refine E_virtual X157 (rm := rm_line) (a := pa) (D := "com/example/semblance/semblance/QueryTokens$Position") at_211 (hw _ (List.mem_of_getElem? (i := 81) rfl)) (hw _ (List.mem_of_getElem? (i := 82) rfl)) (hw _ (List.mem_of_getElem? (i := 84) rfl)) (hw _ (List.mem_of_getElem? (i := 83) rfl)) (notFace_of_selects (args := #[]) (mvT X157.hZ (hw _ (List.mem_of_getElem? (i := 84) rfl)))) (by decide) EP (hw _ (List.mem_of_getElem? (i := 64) rfl)) (hw _ (List.mem_of_getElem? (i := 85) rfl)) (argsL := []) (st := []) rfl (ct_line l Z a0 hw G1 G3 OS pa (lnF [z10, z20, z30, z40, z50] oo) X157.old FL) (lenOf (pd_18) rfl) rfl (by decide) (by decide) (by decide) (Nat.le_of_ble_eq_true rfl) (pc' := 214) rfl ?_
            intro T160 _ X161 hQ162
            obtain ⟨rfl, e163⟩ := hQ162
            rw [← e163] at Arv_86 Str_87 EP FL FC
            show Ends p e below s Z _ _ _ T160 (mkF m 214 #[.val (.int p0), .val (.int p1), .val (.int p2), .val (.int p3), .val (.int p4), .val (.int p5), .val (.ref b3), .val (.int (Int32.ofNat oo)), .val (.ref b62), .val (.ref pa), .val (.int ((((((1 : Int32) + (nlF z10 0 oo)) + (nlF z20 1 oo)) + (nlF z30 2 oo)) + (nlF z40 3 oo)) + (nlF z50 4 oo))), .val (.int (0 : Int32))] [(.int (lnF [z10, z20, z30, z40, z50] oo))])
            refine E_iload X161 at_214 rfl (pc' := 216) rfl ?_
            refine E_icF X161 at_216 (XT.ii_ne_f (law_line z10 z20 z30 z40 z50 oo hoo)) (pc' := 219) rfl ?_
            refine E_aload X161 at_219 rfl rfl (pc' := 221) rfl ?_
            refine E_virtual X161 (rm := rm_column) (a := pa) (D := "com/example/semblance/semblance/QueryTokens$Position") at_221 (hw _ (List.mem_of_getElem? (i := 86) rfl)) (hw _ (List.mem_of_getElem? (i := 87) rfl)) (hw _ (List.mem_of_getElem? (i := 89) rfl)) (hw _ (List.mem_of_getElem? (i := 88) rfl)) (notFace_of_selects (args := #[]) (mvT X161.hZ (hw _ (List.mem_of_getElem? (i := 89) rfl)))) (by decide) EP (hw _ (List.mem_of_getElem? (i := 64) rfl)) (hw _ (List.mem_of_getElem? (i := 90) rfl)) (argsL := []) (st := []) rfl (ct_column l Z a0 hw G1 G3 OS pa (Int32.ofNat oo - lsF [z10, z20, z30, z40, z50] oo + (1 : Int32)) X161.old FC) (lenOf (pd_18) rfl) rfl (by decide) (by decide) (by decide) (Nat.le_of_ble_eq_true rfl) (pc' := 224) rfl ?_
            intro T164 _ X165 hQ166
            obtain ⟨rfl, e167⟩ := hQ166
            rw [← e167] at Arv_86 Str_87 EP FL FC
            show Ends p e below s Z _ _ _ T164 (mkF m 224 #[.val (.int p0), .val (.int p1), .val (.int p2), .val (.int p3), .val (.int p4), .val (.int p5), .val (.ref b3), .val (.int (Int32.ofNat oo)), .val (.ref b62), .val (.ref pa), .val (.int ((((((1 : Int32) + (nlF z10 0 oo)) + (nlF z20 1 oo)) + (nlF z30 2 oo)) + (nlF z40 3 oo)) + (nlF z50 4 oo))), .val (.int (0 : Int32))] [(.int (Int32.ofNat oo - lsF [z10, z20, z30, z40, z50] oo + (1 : Int32)))])
            refine E_iload X165 at_224 rfl (pc' := 226) rfl ?_
            refine E_iload X165 at_226 rfl (pc' := 228) rfl ?_
            refine E_isub X165 at_228 rfl (pc' := 229) rfl ?_
            refine E_icF X165 at_229 (XT.ii_ne_f (by rw [(law_start z10 z20 z30 z40 z50 oo hoo).2.2.2.2.1 hn4 hn3 hn2 hn1 hn0]; exact own_sub _ _)) (pc' := 232) rfl ?_
            refine E_iconst X165 (v := (1 : Int32)) at_232 rfl (pc' := 233) rfl ?_
            refine E_goto X165 at_233 (pc' := 237) (by decide) rfl ?_
            exact E_ireturnN X165 (t := .boolean) at_237 rfl (by simp) (by decide) (by decide) (rfl)
          · skip
            refine E_icT X157 at_203 (XT.ii_ne_t hn0) (pc' := 209) (by decide) rfl ?_
            refine E_aload X157 at_209 rfl rfl (pc' := 211) rfl ?_
            refine E_virtual X157 (rm := rm_line) (a := pa) (D := "com/example/semblance/semblance/QueryTokens$Position") at_211 (hw _ (List.mem_of_getElem? (i := 81) rfl)) (hw _ (List.mem_of_getElem? (i := 82) rfl)) (hw _ (List.mem_of_getElem? (i := 84) rfl)) (hw _ (List.mem_of_getElem? (i := 83) rfl)) (notFace_of_selects (args := #[]) (mvT X157.hZ (hw _ (List.mem_of_getElem? (i := 84) rfl)))) (by decide) EP (hw _ (List.mem_of_getElem? (i := 64) rfl)) (hw _ (List.mem_of_getElem? (i := 85) rfl)) (argsL := []) (st := []) rfl (ct_line l Z a0 hw G1 G3 OS pa (lnF [z10, z20, z30, z40, z50] oo) X157.old FL) (lenOf (pd_18) rfl) rfl (by decide) (by decide) (by decide) (Nat.le_of_ble_eq_true rfl) (pc' := 214) rfl ?_
            intro T168 _ X169 hQ170
            obtain ⟨rfl, e171⟩ := hQ170
            rw [← e171] at Arv_86 Str_87 EP FL FC
            show Ends p e below s Z _ _ _ T168 (mkF m 214 #[.val (.int p0), .val (.int p1), .val (.int p2), .val (.int p3), .val (.int p4), .val (.int p5), .val (.ref b3), .val (.int (Int32.ofNat oo)), .val (.ref b62), .val (.ref pa), .val (.int ((((((1 : Int32) + (nlF z10 0 oo)) + (nlF z20 1 oo)) + (nlF z30 2 oo)) + (nlF z40 3 oo)) + (nlF z50 4 oo))), .val (.int (-1 : Int32))] [(.int (lnF [z10, z20, z30, z40, z50] oo))])
            refine E_iload X169 at_214 rfl (pc' := 216) rfl ?_
            refine E_icF X169 at_216 (XT.ii_ne_f (law_line z10 z20 z30 z40 z50 oo hoo)) (pc' := 219) rfl ?_
            refine E_aload X169 at_219 rfl rfl (pc' := 221) rfl ?_
            refine E_virtual X169 (rm := rm_column) (a := pa) (D := "com/example/semblance/semblance/QueryTokens$Position") at_221 (hw _ (List.mem_of_getElem? (i := 86) rfl)) (hw _ (List.mem_of_getElem? (i := 87) rfl)) (hw _ (List.mem_of_getElem? (i := 89) rfl)) (hw _ (List.mem_of_getElem? (i := 88) rfl)) (notFace_of_selects (args := #[]) (mvT X169.hZ (hw _ (List.mem_of_getElem? (i := 89) rfl)))) (by decide) EP (hw _ (List.mem_of_getElem? (i := 64) rfl)) (hw _ (List.mem_of_getElem? (i := 90) rfl)) (argsL := []) (st := []) rfl (ct_column l Z a0 hw G1 G3 OS pa (Int32.ofNat oo - lsF [z10, z20, z30, z40, z50] oo + (1 : Int32)) X169.old FC) (lenOf (pd_18) rfl) rfl (by decide) (by decide) (by decide) (Nat.le_of_ble_eq_true rfl) (pc' := 224) rfl ?_
            intro T172 _ X173 hQ174
            obtain ⟨rfl, e175⟩ := hQ174
            rw [← e175] at Arv_86 Str_87 EP FL FC
            show Ends p e below s Z _ _ _ T172 (mkF m 224 #[.val (.int p0), .val (.int p1), .val (.int p2), .val (.int p3), .val (.int p4), .val (.int p5), .val (.ref b3), .val (.int (Int32.ofNat oo)), .val (.ref b62), .val (.ref pa), .val (.int ((((((1 : Int32) + (nlF z10 0 oo)) + (nlF z20 1 oo)) + (nlF z30 2 oo)) + (nlF z40 3 oo)) + (nlF z50 4 oo))), .val (.int (-1 : Int32))] [(.int (Int32.ofNat oo - lsF [z10, z20, z30, z40, z50] oo + (1 : Int32)))])
            refine E_iload X173 at_224 rfl (pc' := 226) rfl ?_
            refine E_iload X173 at_226 rfl (pc' := 228) rfl ?_
            refine E_isub X173 at_228 rfl (pc' := 229) rfl ?_
            refine E_icF X173 at_229 (XT.ii_ne_f (by rw [(law_start z10 z20 z30 z40 z50 oo hoo).2.2.2.2.2 hn4 hn3 hn2 hn1 hn0]; exact own_sub _ _)) (pc' := 232) rfl ?_
            refine E_iconst X173 (v := (1 : Int32)) at_232 rfl (pc' := 233) rfl ?_
            refine E_goto X173 at_233 (pc' := 237) (by decide) rfl ?_
            exact E_ireturnN X173 (t := .boolean) at_237 rfl (by simp) (by decide) (by decide) (rfl)
set_option maxRecDepth 65536 in
set_option maxHeartbeats 40000000 in
theorem comes_1 {Post : Tables → Env → Array Value → State → Outcome → State → Prop} (hpost : ∀ tb e args s v u, (limb_1_1.after args s (.returned v) u = true ∧ limb_1_2.after args s (.returned v) u = true ∧ True) → FrameEnd s (.returned v) u (Jvm.fieldLocs frame_1_writes args s ++ Jvm.arrayLocs frame_1_arrays args s ++ Jvm.staticLocs frame_1_statics s) 24 128 → Post tb e args s (.returned v) u) :
    ArmFor flags0 classFile x code maxLocals ret World_1 tables_1 room_1 Calls_1 rest_1 Pre_1 Post := by
  intro l hfl _ _ p e ha hc hk s m args below hf hA hF happ hP
  obtain ⟨hcalls, hrest, hpre⟩ := hP
  obtain ⟨-, -, -, hnamed, -, -, -, hat⟩ := (Spec.applies_iff hf).mp happ
  obtain ⟨hg, hn⟩ := and_e (Cond.before_iff.mp (show (Jvm.Cond.and given_1 narrow_1).before args s = true from hpre))
  obtain ⟨hcnt, g0⟩ := and_e hg
  obtain ⟨i0, g1⟩ := and_e g0
  obtain ⟨i1, g2⟩ := and_e g1
  obtain ⟨i2, g3⟩ := and_e g2
  obtain ⟨i3, g4⟩ := and_e g3
  obtain ⟨i4, g5⟩ := and_e g4
  obtain ⟨w0, w1, w2, w3, w4, w5, rfl⟩ : ∃ w0 w1 w2 w3 w4 w5 : Value, args = #[w0, w1, w2, w3, w4, w5] := by
    have hs : args.size = 6 := by simpa [Cond.value, given_1] using hcnt
    obtain ⟨L⟩ := args
    match L, hs with
    | [w0, w1, w2, w3, w4, w5], _ => exact ⟨w0, w1, w2, w3, w4, w5, rfl⟩
  have hw := fun d (hd : d ∈ tables_1) => atoms_spec (ws := Jvm.Cond.code x code maxLocals ret :: tables_1) hat d (List.mem_cons_of_mem _ hd)
  obtain ⟨hsets, hown0⟩ := atoms_of _ (rest_1_c_eq ▸ (show rest_1_c.before _ s = true from hrest))
  have hr0 := Cond.before_iff.mp hown0
  have hfit : Fit s := fun {y c} hc i hi => by
    obtain ⟨ha, rfl⟩ := Array.getElem?_eq_some_iff.mp hc
    have q := List.all_eq_true.mp ((Array.all_eq_true_iff_forall_mem.mp hF) _ (Array.getElem_mem ha)) i (List.mem_range.mpr hi)
    simpa [Array.getElem?_eq_getElem hi] using q
  obtain ⟨x0, ex0⟩ := is_v i0
  obtain rfl : w0 = (.int x0) := Option.some.inj ex0
  obtain ⟨x1, ex1⟩ := is_v i1
  obtain rfl : w1 = (.int x1) := Option.some.inj ex1
  obtain ⟨x2, ex2⟩ := is_v i2
  obtain rfl : w2 = (.int x2) := Option.some.inj ex2
  obtain ⟨x3, ex3⟩ := is_v i3
  obtain rfl : w3 = (.int x3) := Option.some.inj ex3
  obtain ⟨x4, ex4⟩ := is_v i4
  obtain rfl : w4 = (.int x4) := Option.some.inj ex4
  obtain ⟨x5, ex5⟩ := is_v g5
  obtain rfl : w5 = (.int x5) := Option.some.inj ex5
  have n5 := not_v (Cond.before_iff.mp (hsets _ (List.mem_of_getElem? (i := 2) rfl)))
  obtain ⟨g1, eg1⟩ := is_v (Cond.before_iff.mp (hsets _ (List.mem_of_getElem? (i := 1) rfl)))
  have S12 : Sta s s.heap "java/lang/String" "COMPACT_STRINGS" "Z" (.int g1) := Sta.start eg1 (Or.inl (hsets _ (List.mem_of_getElem? (i := 0) rfl)))
  obtain ⟨g3, eg3, r15⟩ := isR_v (Cond.before_iff.mp (hsets _ (List.mem_of_getElem? (i := 8) rfl)))
  have S16 : Sta s s.heap "jdk/internal/util/Preconditions" "SIOOBE_FORMATTER" "Ljava/util/function/BiFunction;" g3 := Sta.start eg3 (Or.inl (hsets _ (List.mem_of_getElem? (i := 7) rfl)))
  have c17 : ¬ (g1 = (0 : Int32)) := gotF (Cond.eq_ints eg1 (Term.int_eval (0))) n5
  have SA : Sta s s.heap "java/lang/StringUTF16" "$assertionsDisabled" "Z" (.int 1) := Sta.start (eqv_i (Term.int_eval (1)) (Cond.before_iff.mp (hsets _ (List.mem_of_getElem? (i := 12) rfl)))) (Or.inl (hsets _ (List.mem_of_getElem? (i := 11) rfl)))
  have SH : Sta s s.heap "java/lang/StringUTF16" "HI_BYTE_SHIFT" "I" (.int 0) := Sta.start (eqv_i (Term.int_eval (0)) (Cond.before_iff.mp (hsets _ (List.mem_of_getElem? (i := 15) rfl)))) (Or.inl (hsets _ (List.mem_of_getElem? (i := 14) rfl)))
  have SL : Sta s s.heap "java/lang/StringUTF16" "LO_BYTE_SHIFT" "I" (.int 8) := Sta.start (eqv_i (Term.int_eval (8)) (Cond.before_iff.mp (hsets _ (List.mem_of_getElem? (i := 18) rfl)))) (Or.inl (hsets _ (List.mem_of_getElem? (i := 17) rfl)))
  obtain ⟨n, o, h1, h2, h3, _, L, rfl, ⟨N, -, rfl⟩, hq⟩ := ct_law l s _ hw x0 x1 x2 x3 x4 x5 g1 g3 ⟨Nat.le_refl _, fun _ _ q => q⟩ ⟨S12, c17, S16, r15, SA, SH, SL⟩ tables_1 p e ha hc hk s m _ below hf ((Spec.applies_iff_loose hf).mp happ).1 ⟨rfl, State.Warmed39.refl s, rfl⟩ trivial
  refine ⟨n, _, h1, h2, h3, hpost _ _ _ _ _ _ ⟨Cond.after_iff.mpr rfl, Cond.after_iff.mpr (eq_i res_at (Term.int_eval (1)) rfl), trivial⟩ ⟨hq.1, hq.2.1, (hq.2.2.sift fun y hy => Or.inr (N y hy)).mono (by decide) (by decide)⟩⟩
theorem main_1_1 : Claimed_1_1 := comes_1 fun _ _ _ _ _ _ h hF => ⟨h.1, hF⟩
theorem main_1_2 : Claimed_1_2 := comes_1 fun _ _ _ _ _ _ h hF => ⟨h.2.1, hF⟩
end Jvm.Pilot.@@N@@
namespace Jvm.Pilot.@@N@@
open Jvm Jvm.ClassFile Sem Op Lib Jvm.Free Jvm.Stand Jvm.Pilot.@@N@@.Jvm.D
/-! MADE BY PROGRAM (witnessworld.py) out of the Statement's table words and the real class files: 22 classes; the members and pool entries that the words name. The judged class is class 1, her method 3. -/
namespace start1
open Jvm.ClassFile
def u (s : String) : CpInfo := .utf8 (stringToUtf16 s)
/-- a pool by its gaps: so many unusable entries, then the entry; so many at the end -/
def gap : Nat → List CpInfo → List CpInfo
  | 0, r => r
  | n + 1, r => .unusable :: gap n r
def poolList (es : List (Nat × CpInfo)) (last : Nat) : List CpInfo := es.foldr (fun e r => gap e.1 (e.2 :: r)) (gap last [])
def pool (es : List (Nat × CpInfo)) (last : Nat) : Array CpInfo := ⟨poolList es last⟩
def fileOf (pool : Array CpInfo) (this : Nat) (attrs : Array Attribute := #[]) (ms : Array MethodInfo := #[]) (fl : Nat := 33) (sup : Nat := 0) (ifs : Array Nat := #[]) (fds : Array FieldInfo := #[]) : ClassFile where
  minorVersion := 0
  majorVersion := 65
  constantPool := pool
  accessFlags := fl
  thisClass := this
  superClass := sup
  interfaces := ifs
  fields := fds
  methods := ms
  attributes := attrs
def plain (name : String) (sup : Option ClassId) : Class where
  name := name
  kind := .ordinary
  loader := none
  accessFlags := 33
  super := sup
  interfaces := #[]
  cf := none
  fields := #[]
  methods := #[]
  instanceTypes := #[]
  staticTypes := #[]
  resolved := #[]
  callSites := []
  init := .initialized
  statics := none
  mirror := none

def pool0 : Array CpInfo := pool [(5, u "<init>"), (0, u "()V"), (1, .class_ 10), (1, u "java/lang/Object")] 113

def k0c0 : Code := { maxStack := 0, maxLocals := 1, code := object_method_1_code, exceptionTable := #[], attributes := #[] }
def k0m0 : Method := { name := "<init>", desc := "()V", sig := { parameters := [], returnType := none }, accessFlags := 1, code := some k0c0 }
/-- java/lang/Object -/
def k0 : Class := { plain "java/lang/Object" none with
  accessFlags := 33
  interfaces := #[]
  cf := some (fileOf pool0 8 #[] #[{ accessFlags := 1, nameIndex := 5, descriptorIndex := 6, attributes := #[] }] 33 0 #[] #[])
  fields := #[]
  methods := #[k0m0]
  instanceTypes := #[]
  staticTypes := #[]
  resolved := Array.replicate 124 none
  statics := none }

def pool1 : Array CpInfo := pool [(2, .class_ 4), (1, u "java/lang/Object"), (0, u "<init>"), (0, u "()V"), (0, .integer 65535), (0, .methodref 9 10), (0, .class_ 11), (0, .nameAndType 12 13), (0, u "com/example/semblance/semblance/QueryTokensPositionPinLaw"), (0, u "ch"), (0, u "(I)C"), (0, .integer 2147483647), (0, .class_ 16), (0, u "java/lang/String"), (0, .methodref 15 18), (0, .nameAndType 5 19), (0, u "([C)V"), (0, .methodref 21 22), (0, .class_ 23), (0, .nameAndType 24 25), (0, u "com/example/semblance/semblance/QueryTokens"), (0, u "position"), (0, u "(Ljava/lang/String;I)Lcom/example/semblance/semblance/QueryTokens$Position;"), (0, .methodref 9 27), (0, .nameAndType 28 29), (0, u "nl"), (0, u "([CII)I"), (0, .methodref 31 32), (0, .class_ 33), (0, .nameAndType 34 35), (0, u "com/example/semblance/semblance/QueryTokens$Position"), (0, u "line"), (0, u "()I"), (0, .methodref 31 37), (0, .nameAndType 38 35), (0, u "column"), (3, u "law"), (0, u "(IIIIII)Z")] 6

def k1m0 : Method := { name := "<init>", desc := "()V", sig := { parameters := [], returnType := none }, accessFlags := 1, code := none }
def k1c1 : Code := { maxStack := 2, maxLocals := 1, code := method_2_code, exceptionTable := #[], attributes := #[] }
def k1m1 : Method := { name := "ch", desc := "(I)C", sig := { parameters := [.int], returnType := some .char }, accessFlags := 10, code := some k1c1 }
def k1c2 : Code := { maxStack := 2, maxLocals := 3, code := method_3_code, exceptionTable := #[], attributes := #[] }
def k1m2 : Method := { name := "nl", desc := "([CII)I", sig := { parameters := [(.array .char), .int, .int], returnType := some .int }, accessFlags := 10, code := some k1c2 }
def k1c3 : Code := { maxStack := 4, maxLocals := 12, code := code, exceptionTable := #[], attributes := #[] }
def k1m3 : Method := { name := "law", desc := "(IIIIII)Z", sig := { parameters := [.int, .int, .int, .int, .int, .int], returnType := some .boolean }, accessFlags := 9, code := some k1c3 }
/-- com/example/semblance/semblance/QueryTokensPositionPinLaw -/
def k1 : Class := { plain "com/example/semblance/semblance/QueryTokensPositionPinLaw" (some 0) with
  accessFlags := 49
  interfaces := #[]
  cf := some (fileOf pool1 9 #[] #[{ accessFlags := 1, nameIndex := 5, descriptorIndex := 6, attributes := #[] }, { accessFlags := 10, nameIndex := 12, descriptorIndex := 13, attributes := #[] }, { accessFlags := 10, nameIndex := 28, descriptorIndex := 29, attributes := #[] }, { accessFlags := 9, nameIndex := 42, descriptorIndex := 43, attributes := #[] }] 49 2 #[] #[])
  fields := #[]
  methods := #[k1m0, k1m1, k1m2, k1m3]
  instanceTypes := #[]
  staticTypes := #[]
  resolved := Array.replicate 50 none
  statics := none }

def pool2 : Array CpInfo := pool [(1, .class_ 2), (0, u "java/io/Serializable"), (0, .class_ 4), (0, u "java/lang/Object")] 2

/-- java/io/Serializable -/
def k2 : Class := { plain "java/io/Serializable" (some 0) with
  accessFlags := 1537
  interfaces := #[]
  cf := some (fileOf pool2 1 #[] #[] 1537 3 #[] #[])
  fields := #[]
  methods := #[]
  instanceTypes := #[]
  staticTypes := #[]
  resolved := Array.replicate 7 none
  statics := none }

def pool3 : Array CpInfo := pool [(1, .class_ 2), (0, u "java/lang/Comparable"), (0, .class_ 4), (0, u "java/lang/Object")] 7

/-- java/lang/Comparable -/
def k3 : Class := { plain "java/lang/Comparable" (some 0) with
  accessFlags := 1537
  interfaces := #[]
  cf := some (fileOf pool3 1 #[] #[] 1537 3 #[] #[])
  fields := #[]
  methods := #[]
  instanceTypes := #[]
  staticTypes := #[]
  resolved := Array.replicate 12 none
  statics := none }

def pool4 : Array CpInfo := pool [(2, .class_ 4), (1, u "java/lang/CharSequence"), (42, .class_ 48), (0, u "java/lang/CharSequence$1CodePointIterator"), (10, .class_ 60), (0, u "java/lang/CharSequence$1CharIterator"), (5, .class_ 67), (0, u "java/lang/Object")] 63

/-- java/lang/CharSequence -/
def k4 : Class := { plain "java/lang/CharSequence" (some 0) with
  accessFlags := 1537
  interfaces := #[]
  cf := some (fileOf pool4 2 #[.nestMembers #[47, 59]] #[] 1537 66 #[] #[])
  fields := #[]
  methods := #[]
  instanceTypes := #[]
  staticTypes := #[]
  resolved := Array.replicate 131 none
  statics := none }

def pool5 : Array CpInfo := pool [(1, .class_ 2), (0, u "java/lang/constant/Constable"), (0, .class_ 4), (0, u "java/lang/Object")] 6

/-- java/lang/constant/Constable -/
def k5 : Class := { plain "java/lang/constant/Constable" (some 0) with
  accessFlags := 1537
  interfaces := #[]
  cf := some (fileOf pool5 1 #[] #[] 1537 3 #[] #[])
  fields := #[]
  methods := #[]
  instanceTypes := #[]
  staticTypes := #[]
  resolved := Array.replicate 11 none
  statics := none }

def pool6 : Array CpInfo := pool [(1, .class_ 2), (0, u "java/lang/constant/ConstantDesc"), (0, .class_ 4), (0, u "java/lang/Object")] 32

/-- java/lang/constant/ConstantDesc -/
def k6 : Class := { plain "java/lang/constant/ConstantDesc" (some 0) with
  accessFlags := 1537
  interfaces := #[]
  cf := some (fileOf pool6 1 #[] #[] 1537 3 #[] #[])
  fields := #[]
  methods := #[]
  instanceTypes := #[]
  staticTypes := #[]
  resolved := Array.replicate 37 none
  statics := none }

def pool7 : Array CpInfo := pool [(1, .methodref 2 3), (0, .class_ 4), (0, .nameAndType 5 6), (0, u "java/lang/Object"), (0, u "<init>"), (0, u "()V"), (2, .fieldref 10 11), (0, .class_ 12), (0, .nameAndType 13 14), (0, u "java/lang/String"), (0, u "value"), (0, u "[B"), (0, .fieldref 10 16), (0, .nameAndType 17 18), (0, u "coder"), (0, u "B"), (2, u "hash"), (0, u "I"), (2, u "hashIsZero"), (0, u "Z"), (0, .methodref 10 28), (0, .nameAndType 5 29), (0, u "([CIILjava/lang/Void;)V"), (8, .fieldref 10 39), (0, .nameAndType 40 26), (0, u "COMPACT_STRINGS"), (1, .class_ 44), (1, u "java/lang/StringUTF16"), (0, u "compress"), (1, .methodref 42 48), (0, .nameAndType 49 50), (0, u "coderFromArrayLen"), (0, u "([BI)B"), (56, .class_ 109), (1, u "java/lang/StringLatin1"), (32, u "()Z"), (34, .methodref 42 178), (0, .nameAndType 45 179), (0, u "([CII)[B"), (183, u "([BI)C"), (27, u "(II)V"), (35, u "(I)C"), (64, .methodref 10 493), (0, .nameAndType 494 142), (0, u "isLatin1"), (0, .methodref 107 496), (0, .nameAndType 497 363), (0, u "charAt"), (0, .methodref 42 496), (2, u "checkIndex"), (73, .class_ 576), (0, u "java/lang/CharSequence"), (22, u "CASE_INSENSITIVE_ORDER"), (0, u "Ljava/util/Comparator;"), (409, u "([C)V"), (42, .fieldref 1054 1055), (0, .class_ 1056), (0, .nameAndType 1057 1058), (0, u "jdk/internal/util/Preconditions"), (0, u "SIOOBE_FORMATTER"), (0, u "Ljava/util/function/BiFunction;"), (0, .methodref 1054 1060), (0, .nameAndType 501 1061), (0, u "(IILjava/util/function/BiFunction;)I"), (39, u "serialPersistentFields"), (0, u "[Ljava/io/ObjectStreamField;"), (0, .class_ 1104), (0, u "java/lang/String$CaseInsensitiveComparator"), (1, .class_ 1107), (0, u "java/io/Serializable"), (0, .class_ 1109), (0, u "java/lang/Comparable"), (0, .class_ 1111), (0, u "java/lang/constant/Constable"), (0, .class_ 1113), (0, u "java/lang/constant/ConstantDesc"), (2, u "serialVersionUID"), (0, u "J"), (3, u "REPL"), (0, u "C"), (2, u "LATIN1"), (1, u "UTF16")] 323

def k7m0 : Method := { name := "<init>", desc := "()V", sig := { parameters := [], returnType := none }, accessFlags := 1, code := none }
def k7c1 : Code := { maxStack := 5, maxLocals := 2, code := jdk_42_method_3_code, exceptionTable := #[], attributes := #[] }
def k7m1 : Method := { name := "<init>", desc := "([C)V", sig := { parameters := [(.array .char)], returnType := none }, accessFlags := 1, code := some k7c1 }
def k7c2 : Code := { maxStack := 2, maxLocals := 2, code := jdk_42_method_56_code, exceptionTable := #[], attributes := #[] }
def k7m2 : Method := { name := "charAt", desc := "(I)C", sig := { parameters := [.int], returnType := some .char }, accessFlags := 1, code := some k7c2 }
def k7c3 : Code := { maxStack := 4, maxLocals := 6, code := jdk_42_method_149_code, exceptionTable := #[], attributes := #[] }
def k7m3 : Method := { name := "<init>", desc := "([CIILjava/lang/Void;)V", sig := { parameters := [(.array .char), .int, .int, (.object "java/lang/Void")], returnType := none }, accessFlags := 2, code := some k7c3 }
def k7c4 : Code := { maxStack := 1, maxLocals := 1, code := jdk_42_method_154_code, exceptionTable := #[], attributes := #[] }
def k7m4 : Method := { name := "isLatin1", desc := "()Z", sig := { parameters := [], returnType := some .boolean }, accessFlags := 0, code := some k7c4 }
def k7c5 : Code := { maxStack := 3, maxLocals := 2, code := jdk_42_method_155_code, exceptionTable := #[], attributes := #[] }
def k7m5 : Method := { name := "checkIndex", desc := "(II)V", sig := { parameters := [.int, .int], returnType := none }, accessFlags := 8, code := some k7c5 }
/-- java/lang/String -/
def k7 : Class := { plain "java/lang/String" (some 0) with
  accessFlags := 49
  interfaces := #[2, 3, 4, 5, 6]
  cf := some (fileOf pool7 10 #[.nestMembers #[1103]] #[{ accessFlags := 1, nameIndex := 5, descriptorIndex := 6, attributes := #[] }, { accessFlags := 1, nameIndex := 5, descriptorIndex := 1010, attributes := #[] }, { accessFlags := 1, nameIndex := 497, descriptorIndex := 427, attributes := #[] }, { accessFlags := 2, nameIndex := 5, descriptorIndex := 29, attributes := #[] }, { accessFlags := 0, nameIndex := 494, descriptorIndex := 142, attributes := #[] }, { accessFlags := 8, nameIndex := 501, descriptorIndex := 391, attributes := #[] }] 49 2 #[1106, 1108, 575, 1110, 1112] #[{ accessFlags := 18, nameIndex := 13, descriptorIndex := 14, attributes := #[] }, { accessFlags := 18, nameIndex := 17, descriptorIndex := 18, attributes := #[] }, { accessFlags := 2, nameIndex := 21, descriptorIndex := 22, attributes := #[] }, { accessFlags := 2, nameIndex := 25, descriptorIndex := 26, attributes := #[] }, { accessFlags := 26, nameIndex := 1116, descriptorIndex := 1117, attributes := #[] }, { accessFlags := 24, nameIndex := 40, descriptorIndex := 26, attributes := #[] }, { accessFlags := 26, nameIndex := 1101, descriptorIndex := 1102, attributes := #[] }, { accessFlags := 26, nameIndex := 1121, descriptorIndex := 1122, attributes := #[] }, { accessFlags := 25, nameIndex := 599, descriptorIndex := 600, attributes := #[] }, { accessFlags := 24, nameIndex := 1125, descriptorIndex := 18, attributes := #[] }, { accessFlags := 24, nameIndex := 1127, descriptorIndex := 18, attributes := #[] }])
  fields := #[{ name := "value", type := (.array .byte), accessFlags := 18, slot := 0, constantValue := 0 }, { name := "coder", type := .byte, accessFlags := 18, slot := 1, constantValue := 0 }, { name := "hash", type := .int, accessFlags := 2, slot := 2, constantValue := 0 }, { name := "hashIsZero", type := .boolean, accessFlags := 2, slot := 3, constantValue := 0 }, { name := "serialVersionUID", type := .long, accessFlags := 26, slot := 0, constantValue := 0 }, { name := "COMPACT_STRINGS", type := .boolean, accessFlags := 24, slot := 1, constantValue := 0 }, { name := "serialPersistentFields", type := (.array (.object "java/io/ObjectStreamField")), accessFlags := 26, slot := 2, constantValue := 0 }, { name := "REPL", type := .char, accessFlags := 26, slot := 3, constantValue := 0 }, { name := "CASE_INSENSITIVE_ORDER", type := (.object "java/util/Comparator"), accessFlags := 25, slot := 4, constantValue := 0 }, { name := "LATIN1", type := .byte, accessFlags := 24, slot := 5, constantValue := 0 }, { name := "UTF16", type := .byte, accessFlags := 24, slot := 6, constantValue := 0 }]
  methods := #[k7m0, k7m1, k7m2, k7m3, k7m4, k7m5]
  instanceTypes := #[(.array .byte), .byte, .int, .boolean]
  staticTypes := #[.long, .boolean, (.array (.object "java/io/ObjectStreamField")), .char, (.object "java/util/Comparator"), .byte, .byte]
  resolved := Array.replicate 1451 none
  statics := some 0 }

def pool8 : Array CpInfo := pool [(3, .class_ 4), (0, u "java/lang/String"), (1, .class_ 8), (1, u "java/lang/Object"), (0, u "<init>"), (0, u "()V"), (0, .methodref 12 13), (0, .class_ 14), (0, .nameAndType 15 16), (0, u "java/lang/StringUTF16"), (0, u "newBytesLength"), (0, u "(I)I"), (3, .integer 1073741823), (23, .fieldref 12 45), (0, .nameAndType 46 47), (0, u "$assertionsDisabled"), (0, u "Z"), (0, .methodref 12 49), (0, .nameAndType 50 51), (0, u "length"), (0, u "([B)I"), (7, .fieldref 12 60), (0, .nameAndType 61 62), (0, u "HI_BYTE_SHIFT"), (0, u "I"), (0, .fieldref 12 64), (0, .nameAndType 65 62), (0, u "LO_BYTE_SHIFT"), (1, .methodref 12 68), (0, .nameAndType 69 70), (0, u "checkIndex"), (0, u "(I[B)V"), (0, .methodref 12 72), (0, .nameAndType 73 74), (0, u "getChar"), (0, u "([BI)C"), (32, .methodref 12 108), (0, .nameAndType 109 110), (0, u "newBytesFor"), (0, u "(I)[B"), (0, .methodref 12 112), (0, .nameAndType 113 114), (0, u "putChar"), (0, u "([BII)V"), (0, .methodref 12 116), (0, .nameAndType 117 118), (0, u "compress"), (0, u "([CI[BII)I"), (0, .methodref 12 120), (0, .nameAndType 121 122), (0, u "toBytes"), (0, u "([CII)[B"), (138, u "coderFromArrayLen"), (0, u "([BI)B"), (106, .class_ 371), (1, u "java/lang/StringUTF16$LinesSpliterator"), (20, u "charAt"), (21, .methodref 3 415), (0, .nameAndType 69 416), (0, u "(II)V"), (13, u "MAX_LENGTH"), (196, .class_ 628), (0, u "java/lang/StringUTF16$CodePointsSpliterator"), (0, .class_ 630), (0, u "java/lang/StringUTF16$CharsSpliterator")] 4

def k8m0 : Method := { name := "<init>", desc := "()V", sig := { parameters := [], returnType := none }, accessFlags := 0, code := none }
def k8c1 : Code := { maxStack := 1, maxLocals := 1, code := jdk_52_method_2_code, exceptionTable := #[], attributes := #[] }
def k8m1 : Method := { name := "newBytesFor", desc := "(I)[B", sig := { parameters := [.int], returnType := some (.array .byte) }, accessFlags := 9, code := some k8c1 }
def k8c2 : Code := { maxStack := 4, maxLocals := 1, code := jdk_52_method_3_code, exceptionTable := #[], attributes := #[] }
def k8m2 : Method := { name := "newBytesLength", desc := "(I)I", sig := { parameters := [.int], returnType := some .int }, accessFlags := 9, code := some k8c2 }
def k8c3 : Code := { maxStack := 4, maxLocals := 3, code := jdk_52_method_4_code, exceptionTable := #[], attributes := #[] }
def k8m3 : Method := { name := "putChar", desc := "([BII)V", sig := { parameters := [(.array .byte), .int, .int], returnType := none }, accessFlags := 8, code := some k8c3 }
def k8c4 : Code := { maxStack := 3, maxLocals := 2, code := jdk_52_method_5_code, exceptionTable := #[], attributes := #[] }
def k8m4 : Method := { name := "getChar", desc := "([BI)C", sig := { parameters := [(.array .byte), .int], returnType := some .char }, accessFlags := 8, code := some k8c4 }
def k8c5 : Code := { maxStack := 2, maxLocals := 1, code := jdk_52_method_6_code, exceptionTable := #[], attributes := #[] }
def k8m5 : Method := { name := "length", desc := "([B)I", sig := { parameters := [(.array .byte)], returnType := some .int }, accessFlags := 9, code := some k8c5 }
def k8c6 : Code := { maxStack := 4, maxLocals := 5, code := jdk_52_method_14_code, exceptionTable := #[], attributes := #[] }
def k8m6 : Method := { name := "toBytes", desc := "([CII)[B", sig := { parameters := [(.array .char), .int, .int], returnType := some (.array .byte) }, accessFlags := 9, code := some k8c6 }
def k8c7 : Code := { maxStack := 2, maxLocals := 2, code := jdk_52_method_15_code, exceptionTable := #[], attributes := #[] }
def k8m7 : Method := { name := "coderFromArrayLen", desc := "([BI)B", sig := { parameters := [(.array .byte), .int], returnType := some .byte }, accessFlags := 8, code := some k8c7 }
def k8c8 : Code := { maxStack := 5, maxLocals := 6, code := jdk_52_method_16_code, exceptionTable := #[], attributes := #[] }
def k8m8 : Method := { name := "compress", desc := "([CII)[B", sig := { parameters := [(.array .char), .int, .int], returnType := some (.array .byte) }, accessFlags := 9, code := some k8c8 }
def k8c9 : Code := { maxStack := 3, maxLocals := 7, code := jdk_52_method_21_code, exceptionTable := #[], attributes := #[] }
def k8m9 : Method := { name := "compress", desc := "([CI[BII)I", sig := { parameters := [(.array .char), .int, (.array .byte), .int, .int], returnType := some .int }, accessFlags := 9, code := some k8c9 }
def k8c10 : Code := { maxStack := 2, maxLocals := 2, code := jdk_52_method_83_code, exceptionTable := #[], attributes := #[] }
def k8m10 : Method := { name := "charAt", desc := "([BI)C", sig := { parameters := [(.array .byte), .int], returnType := some .char }, accessFlags := 9, code := some k8c10 }
def k8c11 : Code := { maxStack := 2, maxLocals := 2, code := jdk_52_method_91_code, exceptionTable := #[], attributes := #[] }
def k8m11 : Method := { name := "checkIndex", desc := "(I[B)V", sig := { parameters := [.int, (.array .byte)], returnType := none }, accessFlags := 9, code := some k8c11 }
/-- java/lang/StringUTF16 -/
def k8 : Class := { plain "java/lang/StringUTF16" (some 0) with
  accessFlags := 48
  interfaces := #[]
  cf := some (fileOf pool8 12 #[.nestMembers #[627, 629, 369]] #[{ accessFlags := 0, nameIndex := 9, descriptorIndex := 10, attributes := #[] }, { accessFlags := 9, nameIndex := 109, descriptorIndex := 110, attributes := #[] }, { accessFlags := 9, nameIndex := 15, descriptorIndex := 16, attributes := #[] }, { accessFlags := 8, nameIndex := 113, descriptorIndex := 114, attributes := #[] }, { accessFlags := 8, nameIndex := 73, descriptorIndex := 74, attributes := #[] }, { accessFlags := 9, nameIndex := 50, descriptorIndex := 51, attributes := #[] }, { accessFlags := 9, nameIndex := 121, descriptorIndex := 122, attributes := #[] }, { accessFlags := 8, nameIndex := 261, descriptorIndex := 262, attributes := #[] }, { accessFlags := 9, nameIndex := 117, descriptorIndex := 122, attributes := #[] }, { accessFlags := 9, nameIndex := 117, descriptorIndex := 118, attributes := #[] }, { accessFlags := 9, nameIndex := 392, descriptorIndex := 74, attributes := #[] }, { accessFlags := 9, nameIndex := 69, descriptorIndex := 70, attributes := #[] }] 48 6 #[] #[{ accessFlags := 26, nameIndex := 61, descriptorIndex := 62, attributes := #[] }, { accessFlags := 26, nameIndex := 65, descriptorIndex := 62, attributes := #[] }, { accessFlags := 24, nameIndex := 430, descriptorIndex := 62, attributes := #[] }, { accessFlags := 4120, nameIndex := 46, descriptorIndex := 47, attributes := #[] }])
  fields := #[{ name := "HI_BYTE_SHIFT", type := .int, accessFlags := 26, slot := 0, constantValue := 0 }, { name := "LO_BYTE_SHIFT", type := .int, accessFlags := 26, slot := 1, constantValue := 0 }, { name := "MAX_LENGTH", type := .int, accessFlags := 24, slot := 2, constantValue := 0 }, { name := "$assertionsDisabled", type := .boolean, accessFlags := 4120, slot := 3, constantValue := 0 }]
  methods := #[k8m0, k8m1, k8m2, k8m3, k8m4, k8m5, k8m6, k8m7, k8m8, k8m9, k8m10, k8m11]
  instanceTypes := #[]
  staticTypes := #[.int, .int, .int, .boolean]
  resolved := Array.replicate 635 none
  statics := some 1 }

def pool9 : Array CpInfo := pool [(2, .class_ 4), (1, u "java/lang/Object"), (0, u "<init>"), (0, u "()V"), (4, .class_ 13), (1, u "com/example/semblance/semblance/QueryTokens"), (0, u "IRI"), (0, u "Ljava/util/regex/Pattern;"), (7, .class_ 25), (1, u "java/lang/String"), (2, .methodref 23 29), (0, .nameAndType 30 31), (0, u "charAt"), (0, u "(I)C"), (1, .class_ 35), (1, u "com/example/semblance/semblance/QueryTokens$Kind"), (63, .class_ 100), (0, u "com/example/semblance/semblance/QueryTokens$Token"), (28, .class_ 130), (0, u "com/example/semblance/semblance/QueryTokens$Position"), (0, .methodref 129 132), (0, .nameAndType 5 133), (0, u "(II)V"), (34, u "REC"), (0, u "Ljava/lang/String;"), (1, u "MIDDLE_DOT"), (0, u "C"), (1, u "DELIMITERS"), (10, u "position"), (0, u "(Ljava/lang/String;I)Lcom/example/semblance/semblance/QueryTokens$Position;")] 10

def k9m0 : Method := { name := "<init>", desc := "()V", sig := { parameters := [], returnType := none }, accessFlags := 2, code := none }
def k9c1 : Code := { maxStack := 5, maxLocals := 5, code := prog_7_method_4_code, exceptionTable := #[], attributes := #[] }
def k9m1 : Method := { name := "position", desc := "(Ljava/lang/String;I)Lcom/example/semblance/semblance/QueryTokens$Position;", sig := { parameters := [(.object "java/lang/String"), .int], returnType := some (.object "com/example/semblance/semblance/QueryTokens$Position") }, accessFlags := 8, code := some k9c1 }
/-- com/example/semblance/semblance/QueryTokens -/
def k9 : Class := { plain "com/example/semblance/semblance/QueryTokens" (some 0) with
  accessFlags := 48
  interfaces := #[]
  cf := some (fileOf pool9 11 #[.nestMembers #[99, 33, 129]] #[{ accessFlags := 2, nameIndex := 5, descriptorIndex := 6, attributes := #[] }, { accessFlags := 8, nameIndex := 185, descriptorIndex := 186, attributes := #[] }] 48 2 #[] #[{ accessFlags := 24, nameIndex := 168, descriptorIndex := 169, attributes := #[] }, { accessFlags := 24, nameIndex := 171, descriptorIndex := 172, attributes := #[] }, { accessFlags := 26, nameIndex := 14, descriptorIndex := 15, attributes := #[] }, { accessFlags := 26, nameIndex := 174, descriptorIndex := 169, attributes := #[] }])
  fields := #[{ name := "REC", type := (.object "java/lang/String"), accessFlags := 24, slot := 0, constantValue := 0 }, { name := "MIDDLE_DOT", type := .char, accessFlags := 24, slot := 1, constantValue := 0 }, { name := "IRI", type := (.object "java/util/regex/Pattern"), accessFlags := 26, slot := 2, constantValue := 0 }, { name := "DELIMITERS", type := (.object "java/lang/String"), accessFlags := 26, slot := 3, constantValue := 0 }]
  methods := #[k9m0, k9m1]
  instanceTypes := #[]
  staticTypes := #[(.object "java/lang/String"), .char, (.object "java/util/regex/Pattern"), (.object "java/lang/String")]
  resolved := Array.replicate 197 none
  statics := none }

def pool10 : Array CpInfo := pool [(1, .class_ 2), (0, u "java/lang/String"), (1, .class_ 6), (1, u "java/lang/Object"), (0, u "<init>"), (0, u "()V"), (0, .methodref 1 10), (0, .nameAndType 11 12), (0, u "checkIndex"), (0, u "(II)V"), (1, .class_ 16), (1, u "java/lang/StringLatin1"), (36, u "([BI)C"), (67, u "$assertionsDisabled"), (0, u "Z"), (98, .class_ 223), (1, u "java/lang/StringLatin1$LinesSpliterator"), (28, u "charAt"), (137, .class_ 391), (0, u "java/lang/StringLatin1$CharsSpliterator")] 3

def k10m0 : Method := { name := "<init>", desc := "()V", sig := { parameters := [], returnType := none }, accessFlags := 0, code := none }
def k10c1 : Code := { maxStack := 2, maxLocals := 2, code := jdk_43_method_2_code, exceptionTable := #[], attributes := #[] }
def k10m1 : Method := { name := "charAt", desc := "([BI)C", sig := { parameters := [(.array .byte), .int], returnType := some .char }, accessFlags := 9, code := some k10c1 }
/-- java/lang/StringLatin1 -/
def k10 : Class := { plain "java/lang/StringLatin1" (some 0) with
  accessFlags := 48
  interfaces := #[]
  cf := some (fileOf pool10 14 #[.nestMembers #[390, 221]] #[{ accessFlags := 0, nameIndex := 7, descriptorIndex := 8, attributes := #[] }, { accessFlags := 9, nameIndex := 252, descriptorIndex := 53, attributes := #[] }] 48 4 #[] #[{ accessFlags := 4120, nameIndex := 121, descriptorIndex := 122, attributes := #[] }])
  fields := #[{ name := "$assertionsDisabled", type := .boolean, accessFlags := 4120, slot := 0, constantValue := 0 }]
  methods := #[k10m0, k10m1]
  instanceTypes := #[]
  staticTypes := #[.boolean]
  resolved := Array.replicate 395 none
  statics := none }

def pool11 : Array CpInfo := pool [(2, .class_ 4), (1, u "java/lang/Object"), (0, u "<init>"), (0, u "()V"), (17, .class_ 26), (1, u "jdk/internal/util/Preconditions"), (6, u "checkIndex"), (21, .class_ 56), (0, u "jdk/internal/util/Preconditions$4"), (57, .class_ 115), (0, u "jdk/internal/util/Preconditions$1"), (7, u "SIOOBE_FORMATTER"), (0, u "Ljava/util/function/BiFunction;"), (0, .class_ 126), (0, u "jdk/internal/util/Preconditions$2"), (3, u "AIOOBE_FORMATTER"), (0, .class_ 132), (0, u "jdk/internal/util/Preconditions$3"), (3, u "IOOBE_FORMATTER"), (41, u "(IILjava/util/function/BiFunction;)I")] 15

def k11m0 : Method := { name := "<init>", desc := "()V", sig := { parameters := [], returnType := none }, accessFlags := 1, code := none }
def k11c1 : Code := { maxStack := 3, maxLocals := 3, code := jdk_41_method_11_code, exceptionTable := #[], attributes := #[] }
def k11m1 : Method := { name := "checkIndex", desc := "(IILjava/util/function/BiFunction;)I", sig := { parameters := [.int, .int, (.object "java/util/function/BiFunction")], returnType := some .int }, accessFlags := 9, code := some k11c1 }
/-- jdk/internal/util/Preconditions -/
def k11 : Class := { plain "jdk/internal/util/Preconditions" (some 0) with
  accessFlags := 33
  interfaces := #[]
  cf := some (fileOf pool11 24 #[.nestMembers #[55, 131, 125, 114]] #[{ accessFlags := 1, nameIndex := 5, descriptorIndex := 6, attributes := #[] }, { accessFlags := 9, nameIndex := 33, descriptorIndex := 178, attributes := #[] }] 33 2 #[] #[{ accessFlags := 25, nameIndex := 123, descriptorIndex := 124, attributes := #[] }, { accessFlags := 25, nameIndex := 130, descriptorIndex := 124, attributes := #[] }, { accessFlags := 25, nameIndex := 136, descriptorIndex := 124, attributes := #[] }])
  fields := #[{ name := "SIOOBE_FORMATTER", type := (.object "java/util/function/BiFunction"), accessFlags := 25, slot := 0, constantValue := 0 }, { name := "AIOOBE_FORMATTER", type := (.object "java/util/function/BiFunction"), accessFlags := 25, slot := 1, constantValue := 0 }, { name := "IOOBE_FORMATTER", type := (.object "java/util/function/BiFunction"), accessFlags := 25, slot := 2, constantValue := 0 }]
  methods := #[k11m0, k11m1]
  instanceTypes := #[]
  staticTypes := #[(.object "java/util/function/BiFunction"), (.object "java/util/function/BiFunction"), (.object "java/util/function/BiFunction")]
  resolved := Array.replicate 194 none
  statics := some 2 }

def pool12 : Array CpInfo := pool [(1, .methodref 2 3), (0, .class_ 4), (0, .nameAndType 5 6), (0, u "java/lang/Object"), (0, u "<init>"), (0, u "()V"), (0, .class_ 8), (0, u "java/lang/Record")] 13

def k12c0 : Code := { maxStack := 1, maxLocals := 1, code := jdk_30_method_1_code, exceptionTable := #[], attributes := #[] }
def k12m0 : Method := { name := "<init>", desc := "()V", sig := { parameters := [], returnType := none }, accessFlags := 4, code := some k12c0 }
/-- java/lang/Record -/
def k12 : Class := { plain "java/lang/Record" (some 0) with
  accessFlags := 1057
  interfaces := #[]
  cf := some (fileOf pool12 7 #[] #[{ accessFlags := 4, nameIndex := 5, descriptorIndex := 6, attributes := #[] }] 1057 2 #[] #[])
  fields := #[]
  methods := #[k12m0]
  instanceTypes := #[]
  staticTypes := #[]
  resolved := Array.replicate 22 none
  statics := none }

def pool13 : Array CpInfo := pool [(1, .methodref 2 3), (0, .class_ 4), (0, .nameAndType 5 6), (0, u "java/lang/Record"), (0, u "<init>"), (0, u "()V"), (0, .fieldref 8 9), (0, .class_ 10), (0, .nameAndType 11 12), (0, u "com/example/semblance/semblance/QueryTokens$Position"), (0, u "line"), (0, u "I"), (0, .fieldref 8 14), (0, .nameAndType 15 12), (0, u "column"), (12, u "(II)V"), (4, u "()I"), (4, .class_ 39), (0, u "com/example/semblance/semblance/QueryTokens")] 20

def k13c0 : Code := { maxStack := 2, maxLocals := 3, code := prog_9_method_1_code, exceptionTable := #[], attributes := #[] }
def k13m0 : Method := { name := "<init>", desc := "(II)V", sig := { parameters := [.int, .int], returnType := none }, accessFlags := 0, code := some k13c0 }
def k13c1 : Code := { maxStack := 1, maxLocals := 1, code := prog_9_method_5_code, exceptionTable := #[], attributes := #[] }
def k13m1 : Method := { name := "line", desc := "()I", sig := { parameters := [], returnType := some .int }, accessFlags := 1, code := some k13c1 }
def k13c2 : Code := { maxStack := 1, maxLocals := 1, code := prog_9_method_6_code, exceptionTable := #[], attributes := #[] }
def k13m2 : Method := { name := "column", desc := "()I", sig := { parameters := [], returnType := some .int }, accessFlags := 1, code := some k13c2 }
/-- com/example/semblance/semblance/QueryTokens$Position -/
def k13 : Class := { plain "com/example/semblance/semblance/QueryTokens$Position" (some 12) with
  accessFlags := 48
  interfaces := #[]
  cf := some (fileOf pool13 8 #[.nestHost 38] #[{ accessFlags := 0, nameIndex := 5, descriptorIndex := 28, attributes := #[] }, { accessFlags := 1, nameIndex := 11, descriptorIndex := 33, attributes := #[] }, { accessFlags := 1, nameIndex := 15, descriptorIndex := 33, attributes := #[] }] 48 2 #[] #[{ accessFlags := 18, nameIndex := 11, descriptorIndex := 12, attributes := #[] }, { accessFlags := 18, nameIndex := 15, descriptorIndex := 12, attributes := #[] }])
  fields := #[{ name := "line", type := .int, accessFlags := 18, slot := 0, constantValue := 0 }, { name := "column", type := .int, accessFlags := 18, slot := 1, constantValue := 0 }]
  methods := #[k13m0, k13m1, k13m2]
  instanceTypes := #[.int, .int]
  staticTypes := #[]
  resolved := Array.replicate 60 none
  statics := none }

def pool14 : Array CpInfo := pool [(9, u "<init>"), (6, .class_ 18), (1, u "java/lang/Object"), (0, u "()V"), (1, .class_ 23), (1, u "jdk/internal/util/ArraysSupport"), (0, u "LOG2_ARRAY_LONG_INDEX_SCALE"), (0, u "I"), (2, u "U"), (0, u "Ljdk/internal/misc/Unsafe;"), (8, u "BIG_ENDIAN"), (0, u "Z"), (8, u "LOG2_BYTE_BIT_SIZE"), (4, u "LOG2_ARRAY_INT_INDEX_SCALE"), (54, u "JLA"), (0, u "Ljdk/internal/access/JavaLangAccess;"), (11, u "LOG2_ARRAY_BOOLEAN_INDEX_SCALE"), (9, u "LOG2_ARRAY_BYTE_INDEX_SCALE"), (5, u "LOG2_ARRAY_CHAR_INDEX_SCALE"), (5, u "LOG2_ARRAY_SHORT_INDEX_SCALE"), (18, u "LOG2_ARRAY_FLOAT_INDEX_SCALE"), (24, u "LOG2_ARRAY_DOUBLE_INDEX_SCALE"), (89, u "T_BOOLEAN"), (2, u "T_CHAR"), (1, u "T_FLOAT"), (1, u "T_DOUBLE"), (1, u "T_BYTE"), (1, u "T_SHORT"), (1, u "T_INT"), (1, u "T_LONG"), (1, u "SOFT_MAX_ARRAY_LENGTH")] 83

def k14m0 : Method := { name := "<init>", desc := "()V", sig := { parameters := [], returnType := none }, accessFlags := 2, code := none }
/-- jdk/internal/util/ArraysSupport -/
def k14 : Class := { plain "jdk/internal/util/ArraysSupport" (some 0) with
  accessFlags := 33
  interfaces := #[]
  cf := some (fileOf pool14 21 #[] #[{ accessFlags := 2, nameIndex := 9, descriptorIndex := 19, attributes := #[] }] 33 16 #[] #[{ accessFlags := 24, nameIndex := 28, descriptorIndex := 29, attributes := #[] }, { accessFlags := 26, nameIndex := 38, descriptorIndex := 39, attributes := #[] }, { accessFlags := 25, nameIndex := 121, descriptorIndex := 25, attributes := #[] }, { accessFlags := 25, nameIndex := 131, descriptorIndex := 25, attributes := #[] }, { accessFlags := 25, nameIndex := 137, descriptorIndex := 25, attributes := #[] }, { accessFlags := 25, nameIndex := 143, descriptorIndex := 25, attributes := #[] }, { accessFlags := 25, nameIndex := 53, descriptorIndex := 25, attributes := #[] }, { accessFlags := 25, nameIndex := 24, descriptorIndex := 25, attributes := #[] }, { accessFlags := 25, nameIndex := 162, descriptorIndex := 25, attributes := #[] }, { accessFlags := 25, nameIndex := 187, descriptorIndex := 25, attributes := #[] }, { accessFlags := 26, nameIndex := 48, descriptorIndex := 25, attributes := #[] }, { accessFlags := 25, nameIndex := 277, descriptorIndex := 25, attributes := #[] }, { accessFlags := 25, nameIndex := 280, descriptorIndex := 25, attributes := #[] }, { accessFlags := 25, nameIndex := 282, descriptorIndex := 25, attributes := #[] }, { accessFlags := 25, nameIndex := 284, descriptorIndex := 25, attributes := #[] }, { accessFlags := 25, nameIndex := 286, descriptorIndex := 25, attributes := #[] }, { accessFlags := 25, nameIndex := 288, descriptorIndex := 25, attributes := #[] }, { accessFlags := 25, nameIndex := 290, descriptorIndex := 25, attributes := #[] }, { accessFlags := 25, nameIndex := 292, descriptorIndex := 25, attributes := #[] }, { accessFlags := 26, nameIndex := 108, descriptorIndex := 109, attributes := #[] }, { accessFlags := 25, nameIndex := 294, descriptorIndex := 25, attributes := #[] }])
  fields := #[{ name := "U", type := (.object "jdk/internal/misc/Unsafe"), accessFlags := 24, slot := 0, constantValue := 0 }, { name := "BIG_ENDIAN", type := .boolean, accessFlags := 26, slot := 1, constantValue := 0 }, { name := "LOG2_ARRAY_BOOLEAN_INDEX_SCALE", type := .int, accessFlags := 25, slot := 2, constantValue := 0 }, { name := "LOG2_ARRAY_BYTE_INDEX_SCALE", type := .int, accessFlags := 25, slot := 3, constantValue := 0 }, { name := "LOG2_ARRAY_CHAR_INDEX_SCALE", type := .int, accessFlags := 25, slot := 4, constantValue := 0 }, { name := "LOG2_ARRAY_SHORT_INDEX_SCALE", type := .int, accessFlags := 25, slot := 5, constantValue := 0 }, { name := "LOG2_ARRAY_INT_INDEX_SCALE", type := .int, accessFlags := 25, slot := 6, constantValue := 0 }, { name := "LOG2_ARRAY_LONG_INDEX_SCALE", type := .int, accessFlags := 25, slot := 7, constantValue := 0 }, { name := "LOG2_ARRAY_FLOAT_INDEX_SCALE", type := .int, accessFlags := 25, slot := 8, constantValue := 0 }, { name := "LOG2_ARRAY_DOUBLE_INDEX_SCALE", type := .int, accessFlags := 25, slot := 9, constantValue := 0 }, { name := "LOG2_BYTE_BIT_SIZE", type := .int, accessFlags := 26, slot := 10, constantValue := 0 }, { name := "T_BOOLEAN", type := .int, accessFlags := 25, slot := 11, constantValue := 0 }, { name := "T_CHAR", type := .int, accessFlags := 25, slot := 12, constantValue := 0 }, { name := "T_FLOAT", type := .int, accessFlags := 25, slot := 13, constantValue := 0 }, { name := "T_DOUBLE", type := .int, accessFlags := 25, slot := 14, constantValue := 0 }, { name := "T_BYTE", type := .int, accessFlags := 25, slot := 15, constantValue := 0 }, { name := "T_SHORT", type := .int, accessFlags := 25, slot := 16, constantValue := 0 }, { name := "T_INT", type := .int, accessFlags := 25, slot := 17, constantValue := 0 }, { name := "T_LONG", type := .int, accessFlags := 25, slot := 18, constantValue := 0 }, { name := "JLA", type := (.object "jdk/internal/access/JavaLangAccess"), accessFlags := 26, slot := 19, constantValue := 0 }, { name := "SOFT_MAX_ARRAY_LENGTH", type := .int, accessFlags := 25, slot := 20, constantValue := 0 }]
  methods := #[k14m0]
  instanceTypes := #[]
  staticTypes := #[(.object "jdk/internal/misc/Unsafe"), .boolean, .int, .int, .int, .int, .int, .int, .int, .int, .int, .int, .int, .int, .int, .int, .int, .int, .int, (.object "jdk/internal/access/JavaLangAccess"), .int]
  resolved := Array.replicate 378 none
  statics := none }

def pool15 : Array CpInfo := pool [(1, u "java/lang/Cloneable"), (0, .class_ 1), (0, u "java/lang/Object"), (0, .class_ 3)] 3

/-- java/lang/Cloneable -/
def k15 : Class := { plain "java/lang/Cloneable" (some 0) with
  accessFlags := 1537
  interfaces := #[]
  cf := some (fileOf pool15 2 #[] #[] 1537 4 #[] #[])
  fields := #[]
  methods := #[]
  instanceTypes := #[]
  staticTypes := #[]
  resolved := Array.replicate 8 none
  statics := none }

/-- the primitive byte -/
def k16 : Class := { plain "byte" none with kind := .primitive 'B', accessFlags := 0x411 }
/-- [B -/
def k17 : Class := { plain "[B" (some 0) with kind := .array 16 .byte, interfaces := #[15, 2], accessFlags := 1041 }

/-- the primitive char -/
def k18 : Class := { plain "char" none with kind := .primitive 'C', accessFlags := 0x411 }
/-- [C -/
def k19 : Class := { plain "[C" (some 0) with kind := .array 18 .char, interfaces := #[15, 2], accessFlags := 1041 }

/-- the primitive int -/
def k20 : Class := { plain "int" none with kind := .primitive 'I', accessFlags := 0x411 }
/-- [I -/
def k21 : Class := { plain "[I" (some 0) with kind := .array 20 .int, interfaces := #[15, 2], accessFlags := 1041 }

def heap : Heap := #[{ cls := 7, slots := #[.long 0, .int 1, .null, .int 0, .null, .int 0, .int 0], vm := .statics 7 },
  { cls := 8, slots := #[.int 0, .int 8, .int 0, .int 1], vm := .statics 8 },
  { cls := 11, slots := #[.null, .null, .null], vm := .statics 11 }]
def classes : Array Class := #[k0, k1, k2, k3, k4, k5, k6, k7, k8, k9, k10, k11, k12, k13, k14, k15, k16, k17, k18, k19, k20, k21]
def interned : List (Array UInt16 × Addr) := []
def slotsUsed : Nat := 14
def theMethod : MethodId := ⟨1, 3⟩
def args0 : Array Value := #[.int 5, .int 6, .int 7, .int 8, .int 9, .int 10]
def aboutOver (below : List Frame) : State where
  vm := { classes := classes, interned := interned.toArray }
  heap := heap
  slotsUsed := slotsUsed
  threads := #[{ frames := .invoking theMethod args0 :: below }]
def below0 : List Frame := [.native { method := ⟨0, 0⟩, args := #[] }]
def about1 : State := aboutOver below0
def p0 : Program := .bare "" "" ""
def e0 : Env := launch0.env 0 0 0
theorem w_frames : about1.frames = Frame.invoking theMethod args0 :: below0 := rfl
set_option maxRecDepth 65536 in
theorem w_args : argsFit about1.vm theMethod args0 = true := by decide +kernel
set_option maxRecDepth 65536 in
theorem w_heap : heapFits about1 = true := by decide +kernel
set_option maxRecDepth 65536 in
theorem w_runnable : about1.curStatus? = some .runnable := by decide +kernel
set_option maxRecDepth 65536 in
theorem w_alone : about1.alone = true := by decide +kernel
set_option maxRecDepth 65536 in
theorem w_named : about1.methodNamed? x = some theMethod := by decide +kernel
set_option maxRecDepth 65536 in
theorem w_hears : about1.hears theMethod below0 = true := by decide +kernel
set_option maxRecDepth 65536 in
theorem w_ripe : about1.ripe theMethod args0 below0 = true := by decide +kernel
theorem w_running : about1.status = .running := rfl
set_option maxRecDepth 65536 in
theorem w_room : about1.hasRoom e0.platform room_1 = true :=
  launch0.hasRoom_least _ room_1 (by decide +kernel) (by decide +kernel) (by decide +kernel) (by decide +kernel) (by decide +kernel) (by decide +kernel)
theorem allAtoms_all (ts : List Jvm.Cond) (a : Array Jvm.Value) (st : Jvm.State) : (allAtoms ts).before a st = ts.all (fun c => c.before a st) := by
  induction ts with
  | nil => rfl
  | cons c t ih =>
    show (Jvm.Cond.and c (allAtoms t)).before a st = _
    rw [Jvm.Cond.before_and, ih, List.all_cons]
def words1 : List Jvm.Cond := Jvm.Cond.code x code maxLocals ret :: tables_1
/-- a 'code' word, met by the world's own term for the bytes: nothing is compared byte by byte -/
theorem code_word {y : MethodName} {bytes : ByteArray} {mx : Nat} {rt : Option FieldType} {a : Array Value} {s : State} {m : MethodId} {meth : Method} {c : Code} (h1 : s.methodNamed? y = some m) (h2 : s.vm.method? m = some meth) (h3 : meth.code = some c) (h4 : c.code = bytes)
    (h5 : (c.maxLocals == mx && c.exceptionTable.isEmpty && decide (c.maxStack ≤ mostOperands) && decide (meth.sig.returnType = rt) && !meth.locks && decide (parseMethodDescriptor y.desc = some meth.sig)) = true) : (Jvm.Cond.code y bytes mx rt).before a s = true := by
  simp only [Bool.and_eq_true, beq_iff_eq, Bool.not_eq_true', decide_eq_true_eq] at h5
  obtain ⟨⟨⟨⟨⟨g1, g2⟩, g3⟩, g4⟩, g5⟩, g6⟩ := h5
  simp [Cond.before, Cond.holds, Cond.value, h1, h2, h3, h4, g1, g2, g3, g4, g5, g6]
def isCode : Jvm.Cond → Bool
  | .code _ _ _ _ => true
  | _ => false
theorem all_split {L : List Jvm.Cond} {P : Jvm.Cond → Bool} (h1 : L.all (fun c => isCode c || P c) = true) (h2 : ∀ c ∈ L.filter isCode, P c = true) : L.all P = true := by
  refine List.all_eq_true.mpr fun c hc => ?_
  have h := List.all_eq_true.mp h1 c hc
  rcases Bool.eq_false_or_eq_true (isCode c) with hi | hi
  · exact h2 c (List.mem_filter.mpr ⟨hc, hi⟩)
  · simpa [hi] using h
set_option maxRecDepth 65536 in
theorem w_c0 : (Jvm.Cond.code x code maxLocals ret).before args0 about1 = true := code_word (m := ⟨1, 3⟩) (meth := k1m3) (c := k1c3) (by decide +kernel) rfl rfl rfl (by decide +kernel)
set_option maxRecDepth 65536 in
theorem w_c1 : (Jvm.Cond.code ({ cls := "com/example/semblance/semblance/QueryTokensPositionPinLaw", name := "ch", desc := "(I)C" } : Jvm.MethodName) method_2_code (1 : Nat) (Option.some Jvm.ClassFile.FieldType.char)).before args0 about1 = true := code_word (m := ⟨1, 1⟩) (meth := k1m1) (c := k1c1) (by decide +kernel) rfl rfl rfl (by decide +kernel)
set_option maxRecDepth 65536 in
theorem w_c2 : (Jvm.Cond.code ({ cls := "java/lang/String", name := "<init>", desc := "([C)V" } : Jvm.MethodName) jdk_42_method_3_code (2 : Nat) (Option.none : Option Jvm.ClassFile.FieldType)).before args0 about1 = true := code_word (m := ⟨7, 1⟩) (meth := k7m1) (c := k7c1) (by decide +kernel) rfl rfl rfl (by decide +kernel)
set_option maxRecDepth 65536 in
theorem w_c3 : (Jvm.Cond.code ({ cls := "java/lang/String", name := "<init>", desc := "([CIILjava/lang/Void;)V" } : Jvm.MethodName) jdk_42_method_149_code (6 : Nat) (Option.none : Option Jvm.ClassFile.FieldType)).before args0 about1 = true := code_word (m := ⟨7, 3⟩) (meth := k7m3) (c := k7c3) (by decide +kernel) rfl rfl rfl (by decide +kernel)
set_option maxRecDepth 65536 in
theorem w_c4 : (Jvm.Cond.code ({ cls := "java/lang/Object", name := "<init>", desc := "()V" } : Jvm.MethodName) object_method_1_code (1 : Nat) (Option.none : Option Jvm.ClassFile.FieldType)).before args0 about1 = true := code_word (m := ⟨0, 0⟩) (meth := k0m0) (c := k0c0) (by decide +kernel) rfl rfl rfl (by decide +kernel)
set_option maxRecDepth 65536 in
theorem w_c5 : (Jvm.Cond.code ({ cls := "java/lang/StringUTF16", name := "compress", desc := "([CII)[B" } : Jvm.MethodName) jdk_52_method_16_code (6 : Nat) (Option.some (Jvm.ClassFile.FieldType.array Jvm.ClassFile.FieldType.byte))).before args0 about1 = true := code_word (m := ⟨8, 8⟩) (meth := k8m8) (c := k8c8) (by decide +kernel) rfl rfl rfl (by decide +kernel)
set_option maxRecDepth 65536 in
theorem w_c6 : (Jvm.Cond.code ({ cls := "java/lang/StringUTF16", name := "compress", desc := "([CI[BII)I" } : Jvm.MethodName) jdk_52_method_21_code (7 : Nat) (Option.some Jvm.ClassFile.FieldType.int)).before args0 about1 = true := code_word (m := ⟨8, 9⟩) (meth := k8m9) (c := k8c9) (by decide +kernel) rfl rfl rfl (by decide +kernel)
set_option maxRecDepth 65536 in
theorem w_c7 : (Jvm.Cond.code ({ cls := "java/lang/StringUTF16", name := "coderFromArrayLen", desc := "([BI)B" } : Jvm.MethodName) jdk_52_method_15_code (2 : Nat) (Option.some Jvm.ClassFile.FieldType.byte)).before args0 about1 = true := code_word (m := ⟨8, 7⟩) (meth := k8m7) (c := k8c7) (by decide +kernel) rfl rfl rfl (by decide +kernel)
set_option maxRecDepth 65536 in
theorem w_c8 : (Jvm.Cond.code ({ cls := "com/example/semblance/semblance/QueryTokens", name := "position", desc := "(Ljava/lang/String;I)Lcom/example/semblance/semblance/QueryTokens$Position;" } : Jvm.MethodName) prog_7_method_4_code (5 : Nat) (Option.some (Jvm.ClassFile.FieldType.object "com/example/semblance/semblance/QueryTokens$Position"))).before args0 about1 = true := code_word (m := ⟨9, 1⟩) (meth := k9m1) (c := k9c1) (by decide +kernel) rfl rfl rfl (by decide +kernel)
set_option maxRecDepth 65536 in
theorem w_c9 : (Jvm.Cond.code ({ cls := "java/lang/String", name := "charAt", desc := "(I)C" } : Jvm.MethodName) jdk_42_method_56_code (2 : Nat) (Option.some Jvm.ClassFile.FieldType.char)).before args0 about1 = true := code_word (m := ⟨7, 2⟩) (meth := k7m2) (c := k7c2) (by decide +kernel) rfl rfl rfl (by decide +kernel)
set_option maxRecDepth 65536 in
theorem w_c10 : (Jvm.Cond.code ({ cls := "java/lang/String", name := "isLatin1", desc := "()Z" } : Jvm.MethodName) jdk_42_method_154_code (1 : Nat) (Option.some Jvm.ClassFile.FieldType.boolean)).before args0 about1 = true := code_word (m := ⟨7, 4⟩) (meth := k7m4) (c := k7c4) (by decide +kernel) rfl rfl rfl (by decide +kernel)
set_option maxRecDepth 65536 in
theorem w_c11 : (Jvm.Cond.code ({ cls := "java/lang/StringLatin1", name := "charAt", desc := "([BI)C" } : Jvm.MethodName) jdk_43_method_2_code (2 : Nat) (Option.some Jvm.ClassFile.FieldType.char)).before args0 about1 = true := code_word (m := ⟨10, 1⟩) (meth := k10m1) (c := k10c1) (by decide +kernel) rfl rfl rfl (by decide +kernel)
set_option maxRecDepth 65536 in
theorem w_c12 : (Jvm.Cond.code ({ cls := "java/lang/String", name := "checkIndex", desc := "(II)V" } : Jvm.MethodName) jdk_42_method_155_code (2 : Nat) (Option.none : Option Jvm.ClassFile.FieldType)).before args0 about1 = true := code_word (m := ⟨7, 5⟩) (meth := k7m5) (c := k7c5) (by decide +kernel) rfl rfl rfl (by decide +kernel)
set_option maxRecDepth 65536 in
theorem w_c13 : (Jvm.Cond.code ({ cls := "jdk/internal/util/Preconditions", name := "checkIndex", desc := "(IILjava/util/function/BiFunction;)I" } : Jvm.MethodName) jdk_41_method_11_code (3 : Nat) (Option.some Jvm.ClassFile.FieldType.int)).before args0 about1 = true := code_word (m := ⟨11, 1⟩) (meth := k11m1) (c := k11c1) (by decide +kernel) rfl rfl rfl (by decide +kernel)
set_option maxRecDepth 65536 in
theorem w_c14 : (Jvm.Cond.code ({ cls := "com/example/semblance/semblance/QueryTokens$Position", name := "<init>", desc := "(II)V" } : Jvm.MethodName) prog_9_method_1_code (3 : Nat) (Option.none : Option Jvm.ClassFile.FieldType)).before args0 about1 = true := code_word (m := ⟨13, 0⟩) (meth := k13m0) (c := k13c0) (by decide +kernel) rfl rfl rfl (by decide +kernel)
set_option maxRecDepth 65536 in
theorem w_c15 : (Jvm.Cond.code ({ cls := "java/lang/Record", name := "<init>", desc := "()V" } : Jvm.MethodName) jdk_30_method_1_code (1 : Nat) (Option.none : Option Jvm.ClassFile.FieldType)).before args0 about1 = true := code_word (m := ⟨12, 0⟩) (meth := k12m0) (c := k12c0) (by decide +kernel) rfl rfl rfl (by decide +kernel)
set_option maxRecDepth 65536 in
theorem w_c16 : (Jvm.Cond.code ({ cls := "com/example/semblance/semblance/QueryTokensPositionPinLaw", name := "nl", desc := "([CII)I" } : Jvm.MethodName) method_3_code (3 : Nat) (Option.some Jvm.ClassFile.FieldType.int)).before args0 about1 = true := code_word (m := ⟨1, 2⟩) (meth := k1m2) (c := k1c2) (by decide +kernel) rfl rfl rfl (by decide +kernel)
set_option maxRecDepth 65536 in
theorem w_c17 : (Jvm.Cond.code ({ cls := "com/example/semblance/semblance/QueryTokens$Position", name := "line", desc := "()I" } : Jvm.MethodName) prog_9_method_5_code (1 : Nat) (Option.some Jvm.ClassFile.FieldType.int)).before args0 about1 = true := code_word (m := ⟨13, 1⟩) (meth := k13m1) (c := k13c1) (by decide +kernel) rfl rfl rfl (by decide +kernel)
set_option maxRecDepth 65536 in
theorem w_c18 : (Jvm.Cond.code ({ cls := "com/example/semblance/semblance/QueryTokens$Position", name := "column", desc := "()I" } : Jvm.MethodName) prog_9_method_6_code (1 : Nat) (Option.some Jvm.ClassFile.FieldType.int)).before args0 about1 = true := code_word (m := ⟨13, 2⟩) (meth := k13m2) (c := k13c2) (by decide +kernel) rfl rfl rfl (by decide +kernel)
set_option maxRecDepth 65536 in
theorem w_c19 : (Jvm.Cond.code ({ cls := "java/lang/StringUTF16", name := "toBytes", desc := "([CII)[B" } : Jvm.MethodName) jdk_52_method_14_code (5 : Nat) (Option.some (Jvm.ClassFile.FieldType.array Jvm.ClassFile.FieldType.byte))).before args0 about1 = true := code_word (m := ⟨8, 6⟩) (meth := k8m6) (c := k8c6) (by decide +kernel) rfl rfl rfl (by decide +kernel)
set_option maxRecDepth 65536 in
theorem w_c20 : (Jvm.Cond.code ({ cls := "java/lang/StringUTF16", name := "newBytesFor", desc := "(I)[B" } : Jvm.MethodName) jdk_52_method_2_code (1 : Nat) (Option.some (Jvm.ClassFile.FieldType.array Jvm.ClassFile.FieldType.byte))).before args0 about1 = true := code_word (m := ⟨8, 1⟩) (meth := k8m1) (c := k8c1) (by decide +kernel) rfl rfl rfl (by decide +kernel)
set_option maxRecDepth 65536 in
theorem w_c21 : (Jvm.Cond.code ({ cls := "java/lang/StringUTF16", name := "newBytesLength", desc := "(I)I" } : Jvm.MethodName) jdk_52_method_3_code (1 : Nat) (Option.some Jvm.ClassFile.FieldType.int)).before args0 about1 = true := code_word (m := ⟨8, 2⟩) (meth := k8m2) (c := k8c2) (by decide +kernel) rfl rfl rfl (by decide +kernel)
set_option maxRecDepth 65536 in
theorem w_c22 : (Jvm.Cond.code ({ cls := "java/lang/StringUTF16", name := "putChar", desc := "([BII)V" } : Jvm.MethodName) jdk_52_method_4_code (3 : Nat) (Option.none : Option Jvm.ClassFile.FieldType)).before args0 about1 = true := code_word (m := ⟨8, 3⟩) (meth := k8m3) (c := k8c3) (by decide +kernel) rfl rfl rfl (by decide +kernel)
set_option maxRecDepth 65536 in
theorem w_c23 : (Jvm.Cond.code ({ cls := "java/lang/StringUTF16", name := "getChar", desc := "([BI)C" } : Jvm.MethodName) jdk_52_method_5_code (2 : Nat) (Option.some Jvm.ClassFile.FieldType.char)).before args0 about1 = true := code_word (m := ⟨8, 4⟩) (meth := k8m4) (c := k8c4) (by decide +kernel) rfl rfl rfl (by decide +kernel)
set_option maxRecDepth 65536 in
theorem w_c24 : (Jvm.Cond.code ({ cls := "java/lang/StringUTF16", name := "charAt", desc := "([BI)C" } : Jvm.MethodName) jdk_52_method_83_code (2 : Nat) (Option.some Jvm.ClassFile.FieldType.char)).before args0 about1 = true := code_word (m := ⟨8, 10⟩) (meth := k8m10) (c := k8c10) (by decide +kernel) rfl rfl rfl (by decide +kernel)
set_option maxRecDepth 65536 in
theorem w_c25 : (Jvm.Cond.code ({ cls := "java/lang/StringUTF16", name := "checkIndex", desc := "(I[B)V" } : Jvm.MethodName) jdk_52_method_91_code (2 : Nat) (Option.none : Option Jvm.ClassFile.FieldType)).before args0 about1 = true := code_word (m := ⟨8, 11⟩) (meth := k8m11) (c := k8c11) (by decide +kernel) rfl rfl rfl (by decide +kernel)
set_option maxRecDepth 65536 in
theorem w_c26 : (Jvm.Cond.code ({ cls := "java/lang/StringUTF16", name := "length", desc := "([B)I" } : Jvm.MethodName) jdk_52_method_6_code (1 : Nat) (Option.some Jvm.ClassFile.FieldType.int)).before args0 about1 = true := code_word (m := ⟨8, 5⟩) (meth := k8m5) (c := k8c5) (by decide +kernel) rfl rfl rfl (by decide +kernel)
def codes1 : List Jvm.Cond := [Jvm.Cond.code x code maxLocals ret, Jvm.Cond.code ({ cls := "com/example/semblance/semblance/QueryTokensPositionPinLaw", name := "ch", desc := "(I)C" } : Jvm.MethodName) method_2_code (1 : Nat) (Option.some Jvm.ClassFile.FieldType.char), Jvm.Cond.code ({ cls := "java/lang/String", name := "<init>", desc := "([C)V" } : Jvm.MethodName) jdk_42_method_3_code (2 : Nat) (Option.none : Option Jvm.ClassFile.FieldType), Jvm.Cond.code ({ cls := "java/lang/String", name := "<init>", desc := "([CIILjava/lang/Void;)V" } : Jvm.MethodName) jdk_42_method_149_code (6 : Nat) (Option.none : Option Jvm.ClassFile.FieldType), Jvm.Cond.code ({ cls := "java/lang/Object", name := "<init>", desc := "()V" } : Jvm.MethodName) object_method_1_code (1 : Nat) (Option.none : Option Jvm.ClassFile.FieldType), Jvm.Cond.code ({ cls := "java/lang/StringUTF16", name := "compress", desc := "([CII)[B" } : Jvm.MethodName) jdk_52_method_16_code (6 : Nat) (Option.some (Jvm.ClassFile.FieldType.array Jvm.ClassFile.FieldType.byte)), Jvm.Cond.code ({ cls := "java/lang/StringUTF16", name := "compress", desc := "([CI[BII)I" } : Jvm.MethodName) jdk_52_method_21_code (7 : Nat) (Option.some Jvm.ClassFile.FieldType.int), Jvm.Cond.code ({ cls := "java/lang/StringUTF16", name := "coderFromArrayLen", desc := "([BI)B" } : Jvm.MethodName) jdk_52_method_15_code (2 : Nat) (Option.some Jvm.ClassFile.FieldType.byte), Jvm.Cond.code ({ cls := "com/example/semblance/semblance/QueryTokens", name := "position", desc := "(Ljava/lang/String;I)Lcom/example/semblance/semblance/QueryTokens$Position;" } : Jvm.MethodName) prog_7_method_4_code (5 : Nat) (Option.some (Jvm.ClassFile.FieldType.object "com/example/semblance/semblance/QueryTokens$Position")), Jvm.Cond.code ({ cls := "java/lang/String", name := "charAt", desc := "(I)C" } : Jvm.MethodName) jdk_42_method_56_code (2 : Nat) (Option.some Jvm.ClassFile.FieldType.char), Jvm.Cond.code ({ cls := "java/lang/String", name := "isLatin1", desc := "()Z" } : Jvm.MethodName) jdk_42_method_154_code (1 : Nat) (Option.some Jvm.ClassFile.FieldType.boolean), Jvm.Cond.code ({ cls := "java/lang/StringLatin1", name := "charAt", desc := "([BI)C" } : Jvm.MethodName) jdk_43_method_2_code (2 : Nat) (Option.some Jvm.ClassFile.FieldType.char), Jvm.Cond.code ({ cls := "java/lang/String", name := "checkIndex", desc := "(II)V" } : Jvm.MethodName) jdk_42_method_155_code (2 : Nat) (Option.none : Option Jvm.ClassFile.FieldType), Jvm.Cond.code ({ cls := "jdk/internal/util/Preconditions", name := "checkIndex", desc := "(IILjava/util/function/BiFunction;)I" } : Jvm.MethodName) jdk_41_method_11_code (3 : Nat) (Option.some Jvm.ClassFile.FieldType.int), Jvm.Cond.code ({ cls := "com/example/semblance/semblance/QueryTokens$Position", name := "<init>", desc := "(II)V" } : Jvm.MethodName) prog_9_method_1_code (3 : Nat) (Option.none : Option Jvm.ClassFile.FieldType), Jvm.Cond.code ({ cls := "java/lang/Record", name := "<init>", desc := "()V" } : Jvm.MethodName) jdk_30_method_1_code (1 : Nat) (Option.none : Option Jvm.ClassFile.FieldType), Jvm.Cond.code ({ cls := "com/example/semblance/semblance/QueryTokensPositionPinLaw", name := "nl", desc := "([CII)I" } : Jvm.MethodName) method_3_code (3 : Nat) (Option.some Jvm.ClassFile.FieldType.int), Jvm.Cond.code ({ cls := "com/example/semblance/semblance/QueryTokens$Position", name := "line", desc := "()I" } : Jvm.MethodName) prog_9_method_5_code (1 : Nat) (Option.some Jvm.ClassFile.FieldType.int), Jvm.Cond.code ({ cls := "com/example/semblance/semblance/QueryTokens$Position", name := "column", desc := "()I" } : Jvm.MethodName) prog_9_method_6_code (1 : Nat) (Option.some Jvm.ClassFile.FieldType.int), Jvm.Cond.code ({ cls := "java/lang/StringUTF16", name := "toBytes", desc := "([CII)[B" } : Jvm.MethodName) jdk_52_method_14_code (5 : Nat) (Option.some (Jvm.ClassFile.FieldType.array Jvm.ClassFile.FieldType.byte)), Jvm.Cond.code ({ cls := "java/lang/StringUTF16", name := "newBytesFor", desc := "(I)[B" } : Jvm.MethodName) jdk_52_method_2_code (1 : Nat) (Option.some (Jvm.ClassFile.FieldType.array Jvm.ClassFile.FieldType.byte)), Jvm.Cond.code ({ cls := "java/lang/StringUTF16", name := "newBytesLength", desc := "(I)I" } : Jvm.MethodName) jdk_52_method_3_code (1 : Nat) (Option.some Jvm.ClassFile.FieldType.int), Jvm.Cond.code ({ cls := "java/lang/StringUTF16", name := "putChar", desc := "([BII)V" } : Jvm.MethodName) jdk_52_method_4_code (3 : Nat) (Option.none : Option Jvm.ClassFile.FieldType), Jvm.Cond.code ({ cls := "java/lang/StringUTF16", name := "getChar", desc := "([BI)C" } : Jvm.MethodName) jdk_52_method_5_code (2 : Nat) (Option.some Jvm.ClassFile.FieldType.char), Jvm.Cond.code ({ cls := "java/lang/StringUTF16", name := "charAt", desc := "([BI)C" } : Jvm.MethodName) jdk_52_method_83_code (2 : Nat) (Option.some Jvm.ClassFile.FieldType.char), Jvm.Cond.code ({ cls := "java/lang/StringUTF16", name := "checkIndex", desc := "(I[B)V" } : Jvm.MethodName) jdk_52_method_91_code (2 : Nat) (Option.none : Option Jvm.ClassFile.FieldType), Jvm.Cond.code ({ cls := "java/lang/StringUTF16", name := "length", desc := "([B)I" } : Jvm.MethodName) jdk_52_method_6_code (1 : Nat) (Option.some Jvm.ClassFile.FieldType.int)]
set_option maxRecDepth 65536 in
theorem codes_eq : words1.filter isCode = codes1 := rfl
theorem w_codes : ∀ c ∈ words1.filter isCode, c.before args0 about1 = true := by
  rw [codes_eq]
  intro c hc
  simp only [codes1, List.mem_cons, List.not_mem_nil, or_false] at hc
  rcases hc with rfl | rfl | rfl | rfl | rfl | rfl | rfl | rfl | rfl | rfl | rfl | rfl | rfl | rfl | rfl | rfl | rfl | rfl | rfl | rfl | rfl | rfl | rfl | rfl | rfl | rfl | rfl
  · exact w_c0
  · exact w_c1
  · exact w_c2
  · exact w_c3
  · exact w_c4
  · exact w_c5
  · exact w_c6
  · exact w_c7
  · exact w_c8
  · exact w_c9
  · exact w_c10
  · exact w_c11
  · exact w_c12
  · exact w_c13
  · exact w_c14
  · exact w_c15
  · exact w_c16
  · exact w_c17
  · exact w_c18
  · exact w_c19
  · exact w_c20
  · exact w_c21
  · exact w_c22
  · exact w_c23
  · exact w_c24
  · exact w_c25
  · exact w_c26
set_option maxRecDepth 65536 in
theorem w_t1 : (words1.take 24).all (fun c => isCode c || c.before args0 about1) = true := by decide +kernel
set_option maxRecDepth 65536 in
theorem w_t2 : ((words1.drop 24).take 24).all (fun c => isCode c || c.before args0 about1) = true := by decide +kernel
set_option maxRecDepth 65536 in
theorem w_t3 : (((words1.drop 24).drop 24).take 24).all (fun c => isCode c || c.before args0 about1) = true := by decide +kernel
set_option maxRecDepth 65536 in
theorem w_t4 : ((((words1.drop 24).drop 24).drop 24).take 24).all (fun c => isCode c || c.before args0 about1) = true := by decide +kernel
set_option maxRecDepth 65536 in
theorem w_t5 : (((((words1.drop 24).drop 24).drop 24).drop 24).take 24).all (fun c => isCode c || c.before args0 about1) = true := by decide +kernel
set_option maxRecDepth 65536 in
theorem w_t6 : (((((words1.drop 24).drop 24).drop 24).drop 24).drop 24).all (fun c => isCode c || c.before args0 about1) = true := by decide +kernel
theorem w_tables : (allAtoms (Jvm.Cond.code x code maxLocals ret :: tables_1)).before args0 about1 = true := by
  rw [allAtoms_all]
  show words1.all (fun c => c.before args0 about1) = true
  refine all_split ?_ w_codes
  rw [← List.take_append_drop 24 words1, List.all_append, w_t1, ← List.take_append_drop 24 (words1.drop 24), List.all_append, w_t2, ← List.take_append_drop 24 ((words1.drop 24).drop 24), List.all_append, w_t3, ← List.take_append_drop 24 (((words1.drop 24).drop 24).drop 24), List.all_append, w_t4, ← List.take_append_drop 24 ((((words1.drop 24).drop 24).drop 24).drop 24), List.all_append, w_t5, w_t6]
  rfl
set_option maxRecDepth 65536 in
theorem w_rest : rest_1_c.before args0 about1 = true := by decide +kernel
set_option maxRecDepth 65536 in
theorem w_case : (Jvm.Cond.and given_1 narrow_1).before args0 about1 = true := by decide +kernel
theorem w_applies : (headSpec (Jvm.Cond.code x code maxLocals ret :: tables_1) room_1).applies x e0.platform about1 = true :=
  (Spec.applies_iff w_frames).mpr ⟨w_running, w_runnable, w_alone, w_named, w_hears, w_ripe, w_room, w_tables⟩
theorem atStart : AtStart classFile x code maxLocals ret World_1 tables_1 room_1 Calls_1 rest_1 Pre_1 launch0 p0 e0 about1 theMethod args0 below0 :=
  ⟨lists_1, trivial, launch0.admits_env _ _ _, launch0.least_env, fairChoices_fair.cas, fairChoices_fair.clock, w_frames, w_args, w_heap, w_applies, trivial, w_rest, w_case⟩
end start1
theorem witness_1 : WitnessClaimed_1 := ⟨start1.p0, start1.e0, start1.about1, start1.theMethod, start1.args0, start1.below0, start1.atStart⟩
end Jvm.Pilot.@@N@@
