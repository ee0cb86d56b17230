import JvmDerived
import JvmDerived.Pilot.@@N@@Statement
import JvmDerived.Pilot.@@N@@Code
set_option linter.unusedVariables false
set_option linter.unusedSimpArgs false
namespace Jvm.Pilot.@@N@@
open Jvm Jvm.ClassFile Sem Op Lib Jvm.Free Jvm.Stand Jvm.LawKit Jvm.RoadKit Bundle Jvm.Pilot.@@N@@.Jvm.D
section Own
variable {p : Program} {l : Launch} {e : Env} {R : Room} {s : State} {m : MethodId} {args : Array Value} {below : List Frame} {meth : Method} {c : Code} {T T' : State} {cells slots : Nat} {Z : State} {bytes : ByteArray} {mL : Nat} {ret : Option FieldType} {own nm : String} {Q : Option Value → Heap → Prop} {cC cS : Nat} {pc : Nat} {Ls : Array Slot} {st : List Value} {a0 : Array Value} {g g' : JFrame}
/-- the walk stands at T, so many cells and slots made, nothing old written -/
def Wk (l : Launch) (Z : State) (R : Room) (bytes : ByteArray) (mL : Nat) (ret : Option FieldType) (own nm : String) (p : Program) (e : Env) (s : State) (m : MethodId) (args : Array Value) (below : List Frame) (meth : Method) (c : Code) (T : State) (cells slots : Nat) : Prop :=
  (p.tables.exec = Jvm.exec ∧ c.code = bytes ∧ c.maxLocals = mL ∧ meth.sig.returnType = ret ∧ meth.locks = false ∧ s.vm.findClass own = some m.cls ∧ meth.name = nm ∧ Z.Warmed39 s.vm) ∧
  ∃ locs, Stand p l e R s m args below meth c T locs cells slots ∧ Fr Z.heap.size locs ∧ Ext Z.heap T.heap
/-- from T with frame g the method comes to its end, and Q holds there -/
def Ends (p : Program) (e : Env) (below : List Frame) (s : State) (Z : State) (Q : Option Value → Heap → Prop) (cC cS : Nat) (T : State) (g : JFrame) : Prop :=
  ∃ t o, Steps p.tables e below (T.setTop g) t ∧ t.status = .running ∧ Ended t below o ∧ ∃ v L, o = .returned v ∧ (Fr Z.heap.size L ∧ Ext Z.heap t.heap ∧ Q v t.heap) ∧ FrameEnd s o t L cC cS
/-- a method's contract -/
def Ct (l : Launch) (Z : State) (y : MethodName) (bytes : ByteArray) (mL : Nat) (ret : Option FieldType) (rm : Room) (as' : Array Value) (h : Heap) (Q : Option Value → Heap → Prop) : Prop :=
  ∀ ws, MetFree l y (head1 (Jvm.Cond.code y bytes mL ret :: ws) rm) (fun a U => a = as' ∧ Z.Warmed39 U.vm ∧ U.heap = h) (fun _ _ _ _ _ => True) (fun _ U o U' => ∃ v L, o = .returned v ∧ (Fr Z.heap.size L ∧ Ext Z.heap U'.heap ∧ Q v U'.heap) ∧ FrameEnd U o U' L rm.cells rm.slots)
theorem Wk.hx (X : Wk l Z R bytes mL ret own nm p e s m args below meth c T cells slots) : p.tables.exec = Jvm.exec := X.1.1
theorem Wk.hb (X : Wk l Z R bytes mL ret own nm p e s m args below meth c T cells slots) {pc : Nat} {r : Except DecodeError (Instr × Nat)} (h : decode bytes pc = r) : decode c.code pc = r := X.1.2.1 ▸ h
theorem Wk.hown (X : Wk l Z R bytes mL ret own nm p e s m args below meth c T cells slots) : s.vm.findClass own = some m.cls := X.1.2.2.2.2.2.1
theorem Wk.hZ (X : Wk l Z R bytes mL ret own nm p e s m args below meth c T cells slots) : Z.Warmed39 s.vm := X.1.2.2.2.2.2.2.2
theorem Wk.at (X : Wk l Z R bytes mL ret own nm p e s m args below meth c T cells slots) : At T m c below := by obtain ⟨-, _, X, -⟩ := X; exact X.here
theorem Wk.old (X : Wk l Z R bytes mL ret own nm p e s m args below meth c T cells slots) : Ext Z.heap T.heap := by obtain ⟨-, _, -, -, X⟩ := X; exact X
theorem Wk.le (X : Wk l Z R bytes mL ret own nm p e s m args below meth c T cells slots) : Z.heap.size ≤ T.heap.size := X.old.1
theorem Wk.size (X : Wk l Z R bytes mL ret own nm p e s m args below meth c T cells slots) (h : Ls.size = mL) {pc : Nat} {st : List Value} : (mkF m pc Ls st).locals.size = c.maxLocals := h.trans X.1.2.2.1.symm
theorem Wk.more (X : Wk l Z R bytes mL ret own nm p e s m args below meth c T cells slots) {cells' slots' : Nat} (h1 : cells ≤ cells') (h2 : slots ≤ slots') : Wk l Z R bytes mL ret own nm p e s m args below meth c T cells' slots' := by
  obtain ⟨q, locs, Y, r⟩ := X; exact ⟨q, locs, Y.more h1 h2, r⟩
theorem E_by (f : ∀ target, Steps p.tables e below (T'.setTop g') target → Steps p.tables e below (T.setTop g) target) (k : Ends p e below s Z Q cC cS T' g') : Ends p e below s Z Q cC cS T g := by
  obtain ⟨t, o, h1, r⟩ := k; exact ⟨t, o, f _ h1, r⟩
theorem E_tr (f : Steps p.tables e below (T.setTop g) (T'.setTop g')) (k : Ends p e below s Z Q cC cS T' g') : Ends p e below s Z Q cC cS T g := E_by (fun _ q => f.trans q) k
theorem Keep.of_ext {h h' : Heap} (E : Ext h h') : Keep h h' [] := (Keep.refl h []).ext E
theorem own_keq {h h1 h2 : Heap} {ws : List Addr} (K : Keep h h1 ws) (q : h2 = h1) : Keep h h2 ws := q ▸ K
theorem Keep.old {h h' : Heap} {ws : List Addr} (O : Ext Z.heap h) (K : Keep h h' ws) (q : ∀ x ∈ ws, Z.heap.size ≤ x) : Ext Z.heap h' := ⟨Nat.le_trans O.1 K.1, fun x c r => K.2.1 x c (O.2 x c r) fun z => absurd (Array.getElem?_eq_some_iff.mp r).1 (Nat.not_lt.mpr (q x z))⟩
theorem Ct.of_body {y1 y2 y3 : String} {rm : Room} {as' : Array Value} {h : Heap} (pn : plainFor ⟨y1, y2, y3⟩ = true) (O : Ext Z.heap h) (ef : ∀ m, entryFrame m as' mL = mkF m 0 Ls [])
    (k : ∀ {p : Program} {e : Env} {s : State} {m : MethodId} {below : List Frame} {meth : Method} {c : Code} {T : State}, Wk l Z rm bytes mL ret y1 y2 p e s m as' below meth c T 0 0 → T.heap = h → Ends p e below s Z Q rm.cells rm.slots T (mkF m 0 Ls [])) : Ct l Z ⟨y1, y2, y3⟩ bytes mL ret rm as' h Q := by
  intro ws
  refine MetFree.of_bodySF pn hisR ?_
  intro p e s m args below meth c s₁ Bd hml0 hP hK
  obtain ⟨rfl, hZ, hh⟩ := hP
  have e0 : s₁.heap = h := by rw [← hh, Bd.state]; rfl
  have X : Wk l Z rm bytes mL ret y1 y2 p e s m args below meth c s₁ 0 0 := ⟨⟨Bd.exec, Bd.bytes, hml0, Bd.returns, Bd.notSynchronized, findClass_of_methodNamed Bd.named, (name_of_methodNamed Bd.named Bd.method).1, hZ⟩, [], Stand.of_body Bd, Fr.nil _, e0 ▸ O⟩
  obtain ⟨t, o, h1, r⟩ := k X e0
  exact ⟨t, o, castTop (ef m) h1, r⟩
theorem Ct.back {y : MethodName} {rm : Room} {as' : Array Value} {h : Heap} {mL' : Nat} {bytes' : ByteArray} {ret' : Option FieldType} {Q' : Option Value → Heap → Prop} (hC : Ct l Z y bytes' mL' ret' rm as' h Q') {len W : Nat}
    (hZ : Z.Warmed39 s.vm) (wc : (Jvm.Cond.code y bytes' mL' ret').before a0 Z = true) (wz : (Jvm.Cond.initialized y.cls).before a0 Z = true) (hf : rm.frames + 1 ≤ R.frames) (hl : W + (mL' + 11) + rm.locals ≤ R.locals) :
    Back l R p e below s args y len W (fun A a => a = as' ∧ A.U.heap = h ∧ A.cells + rm.cells ≤ R.cells ∧ A.slots + rm.slots ≤ R.slots)
      (fun A _ v B => ∃ L, (Fr Z.heap.size L ∧ Ext Z.heap B.U.heap ∧ Q' v B.U.heap) ∧ B.locs = A.locs ++ L ∧ B.cells = A.cells + rm.cells ∧ B.slots = A.slots + rm.slots) :=
  backOf (Q := fun v h L => Fr Z.heap.size L ∧ Ext Z.heap h ∧ Q' v h) (hC []) hZ wc wz hf hl

theorem E_aloadN (X : Wk l Z R bytes mL ret own nm p e s m args below meth c T cells slots) {j : Fin 4} {v : Value} (hd : decode bytes pc = .ok (.aload_n j, 1)) (hl : Ls[j.val]? = some (.val v)) (hv : v.isRef = true) {pc' : Nat} (hp : pc + 1 = pc') (k : Ends p e below s Z Q cC cS T (mkF m pc' Ls (v :: st))) : Ends p e below s Z Q cC cS T (mkF m pc Ls (st)) := by
  subst hp; exact E_by (fun _ q => XS.aloadN X.at X.hx rfl (X.hb hd) hl hv q) k
theorem E_aload (X : Wk l Z R bytes mL ret own nm p e s m args below meth c T cells slots) {j : Nat} {v : Value} (hd : decode bytes pc = .ok (.aload j, 2)) (hl : Ls[j]? = some (.val v)) (hv : v.isRef = true) {pc' : Nat} (hp : pc + 2 = pc') (k : Ends p e below s Z Q cC cS T (mkF m pc' Ls (v :: st))) : Ends p e below s Z Q cC cS T (mkF m pc Ls (st)) := by
  subst hp; exact E_by (fun _ q => XS.aload X.at X.hx rfl (X.hb hd) hl hv q) k
theorem E_iloadN (X : Wk l Z R bytes mL ret own nm p e s m args below meth c T cells slots) {j : Fin 4} {v : Int32} (hd : decode bytes pc = .ok (.iload_n j, 1)) (hl : Ls[j.val]? = some (.val (.int v))) {pc' : Nat} (hp : pc + 1 = pc') (k : Ends p e below s Z Q cC cS T (mkF m pc' Ls (.int v :: st))) : Ends p e below s Z Q cC cS T (mkF m pc Ls (st)) := by
  subst hp; exact E_by (fun _ q => XS.iloadN X.at X.hx rfl (X.hb hd) hl q) k
theorem E_iload (X : Wk l Z R bytes mL ret own nm p e s m args below meth c T cells slots) {j : Nat} {v : Int32} (hd : decode bytes pc = .ok (.iload j, 2)) (hl : Ls[j]? = some (.val (.int v))) {pc' : Nat} (hp : pc + 2 = pc') (k : Ends p e below s Z Q cC cS T (mkF m pc' Ls (.int v :: st))) : Ends p e below s Z Q cC cS T (mkF m pc Ls (st)) := by
  subst hp; exact E_by (fun _ q => XS.iload X.at X.hx rfl (X.hb hd) hl q) k
theorem E_aconstNull (X : Wk l Z R bytes mL ret own nm p e s m args below meth c T cells slots) (hd : decode bytes pc = .ok (.aconst_null, 1)) {pc' : Nat} (hp : pc + 1 = pc') (k : Ends p e below s Z Q cC cS T (mkF m pc' Ls (.null :: st))) : Ends p e below s Z Q cC cS T (mkF m pc Ls (st)) := by
  subst hp; exact E_by (fun _ q => XS.aconstNull X.at X.hx rfl (X.hb hd) q) k
theorem E_iconst (X : Wk l Z R bytes mL ret own nm p e s m args below meth c T cells slots) {i : Int} {v : Int32} (hd : decode bytes pc = .ok (.iconst i, 1)) (hv : Int32.ofInt i = v) {pc' : Nat} (hp : pc + 1 = pc') (k : Ends p e below s Z Q cC cS T (mkF m pc' Ls (.int v :: st))) : Ends p e below s Z Q cC cS T (mkF m pc Ls st) := by
  subst hp hv; exact E_by (fun _ q => XS.iconst X.at X.hx rfl (X.hb hd) q) k
theorem E_bipush (X : Wk l Z R bytes mL ret own nm p e s m args below meth c T cells slots) {i : Int} {v : Int32} (hd : decode bytes pc = .ok (.bipush i, 2)) (hv : (Int8.ofInt i).toInt32 = v) {pc' : Nat} (hp : pc + 2 = pc') (k : Ends p e below s Z Q cC cS T (mkF m pc' Ls (.int v :: st))) : Ends p e below s Z Q cC cS T (mkF m pc Ls st) := by
  subst hp hv; exact E_by (fun _ q => XS.bipush X.at X.hx rfl (X.hb hd) q) k
theorem E_sipush (X : Wk l Z R bytes mL ret own nm p e s m args below meth c T cells slots) {i : Int} {v : Int32} (hd : decode bytes pc = .ok (.sipush i, 3)) (hv : (Int16.ofInt i).toInt32 = v) {pc' : Nat} (hp : pc + 3 = pc') (k : Ends p e below s Z Q cC cS T (mkF m pc' Ls (.int v :: st))) : Ends p e below s Z Q cC cS T (mkF m pc Ls st) := by
  subst hp hv; exact E_by (fun _ q => XS.sipush X.at X.hx rfl (X.hb hd) q) k
theorem E_iadd (X : Wk l Z R bytes mL ret own nm p e s m args below meth c T cells slots) {x y v : Int32} (hd : decode bytes pc = .ok (.iadd, 1)) (hv : x + y = v) {pc' : Nat} (hp : pc + 1 = pc') (k : Ends p e below s Z Q cC cS T (mkF m pc' Ls (.int v :: st))) : Ends p e below s Z Q cC cS T (mkF m pc Ls (.int y :: .int x :: st)) := by
  subst hp hv; exact E_by (fun _ q => XS.iadd X.at X.hx rfl (X.hb hd) rfl q) k
theorem E_isub (X : Wk l Z R bytes mL ret own nm p e s m args below meth c T cells slots) {x y v : Int32} (hd : decode bytes pc = .ok (.isub, 1)) (hv : x - y = v) {pc' : Nat} (hp : pc + 1 = pc') (k : Ends p e below s Z Q cC cS T (mkF m pc' Ls (.int v :: st))) : Ends p e below s Z Q cC cS T (mkF m pc Ls (.int y :: .int x :: st)) := by
  subst hp hv; exact E_by (fun _ q => XS.isub X.at X.hx rfl (X.hb hd) rfl q) k
theorem E_imul (X : Wk l Z R bytes mL ret own nm p e s m args below meth c T cells slots) {x y v : Int32} (hd : decode bytes pc = .ok (.imul, 1)) (hv : x * y = v) {pc' : Nat} (hp : pc + 1 = pc') (k : Ends p e below s Z Q cC cS T (mkF m pc' Ls (.int v :: st))) : Ends p e below s Z Q cC cS T (mkF m pc Ls (.int y :: .int x :: st)) := by
  subst hp hv; exact E_by (fun _ q => XS.imul X.at X.hx rfl (X.hb hd) rfl q) k
theorem E_iand (X : Wk l Z R bytes mL ret own nm p e s m args below meth c T cells slots) {x y v : Int32} (hd : decode bytes pc = .ok (.iand, 1)) (hv : x &&& y = v) {pc' : Nat} (hp : pc + 1 = pc') (k : Ends p e below s Z Q cC cS T (mkF m pc' Ls (.int v :: st))) : Ends p e below s Z Q cC cS T (mkF m pc Ls (.int y :: .int x :: st)) := by
  subst hp hv; exact E_by (fun _ q => XS.iand X.at X.hx rfl (X.hb hd) rfl q) k
theorem E_ior (X : Wk l Z R bytes mL ret own nm p e s m args below meth c T cells slots) {x y v : Int32} (hd : decode bytes pc = .ok (.ior, 1)) (hv : x ||| y = v) {pc' : Nat} (hp : pc + 1 = pc') (k : Ends p e below s Z Q cC cS T (mkF m pc' Ls (.int v :: st))) : Ends p e below s Z Q cC cS T (mkF m pc Ls (.int y :: .int x :: st)) := by
  subst hp hv; exact E_by (fun _ q => XS.ior X.at X.hx rfl (X.hb hd) rfl q) k
theorem E_ixor (X : Wk l Z R bytes mL ret own nm p e s m args below meth c T cells slots) {x y v : Int32} (hd : decode bytes pc = .ok (.ixor, 1)) (hv : x ^^^ y = v) {pc' : Nat} (hp : pc + 1 = pc') (k : Ends p e below s Z Q cC cS T (mkF m pc' Ls (.int v :: st))) : Ends p e below s Z Q cC cS T (mkF m pc Ls (.int y :: .int x :: st)) := by
  subst hp hv; exact E_by (fun _ q => XS.ixor X.at X.hx rfl (X.hb hd) rfl q) k
theorem E_ishl (X : Wk l Z R bytes mL ret own nm p e s m args below meth c T cells slots) {x y v : Int32} (hd : decode bytes pc = .ok (.ishl, 1)) (hv : x <<< (y &&& 31) = v) {pc' : Nat} (hp : pc + 1 = pc') (k : Ends p e below s Z Q cC cS T (mkF m pc' Ls (.int v :: st))) : Ends p e below s Z Q cC cS T (mkF m pc Ls (.int y :: .int x :: st)) := by
  subst hp hv; exact E_by (fun _ q => XS.ishl X.at X.hx rfl (X.hb hd) rfl q) k
theorem E_ishr (X : Wk l Z R bytes mL ret own nm p e s m args below meth c T cells slots) {x y v : Int32} (hd : decode bytes pc = .ok (.ishr, 1)) (hv : x >>> (y &&& 31) = v) {pc' : Nat} (hp : pc + 1 = pc') (k : Ends p e below s Z Q cC cS T (mkF m pc' Ls (.int v :: st))) : Ends p e below s Z Q cC cS T (mkF m pc Ls (.int y :: .int x :: st)) := by
  subst hp hv; exact E_by (fun _ q => XS.ishr X.at X.hx rfl (X.hb hd) rfl q) k
theorem E_iushr (X : Wk l Z R bytes mL ret own nm p e s m args below meth c T cells slots) {x y v : Int32} (hd : decode bytes pc = .ok (.iushr, 1)) (hv : (x.toUInt32 >>> (y &&& 31).toUInt32).toInt32 = v) {pc' : Nat} (hp : pc + 1 = pc') (k : Ends p e below s Z Q cC cS T (mkF m pc' Ls (.int v :: st))) : Ends p e below s Z Q cC cS T (mkF m pc Ls (.int y :: .int x :: st)) := by
  subst hp hv; exact E_by (fun _ q => XS.iushr X.at X.hx rfl (X.hb hd) rfl q) k
theorem E_ineg (X : Wk l Z R bytes mL ret own nm p e s m args below meth c T cells slots) {x v : Int32} (hd : decode bytes pc = .ok (.ineg, 1)) (hv : -x = v) {pc' : Nat} (hp : pc + 1 = pc') (k : Ends p e below s Z Q cC cS T (mkF m pc' Ls (.int v :: st))) : Ends p e below s Z Q cC cS T (mkF m pc Ls (.int x :: st)) := by
  subst hp hv; exact E_by (fun _ q => XS.ineg X.at X.hx rfl (X.hb hd) rfl q) k
theorem E_i2c (X : Wk l Z R bytes mL ret own nm p e s m args below meth c T cells slots) {x v : Int32} (hd : decode bytes pc = .ok (.i2c, 1)) (hv : x.toUInt32.toUInt16.toUInt32.toInt32 = v) {pc' : Nat} (hp : pc + 1 = pc') (k : Ends p e below s Z Q cC cS T (mkF m pc' Ls (.int v :: st))) : Ends p e below s Z Q cC cS T (mkF m pc Ls (.int x :: st)) := by
  subst hp hv; exact E_by (fun _ q => XS.i2c X.at X.hx rfl (X.hb hd) rfl q) k
theorem E_i2b (X : Wk l Z R bytes mL ret own nm p e s m args below meth c T cells slots) {x v : Int32} (hd : decode bytes pc = .ok (.i2b, 1)) (hv : x.toInt8.toInt32 = v) {pc' : Nat} (hp : pc + 1 = pc') (k : Ends p e below s Z Q cC cS T (mkF m pc' Ls (.int v :: st))) : Ends p e below s Z Q cC cS T (mkF m pc Ls (.int x :: st)) := by
  subst hp hv; exact E_by (fun _ q => XS.i2b X.at X.hx rfl (X.hb hd) rfl q) k
theorem E_i2s (X : Wk l Z R bytes mL ret own nm p e s m args below meth c T cells slots) {x v : Int32} (hd : decode bytes pc = .ok (.i2s, 1)) (hv : x.toInt16.toInt32 = v) {pc' : Nat} (hp : pc + 1 = pc') (k : Ends p e below s Z Q cC cS T (mkF m pc' Ls (.int v :: st))) : Ends p e below s Z Q cC cS T (mkF m pc Ls (.int x :: st)) := by
  subst hp hv; exact E_by (fun _ q => XS.i2s X.at X.hx rfl (X.hb hd) rfl q) k
theorem E_dup (X : Wk l Z R bytes mL ret own nm p e s m args below meth c T cells slots) {v : Value} (hd : decode bytes pc = .ok (.dup, 1)) (hc : v.category = 1) {pc' : Nat} (hp : pc + 1 = pc') (k : Ends p e below s Z Q cC cS T (mkF m pc' Ls (v :: v :: st))) : Ends p e below s Z Q cC cS T (mkF m pc Ls (v :: st)) := by
  subst hp; exact E_by (fun _ q => XS.dup X.at X.hx rfl (X.hb hd) rfl hc q) k
theorem E_pop (X : Wk l Z R bytes mL ret own nm p e s m args below meth c T cells slots) {v : Value} (hd : decode bytes pc = .ok (.pop, 1)) (hc : v.category = 1) {pc' : Nat} (hp : pc + 1 = pc') (k : Ends p e below s Z Q cC cS T (mkF m pc' Ls (st))) : Ends p e below s Z Q cC cS T (mkF m pc Ls (v :: st)) := by
  subst hp; exact E_by (fun _ q => XS.pop X.at X.hx rfl (X.hb hd) rfl hc q) k
theorem E_istoreN (X : Wk l Z R bytes mL ret own nm p e s m args below meth c T cells slots) {j : Fin 4} {x : Int32} (hd : decode bytes pc = .ok (.istore_n j, 1)) {l' : Array Slot} (hl : storeLocals Ls j.val (.int x) = some l') {pc' : Nat} (hp : pc + 1 = pc') (k : Ends p e below s Z Q cC cS T (mkF m pc' l' (st))) : Ends p e below s Z Q cC cS T (mkF m pc Ls (.int x :: st)) := by
  subst hp; exact E_by (fun _ q => XS.istoreN X.at X.hx rfl (X.hb hd) rfl hl q) k
theorem E_istore (X : Wk l Z R bytes mL ret own nm p e s m args below meth c T cells slots) {j : Nat} {x : Int32} (hd : decode bytes pc = .ok (.istore j, 2)) {l' : Array Slot} (hl : storeLocals Ls j (.int x) = some l') {pc' : Nat} (hp : pc + 2 = pc') (k : Ends p e below s Z Q cC cS T (mkF m pc' l' (st))) : Ends p e below s Z Q cC cS T (mkF m pc Ls (.int x :: st)) := by
  subst hp; exact E_by (fun _ q => XS.istore X.at X.hx rfl (X.hb hd) rfl hl q) k
theorem E_astoreN (X : Wk l Z R bytes mL ret own nm p e s m args below meth c T cells slots) {j : Fin 4} {x : Value} (hd : decode bytes pc = .ok (.astore_n j, 1)) (hv : x.isRef = true) {l' : Array Slot} (hl : storeLocals Ls j.val x = some l') {pc' : Nat} (hp : pc + 1 = pc') (k : Ends p e below s Z Q cC cS T (mkF m pc' l' (st))) : Ends p e below s Z Q cC cS T (mkF m pc Ls (x :: st)) := by
  subst hp; exact E_by (fun _ q => XS.astoreN X.at X.hx rfl (X.hb hd) rfl hv hl q) k
theorem E_astore (X : Wk l Z R bytes mL ret own nm p e s m args below meth c T cells slots) {j : Nat} {x : Value} (hd : decode bytes pc = .ok (.astore j, 2)) (hv : x.isRef = true) {l' : Array Slot} (hl : storeLocals Ls j x = some l') {pc' : Nat} (hp : pc + 2 = pc') (k : Ends p e below s Z Q cC cS T (mkF m pc' l' (st))) : Ends p e below s Z Q cC cS T (mkF m pc Ls (x :: st)) := by
  subst hp; exact E_by (fun _ q => XS.astore X.at X.hx rfl (X.hb hd) rfl hv hl q) k
theorem E_iinc (X : Wk l Z R bytes mL ret own nm p e s m args below meth c T cells slots) {j : Nat} {i : Int} {x y : Int32} (hd : decode bytes pc = .ok (.iinc j i, 3)) (hy : x + Int32.ofInt i = y) (hl : Ls[j]? = some (.val (.int x))) {l' : Array Slot} (hl' : storeLocals Ls j (.int y) = some l') {pc' : Nat} (hp : pc + 3 = pc') (k : Ends p e below s Z Q cC cS T (mkF m pc' l' st)) : Ends p e below s Z Q cC cS T (mkF m pc Ls st) := by
  subst hp hy; exact E_by (fun _ q => XS.iinc X.at X.hx rfl (X.hb hd) hl hl' q) k
theorem E_irem (X : Wk l Z R bytes mL ret own nm p e s m args below meth c T cells slots) {x y v : Int32} (hd : decode bytes pc = .ok (.irem, 1)) (hy : y ≠ 0) (hv : x % y = v) {pc' : Nat} (hp : pc + 1 = pc') (k : Ends p e below s Z Q cC cS T (mkF m pc' Ls (.int v :: st))) : Ends p e below s Z Q cC cS T (mkF m pc Ls (.int y :: .int x :: st)) := by
  subst hp hv; obtain ⟨q, locs, Y, r⟩ := id X; exact E_by (fun _ k => iremM Y X.hx rfl (X.hb hd) rfl hy k) k
theorem E_idiv (X : Wk l Z R bytes mL ret own nm p e s m args below meth c T cells slots) {x y v : Int32} (hd : decode bytes pc = .ok (.idiv, 1)) (hy : y ≠ 0) (hv : x / y = v) {pc' : Nat} (hp : pc + 1 = pc') (k : Ends p e below s Z Q cC cS T (mkF m pc' Ls (.int v :: st))) : Ends p e below s Z Q cC cS T (mkF m pc Ls (.int y :: .int x :: st)) := by
  subst hp hv; exact E_by (fun _ k => XS.idiv X.at X.hx rfl (X.hb hd) rfl hy k) k
theorem E_goto (X : Wk l Z R bytes mL ret own nm p e s m args below meth c T cells slots) {o : Int} (hd : decode bytes pc = .ok (.goto o, 3)) {pc' : Nat} (ho : 0 ≤ (pc : Int) + o) (hp : ((pc : Int) + o).toNat = pc') (k : Ends p e below s Z Q cC cS T (mkF m pc' Ls st)) : Ends p e below s Z Q cC cS T (mkF m pc Ls st) :=
  E_by (fun _ q => XS.goto X.at X.hx rfl (pc0 := pc) rfl (X.hb hd) ho hp q) k
theorem E_ifT (X : Wk l Z R bytes mL ret own nm p e s m args below meth c T cells slots) {cd : ClassFile.Cond} {o : Int} {x : Int32} (hd : decode bytes pc = .ok (.ifCond cd o, 3)) (hc : ifCond.holds cd x = true) {pc' : Nat} (ho : 0 ≤ (pc : Int) + o) (hp : ((pc : Int) + o).toNat = pc') (k : Ends p e below s Z Q cC cS T (mkF m pc' Ls st)) : Ends p e below s Z Q cC cS T (mkF m pc Ls (.int x :: st)) :=
  E_by (fun _ q => XS.ifYes X.at X.hx rfl (pc0 := pc) rfl (X.hb hd) rfl hc ho hp q) k
theorem E_ifF (X : Wk l Z R bytes mL ret own nm p e s m args below meth c T cells slots) {cd : ClassFile.Cond} {o : Int} {x : Int32} (hd : decode bytes pc = .ok (.ifCond cd o, 3)) (hc : ifCond.holds cd x = false) {pc' : Nat} (hp : pc + 3 = pc') (k : Ends p e below s Z Q cC cS T (mkF m pc' Ls st)) : Ends p e below s Z Q cC cS T (mkF m pc Ls (.int x :: st)) := by
  subst hp; exact E_by (fun _ q => XS.ifNo X.at X.hx rfl (X.hb hd) rfl hc q) k
theorem E_icT (X : Wk l Z R bytes mL ret own nm p e s m args below meth c T cells slots) {cd : ClassFile.Cond} {o : Int} {x y : Int32} (hd : decode bytes pc = .ok (.if_icmp cd o, 3)) (hc : if_icmp.holds cd x y = true) {pc' : Nat} (ho : 0 ≤ (pc : Int) + o) (hp : ((pc : Int) + o).toNat = pc') (k : Ends p e below s Z Q cC cS T (mkF m pc' Ls st)) : Ends p e below s Z Q cC cS T (mkF m pc Ls (.int y :: .int x :: st)) :=
  E_by (fun _ q => XS.icmpYes X.at X.hx rfl (pc0 := pc) rfl (X.hb hd) rfl hc ho hp q) k
theorem E_icF (X : Wk l Z R bytes mL ret own nm p e s m args below meth c T cells slots) {cd : ClassFile.Cond} {o : Int} {x y : Int32} (hd : decode bytes pc = .ok (.if_icmp cd o, 3)) (hc : if_icmp.holds cd x y = false) {pc' : Nat} (hp : pc + 3 = pc') (k : Ends p e below s Z Q cC cS T (mkF m pc' Ls st)) : Ends p e below s Z Q cC cS T (mkF m pc Ls (.int y :: .int x :: st)) := by
  subst hp; exact E_by (fun _ q => XS.icmpNo X.at X.hx rfl (X.hb hd) rfl hc q) k
theorem E_nullT (X : Wk l Z R bytes mL ret own nm p e s m args below meth c T cells slots) {o : Int} (hd : decode bytes pc = .ok (.ifnull o, 3)) {pc' : Nat} (ho : 0 ≤ (pc : Int) + o) (hp : ((pc : Int) + o).toNat = pc') (k : Ends p e below s Z Q cC cS T (mkF m pc' Ls st)) : Ends p e below s Z Q cC cS T (mkF m pc Ls (.null :: st)) :=
  E_by (fun _ q => XS.ifnullYes X.at X.hx rfl (pc0 := pc) rfl (X.hb hd) rfl ho hp q) k
theorem E_nullF (X : Wk l Z R bytes mL ret own nm p e s m args below meth c T cells slots) {o : Int} {b : Addr} (hd : decode bytes pc = .ok (.ifnull o, 3)) {pc' : Nat} (hp : pc + 3 = pc') (k : Ends p e below s Z Q cC cS T (mkF m pc' Ls st)) : Ends p e below s Z Q cC cS T (mkF m pc Ls (.ref b :: st)) := by
  subst hp; exact E_by (fun _ q => XS.ifnullNo X.at X.hx rfl (X.hb hd) rfl q) k
theorem E_nonnullT (X : Wk l Z R bytes mL ret own nm p e s m args below meth c T cells slots) {o : Int} {b : Addr} (hd : decode bytes pc = .ok (.ifnonnull o, 3)) {pc' : Nat} (ho : 0 ≤ (pc : Int) + o) (hp : ((pc : Int) + o).toNat = pc') (k : Ends p e below s Z Q cC cS T (mkF m pc' Ls st)) : Ends p e below s Z Q cC cS T (mkF m pc Ls (.ref b :: st)) :=
  E_by (fun _ q => XT.nonnullYes X.at X.hx rfl (pc0 := pc) rfl (X.hb hd) rfl rfl (fun q => nomatch q) ho hp q) k
theorem E_nonnullF (X : Wk l Z R bytes mL ret own nm p e s m args below meth c T cells slots) {o : Int} (hd : decode bytes pc = .ok (.ifnonnull o, 3)) {pc' : Nat} (hp : pc + 3 = pc') (k : Ends p e below s Z Q cC cS T (mkF m pc' Ls st)) : Ends p e below s Z Q cC cS T (mkF m pc Ls (.null :: st)) := by
  subst hp; exact E_by (fun _ q => XT.nonnullNo X.at X.hx rfl (X.hb hd) rfl rfl q) k
theorem E_acmp (X : Wk l Z R bytes mL ret own nm p e s m args below meth c T cells slots) {cd : ACond} {o : Int} {x y : Value} (hd : decode bytes pc = .ok (.if_acmp cd o, 3)) (h1 : x.isRef = true) (h2 : y.isRef = true) (same : Bool) (hq : decide (x = y) = same) {pc' : Nat} (ho : 0 ≤ (pc : Int) + o) (hp : pc' = if acV cd same = true then ((pc : Int) + o).toNat else pc + 3) (k : Ends p e below s Z Q cC cS T (mkF m pc' Ls st)) : Ends p e below s Z Q cC cS T (mkF m pc Ls (y :: x :: st)) := by
  obtain ⟨_, locs, Y, r⟩ := id X; exact E_by (fun _ q => acmp Y X.hx rfl h1 h2 (pc0 := pc) rfl (X.hb hd) rfl hq ho hp q) k
theorem E_ldcI (X : Wk l Z R bytes mL ret own nm p e s m args below meth c T cells slots) {ix : Nat} {v : Int32} (hd : decode bytes pc = .ok (.ldc ix, 2)) (w : (Jvm.Cond.constant own ix v).before a0 Z = true) {pc' : Nat} (hp : pc + 2 = pc') (k : Ends p e below s Z Q cC cS T (mkF m pc' Ls (.int v :: st))) : Ends p e below s Z Q cC cS T (mkF m pc Ls st) := by
  subst hp; obtain ⟨_, locs, Y, r⟩ := id X; exact E_by (fun _ q => Y.ldcI X.hx X.hown (mvT X.hZ w) rfl (X.hb hd) q) k
theorem E_new (X : Wk l Z R bytes mL ret own nm p e s m args below meth c T cells slots) {C : String} {ix n : Nat} (hd : decode bytes pc = .ok (.new ix, 3)) (w1 : (Jvm.Cond.classLink own ix C).before a0 Z = true) (w2 : (Jvm.Cond.instantiable C n).before a0 Z = true) (w3 : (Jvm.Cond.initialized C).before a0 Z = true) (hc : cells + 1 ≤ R.cells) (hs : slots + n ≤ R.slots) {pc' : Nat} (hp : pc + 3 = pc')
    (k : ∀ (T' : State) (b : Addr), Wk l Z R bytes mL ret own nm p e s m args below meth c T' (cells + 1) (slots + n) → b = T.heap.size → Keep T.heap T'.heap [] → Exa Z T'.heap b C → (∀ {O nm d : String} {ty : FieldType}, Laid Z a0 C O nm d → parseFieldDescriptor d = some ty → Fld Z T'.heap b O nm d (defaultValue ty)) → Ends p e below s Z Q cC cS T' (mkF m pc' Ls (.ref b :: st))) : Ends p e below s Z Q cC cS T (mkF m pc Ls st) := by
  subst hp; obtain ⟨q0, locs, Y, N, O⟩ := id X
  obtain ⟨T', h', Y', rfl, E, A, D, -, stp⟩ := newO Y X.hx X.hZ X.hown w1 w2 w3 rfl (g := mkF m pc Ls st) rfl (X.hb hd) hc hs
  exact E_by stp (k T' _ ⟨q0, locs, Y', N, Keep.old O (Keep.of_ext E) all0⟩ rfl (Keep.of_ext E) A D)
theorem E_newarray (X : Wk l Z R bytes mL ret own nm p e s m args below meth c T cells slots) {aty : ArrayType} {n : Int32} (cap : Nat) (hd : decode bytes pc = .ok (.newarray aty, 2)) (w : (Jvm.Cond.arrayClass (newarray.typeOf aty)).before a0 Z = true) (hn : ¬ n < 0) (hcap : n.toNatClampNeg ≤ cap) (hb : cap * 8 ≤ 536870912) (hc : cells + 1 ≤ R.cells) (hs : slots + cap ≤ R.slots) {pc' : Nat} (hp : pc + 2 = pc')
    (k : ∀ (T' : State) (b : Addr) (kA : ClassId), Wk l Z R bytes mL ret own nm p e s m args below meth c T' (cells + 1) (slots + cap) → b = T.heap.size → Keep T.heap T'.heap [] → Arv Z T'.heap b kA (newarray.typeOf aty) n [] (defaultValue (newarray.typeOf aty)) → Ends p e below s Z Q cC cS T' (mkF m pc' Ls (.ref b :: st))) : Ends p e below s Z Q cC cS T (mkF m pc Ls (.int n :: st)) := by
  subst hp; obtain ⟨q0, locs, Y, N, O⟩ := id X
  obtain ⟨T', h', kA, Y', rfl, E, A, stp⟩ := newP Y X.hx X.hZ w rfl (g := mkF m pc Ls (.int n :: st)) rfl (X.hb hd) rfl hn hcap hb hc hs
  exact E_by stp (k T' _ kA ⟨q0, locs, Y', N, Keep.old O (Keep.of_ext E) all0⟩ rfl (Keep.of_ext E) (Arv.new A hn))
theorem E_iastore (X : Wk l Z R bytes mL ret own nm p e s m args below meth c T cells slots) {a : Addr} {kA : ClassId} {z j x : Int32} {vs : List Value} {dv : Value} {y : Int32} (i : Nat) (hd : decode bytes pc = .ok (.iastore, 1)) (hy : x = y) (V : Arv Z T.heap a kA .int z vs dv) (hj : ¬ j < 0 ∧ j < z) (hi : j.toNatClampNeg = i) (hl : i < vs.length) (ha : Z.heap.size ≤ a) {pc' : Nat} (hp : pc + 1 = pc')
    (k : ∀ (T' : State), Wk l Z R bytes mL ret own nm p e s m args below meth c T' cells slots → Keep T.heap T'.heap [a] → Arv Z T'.heap a kA .int z (vs.set i (.int y)) dv → Ends p e below s Z Q cC cS T' (mkF m pc' Ls st)) : Ends p e below s Z Q cC cS T (mkF m pc Ls (.int x :: .int j :: .ref a :: st)) := by
  subst hp hy; obtain ⟨q0, locs, Y, N, O⟩ := id X
  obtain ⟨cl, A, q1, S1, N1, H1, G1⟩ := V
  obtain ⟨T', h', Y', rfl, W, stp⟩ := stI Y X.hx X.hZ rfl A (j := j) (x := x) (inb_of S1 hj) (g := mkF m pc Ls (.int x :: .int j :: .ref a :: st)) rfl rfl (X.hb hd)
  exact E_by stp (k T' ⟨q0, _, Y', Fr.snoc Y' N ha, Keep.old O (Keep.of_wr W) (allS ha all0)⟩ (Keep.of_wr W) (Arv.set A q1 S1 N1 H1 G1 (rfl) W i hi hl))
theorem E_castore (X : Wk l Z R bytes mL ret own nm p e s m args below meth c T cells slots) {a : Addr} {kA : ClassId} {z j x : Int32} {vs : List Value} {dv : Value} {y : Int32} (i : Nat) (hd : decode bytes pc = .ok (.castore, 1)) (hy : nar .char x = y) (V : Arv Z T.heap a kA .char z vs dv) (hj : ¬ j < 0 ∧ j < z) (hi : j.toNatClampNeg = i) (hl : i < vs.length) (ha : Z.heap.size ≤ a) {pc' : Nat} (hp : pc + 1 = pc')
    (k : ∀ (T' : State), Wk l Z R bytes mL ret own nm p e s m args below meth c T' cells slots → Keep T.heap T'.heap [a] → Arv Z T'.heap a kA .char z (vs.set i (.int y)) dv → Ends p e below s Z Q cC cS T' (mkF m pc' Ls st)) : Ends p e below s Z Q cC cS T (mkF m pc Ls (.int x :: .int j :: .ref a :: st)) := by
  subst hp hy; obtain ⟨q0, locs, Y, N, O⟩ := id X
  obtain ⟨cl, A, q1, S1, N1, H1, G1⟩ := V
  obtain ⟨T', h', Y', rfl, W, stp⟩ := stC Y X.hx X.hZ rfl A (j := j) (x := x) (inb_of S1 hj) (g := mkF m pc Ls (.int x :: .int j :: .ref a :: st)) rfl rfl (X.hb hd)
  exact E_by stp (k T' ⟨q0, _, Y', Fr.snoc Y' N ha, Keep.old O (Keep.of_wr W) (allS ha all0)⟩ (Keep.of_wr W) (Arv.set A q1 S1 N1 H1 G1 (fits_nar_char _) W i hi hl))
theorem E_bastore (X : Wk l Z R bytes mL ret own nm p e s m args below meth c T cells slots) {a : Addr} {kA : ClassId} {z j x : Int32} {vs : List Value} {dv : Value} {y : Int32} (i : Nat) (hd : decode bytes pc = .ok (.bastore, 1)) (hy : x.toInt8.toInt32 = y) (V : Arv Z T.heap a kA .byte z vs dv) (hj : ¬ j < 0 ∧ j < z) (hi : j.toNatClampNeg = i) (hl : i < vs.length) (ha : Z.heap.size ≤ a) {pc' : Nat} (hp : pc + 1 = pc')
    (k : ∀ (T' : State), Wk l Z R bytes mL ret own nm p e s m args below meth c T' cells slots → Keep T.heap T'.heap [a] → Arv Z T'.heap a kA .byte z (vs.set i (.int y)) dv → Ends p e below s Z Q cC cS T' (mkF m pc' Ls st)) : Ends p e below s Z Q cC cS T (mkF m pc Ls (.int x :: .int j :: .ref a :: st)) := by
  subst hp hy; obtain ⟨q0, locs, Y, N, O⟩ := id X
  obtain ⟨cl, A, q1, S1, N1, H1, G1⟩ := V
  obtain ⟨T', h', Y', rfl, W, stp⟩ := stB Y X.hx X.hZ rfl A (j := j) (x := x) (inb_of S1 hj) (g := mkF m pc Ls (.int x :: .int j :: .ref a :: st)) rfl rfl (X.hb hd)
  exact E_by stp (k T' ⟨q0, _, Y', Fr.snoc Y' N ha, Keep.old O (Keep.of_wr W) (allS ha all0)⟩ (Keep.of_wr W) (Arv.set A q1 S1 N1 H1 G1 (fits_nar_byte _) W i hi hl))
theorem E_iastoreA (X : Wk l Z R bytes mL ret own nm p e s m args below meth c T cells slots) {a : Addr} {kA : ClassId} {z j x : Int32} {vs : List Value} {dv : Value} {y : Int32} (hd : decode bytes pc = .ok (.iastore, 1)) (hy : x = y) (V : Arv Z T.heap a kA .int z vs dv) (hj : ¬ j < 0 ∧ j < z) (hi : j.toNatClampNeg = vs.length) (ha : Z.heap.size ≤ a) {pc' : Nat} (hp : pc + 1 = pc')
    (k : ∀ (T' : State), Wk l Z R bytes mL ret own nm p e s m args below meth c T' cells slots → Keep T.heap T'.heap [a] → Arv Z T'.heap a kA .int z (vs ++ [.int y]) dv → Ends p e below s Z Q cC cS T' (mkF m pc' Ls st)) : Ends p e below s Z Q cC cS T (mkF m pc Ls (.int x :: .int j :: .ref a :: st)) := by
  refine E_iastore X vs.length hd hy (V.pad (pad_rep vs dv 1)) hj hi (by simp) ha hp fun T' X' K' V' => k T' X' K' ?_
  have q : (vs ++ List.replicate 1 dv).set vs.length (.int y) = vs ++ [.int y] := by simp
  rw [q] at V'; exact V'
theorem E_castoreA (X : Wk l Z R bytes mL ret own nm p e s m args below meth c T cells slots) {a : Addr} {kA : ClassId} {z j x : Int32} {vs : List Value} {dv : Value} {y : Int32} (hd : decode bytes pc = .ok (.castore, 1)) (hy : nar .char x = y) (V : Arv Z T.heap a kA .char z vs dv) (hj : ¬ j < 0 ∧ j < z) (hi : j.toNatClampNeg = vs.length) (ha : Z.heap.size ≤ a) {pc' : Nat} (hp : pc + 1 = pc')
    (k : ∀ (T' : State), Wk l Z R bytes mL ret own nm p e s m args below meth c T' cells slots → Keep T.heap T'.heap [a] → Arv Z T'.heap a kA .char z (vs ++ [.int y]) dv → Ends p e below s Z Q cC cS T' (mkF m pc' Ls st)) : Ends p e below s Z Q cC cS T (mkF m pc Ls (.int x :: .int j :: .ref a :: st)) := by
  refine E_castore X vs.length hd hy (V.pad (pad_rep vs dv 1)) hj hi (by simp) ha hp fun T' X' K' V' => k T' X' K' ?_
  have q : (vs ++ List.replicate 1 dv).set vs.length (.int y) = vs ++ [.int y] := by simp
  rw [q] at V'; exact V'
theorem E_bastoreA (X : Wk l Z R bytes mL ret own nm p e s m args below meth c T cells slots) {a : Addr} {kA : ClassId} {z j x : Int32} {vs : List Value} {dv : Value} {y : Int32} (hd : decode bytes pc = .ok (.bastore, 1)) (hy : x.toInt8.toInt32 = y) (V : Arv Z T.heap a kA .byte z vs dv) (hj : ¬ j < 0 ∧ j < z) (hi : j.toNatClampNeg = vs.length) (ha : Z.heap.size ≤ a) {pc' : Nat} (hp : pc + 1 = pc')
    (k : ∀ (T' : State), Wk l Z R bytes mL ret own nm p e s m args below meth c T' cells slots → Keep T.heap T'.heap [a] → Arv Z T'.heap a kA .byte z (vs ++ [.int y]) dv → Ends p e below s Z Q cC cS T' (mkF m pc' Ls st)) : Ends p e below s Z Q cC cS T (mkF m pc Ls (.int x :: .int j :: .ref a :: st)) := by
  refine E_bastore X vs.length hd hy (V.pad (pad_rep vs dv 1)) hj hi (by simp) ha hp fun T' X' K' V' => k T' X' K' ?_
  have q : (vs ++ List.replicate 1 dv).set vs.length (.int y) = vs ++ [.int y] := by simp
  rw [q] at V'; exact V'
theorem E_iaload (X : Wk l Z R bytes mL ret own nm p e s m args below meth c T cells slots) {a : Addr} {kA : ClassId} {z j : Int32} {vs : List Value} {dv v : Value} (hd : decode bytes pc = .ok (.iaload, 1)) (V : Arv Z T.heap a kA .int z vs dv) (hj : ¬ j < 0 ∧ j < z) (hv : vs.getD j.toNatClampNeg dv = v) {pc' : Nat} (hp : pc + 1 = pc')
    (k : Ends p e below s Z Q cC cS T (mkF m pc' Ls (v :: st))) : Ends p e below s Z Q cC cS T (mkF m pc Ls (.int j :: .ref a :: st)) := by
  subst hp; obtain ⟨q0, locs, Y, N, O⟩ := id X
  obtain ⟨cl, A, q1, S1, N1, H1, G1⟩ := V
  exact E_by (Y.iaload X.hx A.1 (State.isArrayOf_alike X.hZ.alike A.2.1) A.2.2 (inb_of S1 hj) (Has.at H1 (inb_of S1 hj) hv) (g := mkF m pc Ls (.int j :: .ref a :: st)) rfl rfl (X.hb hd)) k
theorem E_caload (X : Wk l Z R bytes mL ret own nm p e s m args below meth c T cells slots) {a : Addr} {kA : ClassId} {z j : Int32} {vs : List Value} {dv v : Value} (hd : decode bytes pc = .ok (.caload, 1)) (V : Arv Z T.heap a kA .char z vs dv) (hj : ¬ j < 0 ∧ j < z) (hv : vs.getD j.toNatClampNeg dv = v) {pc' : Nat} (hp : pc + 1 = pc')
    (k : Ends p e below s Z Q cC cS T (mkF m pc' Ls (v :: st))) : Ends p e below s Z Q cC cS T (mkF m pc Ls (.int j :: .ref a :: st)) := by
  subst hp; obtain ⟨q0, locs, Y, N, O⟩ := id X
  obtain ⟨cl, A, q1, S1, N1, H1, G1⟩ := V
  exact E_by (Y.caload X.hx A.1 (State.isArrayOf_alike X.hZ.alike A.2.1) A.2.2 (inb_of S1 hj) (Has.at H1 (inb_of S1 hj) hv) (g := mkF m pc Ls (.int j :: .ref a :: st)) rfl rfl (X.hb hd)) k
theorem E_baload (X : Wk l Z R bytes mL ret own nm p e s m args below meth c T cells slots) {a : Addr} {kA : ClassId} {z j : Int32} {vs : List Value} {dv v : Value} (hd : decode bytes pc = .ok (.baload, 1)) (V : Arv Z T.heap a kA .byte z vs dv) (hj : ¬ j < 0 ∧ j < z) (hv : vs.getD j.toNatClampNeg dv = v) {pc' : Nat} (hp : pc + 1 = pc')
    (k : Ends p e below s Z Q cC cS T (mkF m pc' Ls (v :: st))) : Ends p e below s Z Q cC cS T (mkF m pc Ls (.int j :: .ref a :: st)) := by
  subst hp; obtain ⟨q0, locs, Y, N, O⟩ := id X
  obtain ⟨cl, A, q1, S1, N1, H1, G1⟩ := V
  exact E_by (Y.baloadBytes X.hx A.1 (State.isArrayOf_alike X.hZ.alike A.2.1) A.2.2 (inb_of S1 hj) (Has.at H1 (inb_of S1 hj) hv) (g := mkF m pc Ls (.int j :: .ref a :: st)) rfl rfl (X.hb hd)) k
theorem E_aaload (X : Wk l Z R bytes mL ret own nm p e s m args below meth c T cells slots) {a : Addr} {kA : ClassId} {z j : Int32} {vs : List Value} {dv v : Value} {ty : FieldType} (hd : decode bytes pc = .ok (.aaload, 1)) (V : Arv Z T.heap a kA ty z vs dv) (hty : ty.isReference = true) (hj : ¬ j < 0 ∧ j < z) (hv : vs.getD j.toNatClampNeg dv = v) {pc' : Nat} (hp : pc + 1 = pc')
    (k : Ends p e below s Z Q cC cS T (mkF m pc' Ls (v :: st))) : Ends p e below s Z Q cC cS T (mkF m pc Ls (.int j :: .ref a :: st)) := by
  subst hp; obtain ⟨q0, locs, Y, N, O⟩ := id X
  obtain ⟨cl, A, q1, S1, N1, H1, G1⟩ := V
  exact E_by (Y.aaload X.hx A.1 (State.isArrayOf_alike X.hZ.alike A.2.1) hty A.2.2 (inb_of S1 hj) (Has.at H1 (inb_of S1 hj) hv) (g := mkF m pc Ls (.int j :: .ref a :: st)) rfl rfl (X.hb hd)) k
theorem E_arraylength (X : Wk l Z R bytes mL ret own nm p e s m args below meth c T cells slots) {a : Addr} {kA : ClassId} {z : Int32} {vs : List Value} {dv : Value} {ty : FieldType} (hd : decode bytes pc = .ok (.arraylength, 1)) (V : Arv Z T.heap a kA ty z vs dv) {pc' : Nat} (hp : pc + 1 = pc')
    (k : Ends p e below s Z Q cC cS T (mkF m pc' Ls (.int z :: st))) : Ends p e below s Z Q cC cS T (mkF m pc Ls (.ref a :: st)) := by
  subst hp; obtain ⟨q0, locs, Y, N, O⟩ := id X
  obtain ⟨cl, A, q1, S1, N1, H1, G1⟩ := V
  refine E_by (Y.arraylength X.hx A.1 (State.isArrayOf_alike X.hZ.alike A.2.1) (g := mkF m pc Ls (.ref a :: st)) rfl rfl (X.hb hd)) ?_
  rw [len_of S1 N1]; exact k
theorem E_getfield (X : Wk l Z R bytes mL ret own nm p e s m args below meth c T cells slots) {a : Addr} {O n d R0 : String} {ix : Nat} {v : Value} (hd : decode bytes pc = .ok (.getfield ix, 3)) (w : (Jvm.Cond.fieldLink own ix R0 n d).before a0 Z = true) (via : Via Z R0 O n d) (F : Fld Z T.heap a O n d v) {pc' : Nat} (hp : pc + 3 = pc')
    (k : ∀ (T' : State), Wk l Z R bytes mL ret own nm p e s m args below meth c T' cells slots → T'.heap = T.heap → Ends p e below s Z Q cC cS T' (mkF m pc' Ls (v :: st))) : Ends p e below s Z Q cC cS T (mkF m pc Ls (.ref a :: st)) := by
  subst hp; obtain ⟨q0, locs, Y, N, Od⟩ := id X
  obtain ⟨T', Y', e1, stp⟩ := getF Y X.hx X.hZ X.hown (host := "") (Or.inl w) via rfl F (g := mkF m pc Ls (.ref a :: st)) rfl rfl (X.hb hd)
  exact E_by stp (k T' ⟨q0, locs, Y', N, e1 ▸ Od⟩ e1)
theorem E_getstatic (X : Wk l Z R bytes mL ret own nm p e s m args below meth c T cells slots) {O n d R0 : String} {ix : Nat} {v : Value} (hd : decode bytes pc = .ok (.getstatic ix, 3)) (w : (Jvm.Cond.fieldLink own ix R0 n d).before a0 Z = true) (via : Via Z R0 O n d) (F : Sta Z Z.heap O n d v) {pc' : Nat} (hp : pc + 3 = pc')
    (k : ∀ (T' : State), Wk l Z R bytes mL ret own nm p e s m args below meth c T' cells slots → T'.heap = T.heap → Ends p e below s Z Q cC cS T' (mkF m pc' Ls (v :: st))) : Ends p e below s Z Q cC cS T (mkF m pc Ls st) := by
  subst hp; obtain ⟨q0, locs, Y, N, Od⟩ := id X
  obtain ⟨T', Y', e1, stp⟩ := getS Y X.hx X.hZ (host := "") X.hown w via rfl (F.ext Od) (g := mkF m pc Ls st) rfl (X.hb hd)
  exact E_by stp (k T' ⟨q0, locs, Y', N, e1 ▸ Od⟩ e1)
theorem E_putfield (X : Wk l Z R bytes mL ret own nm p e s m args below meth c T cells slots) {a : Addr} {O n d R0 C : String} {ix kk : Nat} {v old : Value} {ty : FieldType} (hd : decode bytes pc = .ok (.putfield ix, 3)) (w : (Jvm.Cond.fieldLink own ix R0 n d).before a0 Z = true) (via : Via Z R0 O n d) (F : Fld Z T.heap a O n d old) (E : Exa Z T.heap a C) (L : (Jvm.Cond.lays C O n d).before a0 Z = true ∨ ((Jvm.Cond.laysFinal C O n d).before a0 Z = true ∧ own = O ∧ nm = "<init>")) (wi : (Jvm.Cond.instantiable C kk).before a0 Z = true) (hty : parseFieldDescriptor d = some ty) (hn : narrow ty v = v) (hf : fits ty v = true) (ha : Z.heap.size ≤ a) {pc' : Nat} (hp : pc + 3 = pc')
    (k : ∀ (T' : State), Wk l Z R bytes mL ret own nm p e s m args below meth c T' cells slots → Wr T.heap T'.heap a (Jvm.RoadKit.slotOf Z O n d) v → Ends p e below s Z Q cC cS T' (mkF m pc' Ls st)) : Ends p e below s Z Q cC cS T (mkF m pc Ls (v :: .ref a :: st)) := by
  subst hp; obtain ⟨q0, locs, Y, N, Od⟩ := id X
  obtain ⟨T', h', Y', rfl, W, stp⟩ := putF Y X.hx X.hZ X.hown (host := "") (Or.inl w) via rfl F E (L.imp id fun q => ⟨q.1, q.2.1, q0.2.2.2.2.2.2.1.trans q.2.2⟩) wi hty hn hf (g := mkF m pc Ls (v :: .ref a :: st)) rfl rfl (X.hb hd)
  exact E_by stp (k T' ⟨q0, _, Y', Fr.snoc Y' N ha, Keep.old Od (Keep.of_wr W) (allS ha all0)⟩ W)
theorem E_initO (X : Wk l Z R bytes mL ret own nm p e s m args below meth c T cells slots) {a : Addr} {ix : Nat} (hd : decode bytes pc = .ok (.invokespecial ix, 3)) (w1 : (Jvm.Cond.methodLink own ix Lib.objectInit).before a0 Z = true) (w2 : (Jvm.Cond.instanceMethod Lib.objectInit).before a0 Z = true) (w3 : (Jvm.Cond.code Lib.objectInit ⟨#[0xb1]⟩ 1 none).before a0 Z = true) (hsz : Ls.size = mL) (hf : 1 ≤ R.frames) (hl : (st.map fun v => v.category).sum + 12 ≤ R.locals) {pc' : Nat} (hp : pc + 3 = pc')
    (k : ∀ (T' : State), Wk l Z R bytes mL ret own nm p e s m args below meth c T' cells slots → T'.heap = T.heap → Ends p e below s Z Q cC cS T' (mkF m pc' Ls st)) : Ends p e below s Z Q cC cS T (mkF m pc Ls (.ref a :: st)) := by
  subst hp; obtain ⟨q0, locs, Y, N, Od⟩ := id X
  obtain ⟨T', Y', e1, stp⟩ := initO Y X.hx X.hZ X.hown w1 w2 w3 rfl (g := mkF m pc Ls (.ref a :: st)) rfl (X.size hsz) rfl (X.hb hd) hf (W := (st.map fun v => v.category).sum) (by show 2 * 0 + _ ≤ _; omega) hl
  exact E_by stp (k T' ⟨q0, locs, Y', N, e1 ▸ Od⟩ e1)
theorem E_checkcast (X : Wk l Z R bytes mL ret own nm p e s m args below meth c T cells slots) {a : Addr} {K : String} {ix : Nat} (hd : decode bytes pc = .ok (.checkcast ix, 3)) (w : (Jvm.Cond.classLink own ix K).before a0 Z = true) (F : Ins Z T.heap a K true) {pc' : Nat} (hp : pc + 3 = pc')
    (k : ∀ (T' : State), Wk l Z R bytes mL ret own nm p e s m args below meth c T' cells slots → T'.heap = T.heap → Ends p e below s Z Q cC cS T' (mkF m pc' Ls (.ref a :: st))) : Ends p e below s Z Q cC cS T (mkF m pc Ls (.ref a :: st)) := by
  subst hp; obtain ⟨q0, locs, Y, N, Od⟩ := id X
  obtain ⟨T', Y', e1, stp⟩ := castY Y X.hx X.hZ X.hown w rfl F (g := mkF m pc Ls (.ref a :: st)) rfl rfl (X.hb hd)
  exact E_by stp (k T' ⟨q0, locs, Y', N, e1 ▸ Od⟩ e1)
theorem E_instY (X : Wk l Z R bytes mL ret own nm p e s m args below meth c T cells slots) {a : Addr} {K : String} {ix : Nat} (hd : decode bytes pc = .ok (.instanceof ix, 3)) (w : (Jvm.Cond.classLink own ix K).before a0 Z = true) (F : Ins Z T.heap a K true) {pc' : Nat} (hp : pc + 3 = pc')
    (k : ∀ (T' : State), Wk l Z R bytes mL ret own nm p e s m args below meth c T' cells slots → T'.heap = T.heap → Ends p e below s Z Q cC cS T' (mkF m pc' Ls (.int 1 :: st))) : Ends p e below s Z Q cC cS T (mkF m pc Ls (.ref a :: st)) := by
  subst hp; obtain ⟨q0, locs, Y, N, Od⟩ := id X
  obtain ⟨T', Y', e1, stp⟩ := instY Y X.hx X.hZ X.hown w rfl F (g := mkF m pc Ls (.ref a :: st)) rfl rfl (X.hb hd)
  exact E_by stp (k T' ⟨q0, locs, Y', N, e1 ▸ Od⟩ e1)
theorem E_staticB (X : Wk l Z R bytes mL ret own nm p e s m args below meth c T cells slots) {y : MethodName} {ix : Nat} {bytes' : ByteArray} {mL' : Nat} {ret' : Option FieldType} {Q' : Option Value → Heap → Prop} {argsL : List Value} {Q2 : Option Value → Heap → List Loc → Prop} {rC rS : Nat} (hd : decode bytes pc = .ok (.invokestatic ix, 3)) (w1 : (Jvm.Cond.methodLink own ix y).before a0 Z = true) (w2 : (Jvm.Cond.static y).before a0 Z = true) (w3 : (Jvm.Cond.initialized y.cls).before a0 Z = true) (w4 : (Jvm.Cond.code y bytes' mL' ret').before a0 Z = true) (hy : y.cls ≠ "java/lang/invoke/MethodHandle" ∧ y.cls ≠ "java/lang/invoke/VarHandle") {st0 : List Value} (hst : st0 = argsL.reverse ++ st) (hK : Back l R p e below s args y 3 ((st.map fun v => v.category).sum) (fun A aa => aa = argsL.toArray ∧ A.U.heap = T.heap ∧ A.cells + rC ≤ R.cells ∧ A.slots + rS ≤ R.slots) (fun A _ v B => ∃ L, Q2 v B.U.heap L ∧ B.locs = A.locs ++ L ∧ B.cells = A.cells + rC ∧ B.slots = A.slots + rS)) (hQ2 : ∀ v h L, Q2 v h L → Fr Z.heap.size L ∧ Ext Z.heap h ∧ Q' v h) (hlen : ∀ sig, parseMethodDescriptor y.desc = some sig → argsL.length = sig.parameters.length) (hsz : Ls.size = mL) (hcl : cells + rC ≤ R.cells) (hsl : slots + rS ≤ R.slots) {pc' : Nat} (hp : pc + 3 = pc')
    (k : ∀ (T' : State) (v : Option Value), Wk l Z R bytes mL ret own nm p e s m args below meth c T' (cells + rC) (slots + rS) → Q' v T'.heap → Ends p e below s Z Q cC cS T' (mkF m pc' Ls (v.toList ++ st))) : Ends p e below s Z Q cC cS T (mkF m pc Ls st0) := by
  subst hp hst; obtain ⟨q0, locs, Y, N, Od⟩ := id X
  obtain ⟨v, _, ⟨T', L1, k1, n1⟩, -, Y', ⟨Lc, hQ, l1, y1, z1⟩, stp⟩ := Jvm.LawKit.callS Y X.hx (y := y) X.hown (mvT X.hZ w1) (mvT X.hZ w2) (mvT X.hZ w3) (mvT X.hZ w4) hy hK (g := mkF m pc Ls (argsL.reverse ++ st)) rfl (X.size hsz) (argsL := argsL) (rest := st) hlen rfl (by show 2 * 0 + _ ≤ _; omega) (X.hb hd) (fun _ _ => ⟨rfl, rfl, hcl, hsl⟩)
  dsimp only [Pt.U, Pt.locs, Pt.cells, Pt.slots] at Y' l1 y1 z1 stp hQ
  subst l1 y1 z1
  obtain ⟨f1, f2, f3⟩ := hQ2 _ _ _ hQ
  exact E_by stp (k T' v ⟨q0, _, Y', Fr.app N f1, f2⟩ f3)
theorem E_static (X : Wk l Z R bytes mL ret own nm p e s m args below meth c T cells slots) {y : MethodName} {ix : Nat} {bytes' : ByteArray} {mL' : Nat} {ret' : Option FieldType} {Q' : Option Value → Heap → Prop} {argsL : List Value} {rm : Room} (hd : decode bytes pc = .ok (.invokestatic ix, 3)) (w1 : (Jvm.Cond.methodLink own ix y).before a0 Z = true) (w2 : (Jvm.Cond.static y).before a0 Z = true) (w3 : (Jvm.Cond.initialized y.cls).before a0 Z = true) (w4 : (Jvm.Cond.code y bytes' mL' ret').before a0 Z = true) (hy : y.cls ≠ "java/lang/invoke/MethodHandle" ∧ y.cls ≠ "java/lang/invoke/VarHandle")  {st0 : List Value} (hst : st0 = argsL.reverse ++ st) (hC : Ct l Z y bytes' mL' ret' rm argsL.toArray T.heap Q') (hlen : ∀ sig, parseMethodDescriptor y.desc = some sig → argsL.length = sig.parameters.length) (hsz : Ls.size = mL) (hcl : cells + rm.cells ≤ R.cells) (hsl : slots + rm.slots ≤ R.slots) (hfr : rm.frames + 1 ≤ R.frames) (hlo : (st.map fun v => v.category).sum + (mL' + 11) + rm.locals ≤ R.locals) {pc' : Nat} (hp : pc + 3 = pc')
    (k : ∀ (T' : State) (v : Option Value), Wk l Z R bytes mL ret own nm p e s m args below meth c T' (cells + rm.cells) (slots + rm.slots) → Q' v T'.heap → Ends p e below s Z Q cC cS T' (mkF m pc' Ls (v.toList ++ st))) : Ends p e below s Z Q cC cS T (mkF m pc Ls st0) :=
  E_staticB X hd w1 w2 w3 w4 hy hst (hC.back X.hZ w4 w3 hfr hlo) (fun _ _ _ q => q) hlen hsz hcl hsl hp k
theorem E_specialB (X : Wk l Z R bytes mL ret own nm p e s m args below meth c T cells slots) {y : MethodName} {ix : Nat} {bytes' : ByteArray} {mL' : Nat} {ret' : Option FieldType} {Q' : Option Value → Heap → Prop} {argsL : List Value} {Q2 : Option Value → Heap → List Loc → Prop} {rC rS : Nat} {a : Addr} (hd : decode bytes pc = .ok (.invokespecial ix, 3)) (hy1 : y.name = "<init>") (hret : ret' = none) (w1 : (Jvm.Cond.methodLink own ix y).before a0 Z = true) (w2 : (Jvm.Cond.instanceMethod y).before a0 Z = true) (w4 : (Jvm.Cond.code y bytes' mL' ret').before a0 Z = true) (hy : y.cls ≠ "java/lang/invoke/MethodHandle" ∧ y.cls ≠ "java/lang/invoke/VarHandle") {st0 : List Value} (hst : st0 = argsL.reverse ++ .ref a :: st) (hK : Back l R p e below s args y 3 ((st.map fun v => v.category).sum) (fun A aa => aa = (.ref a :: argsL).toArray ∧ A.U.heap = T.heap ∧ A.cells + rC ≤ R.cells ∧ A.slots + rS ≤ R.slots) (fun A _ v B => ∃ L, Q2 v B.U.heap L ∧ B.locs = A.locs ++ L ∧ B.cells = A.cells + rC ∧ B.slots = A.slots + rS)) (hQ2 : ∀ v h L, Q2 v h L → Fr Z.heap.size L ∧ Ext Z.heap h ∧ Q' v h) (hlen : ∀ sig, parseMethodDescriptor y.desc = some sig → argsL.length = sig.parameters.length) (hsz : Ls.size = mL) (hcl : cells + rC ≤ R.cells) (hsl : slots + rS ≤ R.slots) {pc' : Nat} (hp : pc + 3 = pc')
    (k : ∀ (T' : State) (v : Option Value), Wk l Z R bytes mL ret own nm p e s m args below meth c T' (cells + rC) (slots + rS) → Q' v T'.heap → Ends p e below s Z Q cC cS T' (mkF m pc' Ls (v.toList ++ st))) : Ends p e below s Z Q cC cS T (mkF m pc Ls st0) := by
  subst hp hst; obtain ⟨q0, locs, Y, N, Od⟩ := id X
  subst hret
  obtain ⟨v, _, ⟨T', L1, k1, n1⟩, -, Y', ⟨Lc, hQ, l1, y1, z1⟩, stp⟩ := Y.specialBack X.hx (y := y) hy1 X.hown (mvT X.hZ w1) (mvT X.hZ w2) (mvT X.hZ w4) hy hK (g := mkF m pc Ls (argsL.reverse ++ .ref a :: st)) rfl (X.size hsz) (Steps.refl _) (a := a) (argsL := argsL) (rest := st) hlen rfl (by show 2 * 0 + _ ≤ _; omega) (X.hb hd) (fun _ _ => ⟨rfl, rfl, hcl, hsl⟩)
  dsimp only [Pt.U, Pt.locs, Pt.cells, Pt.slots] at Y' l1 y1 z1 stp hQ
  subst l1 y1 z1
  obtain ⟨f1, f2, f3⟩ := hQ2 _ _ _ hQ
  exact E_tr stp (k T' v ⟨q0, _, Y', Fr.app N f1, f2⟩ f3)
theorem E_special (X : Wk l Z R bytes mL ret own nm p e s m args below meth c T cells slots) {y : MethodName} {ix : Nat} {bytes' : ByteArray} {mL' : Nat} {ret' : Option FieldType} {Q' : Option Value → Heap → Prop} {argsL : List Value} {rm : Room} {a : Addr} (hd : decode bytes pc = .ok (.invokespecial ix, 3)) (hy1 : y.name = "<init>") (hret : ret' = none) (w1 : (Jvm.Cond.methodLink own ix y).before a0 Z = true) (w2 : (Jvm.Cond.instanceMethod y).before a0 Z = true) (w4 : (Jvm.Cond.code y bytes' mL' ret').before a0 Z = true) (hy : y.cls ≠ "java/lang/invoke/MethodHandle" ∧ y.cls ≠ "java/lang/invoke/VarHandle") (w3 : (Jvm.Cond.initialized y.cls).before a0 Z = true) {st0 : List Value} (hst : st0 = argsL.reverse ++ .ref a :: st) (hC : Ct l Z y bytes' mL' ret' rm (.ref a :: argsL).toArray T.heap Q') (hlen : ∀ sig, parseMethodDescriptor y.desc = some sig → argsL.length = sig.parameters.length) (hsz : Ls.size = mL) (hcl : cells + rm.cells ≤ R.cells) (hsl : slots + rm.slots ≤ R.slots) (hfr : rm.frames + 1 ≤ R.frames) (hlo : (st.map fun v => v.category).sum + (mL' + 11) + rm.locals ≤ R.locals) {pc' : Nat} (hp : pc + 3 = pc')
    (k : ∀ (T' : State) (v : Option Value), Wk l Z R bytes mL ret own nm p e s m args below meth c T' (cells + rm.cells) (slots + rm.slots) → Q' v T'.heap → Ends p e below s Z Q cC cS T' (mkF m pc' Ls (v.toList ++ st))) : Ends p e below s Z Q cC cS T (mkF m pc Ls st0) :=
  E_specialB X hd hy1 hret w1 w2 w4 hy hst (hC.back X.hZ w4 w3 hfr hlo) (fun _ _ _ q => q) hlen hsz hcl hsl hp k
theorem E_virtualB (X : Wk l Z R bytes mL ret own nm p e s m args below meth c T cells slots) {y : MethodName} {ix : Nat} {Q' : Option Value → Heap → Prop} {argsL : List Value} {Q2 : Option Value → Heap → List Loc → Prop} {rC rS : Nat} {a : Addr} {z : MethodName} {D : String} (hd : decode bytes pc = .ok (.invokevirtual ix, 3)) (w1 : (Jvm.Cond.methodLink own ix y).before a0 Z = true) (w2 : (Jvm.Cond.declares y).before a0 Z = true) (w5 : (Jvm.Cond.selects D y z).before a0 Z = true) (w6 : (Jvm.Cond.instanceMethod z).before a0 Z = true) (hnf : NotFace s y) (hy : y.cls ≠ "java/lang/invoke/MethodHandle" ∧ y.cls ≠ "java/lang/invoke/VarHandle") (E : Exa Z T.heap a D) {st0 : List Value} (hst : st0 = argsL.reverse ++ .ref a :: st) (hK : Back l R p e below s args z 3 ((st.map fun v => v.category).sum) (fun A aa => aa = (.ref a :: argsL).toArray ∧ A.U.heap = T.heap ∧ A.cells + rC ≤ R.cells ∧ A.slots + rS ≤ R.slots) (fun A _ v B => ∃ L, Q2 v B.U.heap L ∧ B.locs = A.locs ++ L ∧ B.cells = A.cells + rC ∧ B.slots = A.slots + rS)) (hQ2 : ∀ v h L, Q2 v h L → Fr Z.heap.size L ∧ Ext Z.heap h ∧ Q' v h) (hlen : ∀ sig, parseMethodDescriptor y.desc = some sig → argsL.length = sig.parameters.length) (hsz : Ls.size = mL) (hcl : cells + rC ≤ R.cells) (hsl : slots + rS ≤ R.slots) {pc' : Nat} (hp : pc + 3 = pc')
    (k : ∀ (T' : State) (v : Option Value), Wk l Z R bytes mL ret own nm p e s m args below meth c T' (cells + rC) (slots + rS) → Q' v T'.heap → Ends p e below s Z Q cC cS T' (mkF m pc' Ls (v.toList ++ st))) : Ends p e below s Z Q cC cS T (mkF m pc Ls st0) := by
  subst hp hst; obtain ⟨q0, locs, Y, N, Od⟩ := id X
  obtain ⟨cq, kq, qa, qb, qc⟩ := isOf X.hZ rfl E
  obtain ⟨v, _, ⟨T', L1, k1, n1⟩, -, Y', ⟨Lc, hQ, l1, y1, z1⟩, stp⟩ := Y.virtualBack X.hx (y := y) (z := z) X.hown (mvT X.hZ w1) (mvT X.hZ w2) hnf (mvT X.hZ w5) (mvT X.hZ w6) hy hK qa qc (g := mkF m pc Ls (argsL.reverse ++ .ref a :: st)) rfl (X.size hsz) (Steps.refl _) (argsL := argsL) (rest := st) hlen rfl (by show 2 * 0 + _ ≤ _; omega) (X.hb hd) (fun _ _ => ⟨rfl, rfl, hcl, hsl⟩)
  dsimp only [Pt.U, Pt.locs, Pt.cells, Pt.slots] at Y' l1 y1 z1 stp hQ
  subst l1 y1 z1
  obtain ⟨f1, f2, f3⟩ := hQ2 _ _ _ hQ
  exact E_tr stp (k T' v ⟨q0, _, Y', Fr.app N f1, f2⟩ f3)
theorem E_virtual (X : Wk l Z R bytes mL ret own nm p e s m args below meth c T cells slots) {y : MethodName} {ix : Nat} {bytes' : ByteArray} {mL' : Nat} {ret' : Option FieldType} {Q' : Option Value → Heap → Prop} {argsL : List Value} {rm : Room} {a : Addr} {z : MethodName} {D : String} (hd : decode bytes pc = .ok (.invokevirtual ix, 3)) (w1 : (Jvm.Cond.methodLink own ix y).before a0 Z = true) (w2 : (Jvm.Cond.declares y).before a0 Z = true) (w5 : (Jvm.Cond.selects D y z).before a0 Z = true) (w6 : (Jvm.Cond.instanceMethod z).before a0 Z = true) (hnf : NotFace s y) (hy : y.cls ≠ "java/lang/invoke/MethodHandle" ∧ y.cls ≠ "java/lang/invoke/VarHandle") (E : Exa Z T.heap a D) (w3 : (Jvm.Cond.initialized z.cls).before a0 Z = true) (w4 : (Jvm.Cond.code z bytes' mL' ret').before a0 Z = true) {st0 : List Value} (hst : st0 = argsL.reverse ++ .ref a :: st) (hC : Ct l Z z bytes' mL' ret' rm (.ref a :: argsL).toArray T.heap Q') (hlen : ∀ sig, parseMethodDescriptor y.desc = some sig → argsL.length = sig.parameters.length) (hsz : Ls.size = mL) (hcl : cells + rm.cells ≤ R.cells) (hsl : slots + rm.slots ≤ R.slots) (hfr : rm.frames + 1 ≤ R.frames) (hlo : (st.map fun v => v.category).sum + (mL' + 11) + rm.locals ≤ R.locals) {pc' : Nat} (hp : pc + 3 = pc')
    (k : ∀ (T' : State) (v : Option Value), Wk l Z R bytes mL ret own nm p e s m args below meth c T' (cells + rm.cells) (slots + rm.slots) → Q' v T'.heap → Ends p e below s Z Q cC cS T' (mkF m pc' Ls (v.toList ++ st))) : Ends p e below s Z Q cC cS T (mkF m pc Ls st0) :=
  E_virtualB X hd w1 w2 w5 w6 hnf hy E hst (hC.back X.hZ w4 w3 hfr hlo) (fun _ _ _ q => q) hlen hsz hcl hsl hp k
theorem Wk.out (X : Wk l Z R bytes mL ret own nm p e s m args below meth c T cells slots) {v : Option Value} (hv : ret = none → v = none) (hQ : Q v T.heap) (h1 : cells ≤ cC) (h2 : slots ≤ cS) (hs : ∀ fs, (∀ (f : JFrame) (acts : List Action), f.method = m → f.locked = none → f.entered = [] → (doReturn e (T.setTop f) acts v).1 = T.setFrames fs) → Steps p.tables e below (T.setTop g) (T.setFrames fs)) : Ends p e below s Z Q cC cS T g := by
  obtain ⟨q0, locs, Y, N, Od⟩ := id X
  obtain ⟨fs, hr, hrun, hended, hW, hsame⟩ := Y.leave (v := v) (fun h => hv (q0.2.2.2.1.symm.trans h)) q0.2.2.2.2.1
  exact ⟨_, _, hs fs hr, hrun, hended, _, _, rfl, ⟨N, Od, hQ⟩, ⟨_, rfl⟩, hW, hsame.mono h1 h2⟩
theorem E_return (X : Wk l Z R bytes mL ret own nm p e s m args below meth c T cells slots) (hd : decode bytes pc = .ok (.return_, 1)) (hret : ret = none) (h1 : cells ≤ cC) (h2 : slots ≤ cS) (hQ : Q none T.heap) : Ends p e below s Z Q cC cS T (mkF m pc Ls []) := by
  refine X.out (v := none) (fun _ => rfl) hQ h1 h2 fun fs hr => ?_
  obtain ⟨q0, locs, Y, N, Od⟩ := id X
  exact Y.returnOut X.hx (q0.2.2.2.1.trans hret) (X.hb hd) hr
theorem E_ireturnI (X : Wk l Z R bytes mL ret own nm p e s m args below meth c T cells slots) {z : Int32} (hd : decode bytes pc = .ok (.ireturn, 1)) (hret : ret = some .int) (h1 : cells ≤ cC) (h2 : slots ≤ cS) (hQ : Q (some (.int z)) T.heap) : Ends p e below s Z Q cC cS T (mkF m pc Ls (.int z :: st)) := by
  refine X.out (v := some (.int z)) (fun h => by rw [hret] at h; cases h) hQ h1 h2 fun fs hr => ?_
  obtain ⟨q0, locs, Y, N, Od⟩ := id X
  exact retOut Y X.hx (q0.2.2.2.1.trans hret) rfl (Or.inl ⟨rfl, Or.inl rfl, z, rfl⟩) (X.hb hd) hr
theorem E_ireturnN (X : Wk l Z R bytes mL ret own nm p e s m args below meth c T cells slots) {z : Int32} {t : FieldType} (hd : decode bytes pc = .ok (.ireturn, 1)) (hret : ret = some t) (ht : t = .boolean ∨ t = .byte ∨ t = .char ∨ t = .short) (h1 : cells ≤ cC) (h2 : slots ≤ cS) (hQ : Q (some (.int (nar t z))) T.heap) : Ends p e below s Z Q cC cS T (mkF m pc Ls (.int z :: st)) := by
  refine X.out (v := some (.int (nar t z))) (fun h => by rw [hret] at h; cases h) hQ h1 h2 fun fs hr => ?_
  obtain ⟨q0, locs, Y, N, Od⟩ := id X
  exact retN Y X.hx (q0.2.2.2.1.trans hret) ht (X.hb hd) hr
theorem E_areturn (X : Wk l Z R bytes mL ret own nm p e s m args below meth c T cells slots) {v : Value} {t : FieldType} (hd : decode bytes pc = .ok (.areturn, 1)) (hret : ret = some t) (ht : t.isReference = true) (hv : v.isRef = true) (hn : narrow t v = v) (h1 : cells ≤ cC) (h2 : slots ≤ cS) (hQ : Q (some v) T.heap) : Ends p e below s Z Q cC cS T (mkF m pc Ls (v :: st)) := by
  refine X.out (v := some v) (fun h => by rw [hret] at h; cases h) hQ h1 h2 fun fs hr => ?_
  obtain ⟨q0, locs, Y, N, Od⟩ := id X
  exact retOut Y X.hx (q0.2.2.2.1.trans hret) hn (Or.inr (Or.inr (Or.inr (Or.inr ⟨rfl, ht, hv⟩)))) (X.hb hd) hr
end Own
section OwnW
variable {p : Program} {l : Launch} {e : Env} {R : Room} {s : State} {m : MethodId} {args : Array Value} {below : List Frame} {meth : Method} {c : Code} {T T' : State} {cells slots : Nat} {Z : State} {bytes : ByteArray} {mL : Nat} {ret : Option FieldType} {own nm : String} {Q : Option Value → Heap → Prop} {cC cS : Nat} {pc : Nat} {Ls : Array Slot} {st : List Value} {a0 : Array Value} {g g' : JFrame} {vm : Vm}
abbrev EL : List (String × Nat) := consts_1
/-- the walk stands at T over the start with the tables vm; it may have loaded String constants -/
def Ww (l : Launch) (Z : State) (R : Room) (bytes : ByteArray) (mL : Nat) (ret : Option FieldType) (own nm : String) (p : Program) (e : Env) (s : State) (m : MethodId) (args : Array Value) (below : List Frame) (meth : Method) (c : Code) (vm : Vm) (T : State) (cells slots : Nat) : Prop :=
  (p.tables.exec = Jvm.exec ∧ c.code = bytes ∧ c.maxLocals = mL ∧ meth.sig.returnType = ret ∧ meth.locks = false ∧ vm.findClass own = some m.cls ∧ meth.name = nm ∧ Z.Warmed39 vm) ∧
  ((∃ k0, s.Since vm k0 ∧ k0 ≤ T.heap.size) ∧ (∃ a1, EW Z a1 EL) ∧ CHr Z EL s.vm s.heap vm T.heap) ∧
  ∃ locs, Stand p l e R (s.setVm vm) m args below meth c T locs cells slots ∧ Fr Z.heap.size locs ∧ Ext Z.heap T.heap
def EndW (p : Program) (e : Env) (below : List Frame) (s : State) (Z : State) (Q : Option Value → Heap → Prop) (cC cS : Nat) (T : State) (g : JFrame) : Prop :=
  ∃ t o, Steps p.tables e below (T.setTop g) t ∧ t.status = .running ∧ Ended t below o ∧ ∃ v L, o = .returned v ∧ (Fr Z.heap.size L ∧ Ext Z.heap t.heap ∧ Q v t.heap) ∧ CHr Z EL s.vm s.heap t.vm t.heap ∧ ReturnedEndW s o t L cC cS
def CtW (l : Launch) (Z : State) (y : MethodName) (bytes : ByteArray) (mL : Nat) (ret : Option FieldType) (rm : Room) (as' : Array Value) (h : Heap) (Q : Option Value → Heap → Prop) : Prop :=
  ∀ ws, MetFree l y (head1 (Jvm.Cond.code y bytes mL ret :: ws) rm) (fun a U => a = as' ∧ Z.Warmed39 U.vm ∧ U.heap = h ∧ CHv Z EL U.vm h) (fun _ _ _ _ _ => True) (fun _ U o U' => ∃ v L, o = .returned v ∧ (Fr Z.heap.size L ∧ Ext Z.heap U'.heap ∧ Q v U'.heap) ∧ CHr Z EL U.vm U.heap U'.vm U'.heap ∧ ReturnedEndW U o U' L rm.cells rm.slots)
theorem Ww.hx (X : Ww l Z R bytes mL ret own nm p e s m args below meth c vm T cells slots) : p.tables.exec = Jvm.exec := X.1.1
theorem Ww.hb (X : Ww l Z R bytes mL ret own nm p e s m args below meth c vm T cells slots) {pc : Nat} {r : Except DecodeError (Instr × Nat)} (h : decode bytes pc = r) : decode c.code pc = r := X.1.2.1 ▸ h
theorem Ww.hown (X : Ww l Z R bytes mL ret own nm p e s m args below meth c vm T cells slots) : vm.findClass own = some m.cls := X.1.2.2.2.2.2.1
theorem Ww.hZ (X : Ww l Z R bytes mL ret own nm p e s m args below meth c vm T cells slots) : Z.Warmed39 vm := X.1.2.2.2.2.2.2.2
theorem Ww.at (X : Ww l Z R bytes mL ret own nm p e s m args below meth c vm T cells slots) : At T m c below := by obtain ⟨-, -, _, X, -⟩ := X; exact X.here
theorem Ww.old (X : Ww l Z R bytes mL ret own nm p e s m args below meth c vm T cells slots) : Ext Z.heap T.heap := by obtain ⟨-, -, _, -, -, X⟩ := X; exact X
theorem Ww.le (X : Ww l Z R bytes mL ret own nm p e s m args below meth c vm T cells slots) : Z.heap.size ≤ T.heap.size := X.old.1
theorem Ww.size (X : Ww l Z R bytes mL ret own nm p e s m args below meth c vm T cells slots) (h : Ls.size = mL) {pc : Nat} {st : List Value} : (mkF m pc Ls st).locals.size = c.maxLocals := h.trans X.1.2.2.1.symm
theorem Ww.more (X : Ww l Z R bytes mL ret own nm p e s m args below meth c vm T cells slots) {cells' slots' : Nat} (h1 : cells ≤ cells') (h2 : slots ≤ slots') : Ww l Z R bytes mL ret own nm p e s m args below meth c vm T cells' slots' := by
  obtain ⟨q, q2, locs, Y, r⟩ := X; exact ⟨q, q2, locs, Y.more h1 h2, r⟩

theorem Ww.ch (X : Ww l Z R bytes mL ret own nm p e s m args below meth c vm T cells slots) : CHv Z EL vm T.heap := X.2.1.2.2.1
theorem Ww.al (X : Ww l Z R bytes mL ret own nm p e s m args below meth c vm T cells slots) : Z.vm.Alike vm := X.hZ.alike
theorem F_by (f : ∀ target, Steps p.tables e below (T'.setTop g') target → Steps p.tables e below (T.setTop g) target) (k : EndW p e below s Z Q cC cS T' g') : EndW p e below s Z Q cC cS T g := by
  obtain ⟨t, o, h1, r⟩ := k; exact ⟨t, o, f _ h1, r⟩
theorem F_tr (f : Steps p.tables e below (T.setTop g) (T'.setTop g')) (k : EndW p e below s Z Q cC cS T' g') : EndW p e below s Z Q cC cS T g := F_by (fun _ q => f.trans q) k
theorem own_ks {h h' : Heap} (q : h' = h) : Keep h h' [] := q ▸ Keep.refl _ _
/-- the walk goes on: same tables, heap kept but for safe places -/
theorem Ww.go {ws : List Addr} {T' : State} {cells' slots' : Nat} {locs' : List Loc} (X : Ww l Z R bytes mL ret own nm p e s m args below meth c vm T cells slots) (Y : Stand p l e R (s.setVm vm) m args below meth c T' locs' cells' slots') (N : Fr Z.heap.size locs') (K : Keep T.heap T'.heap ws) (hw : ∀ x ∈ ws, Z.heap.size ≤ x) (hs : ∀ x ∈ ws, Safe Z EL vm T.heap x) : Ww l Z R bytes mL ret own nm p e s m args below meth c vm T' cells' slots' := by
  obtain ⟨q0, ⟨⟨k0, hS, hk⟩, hE, hC⟩, locs, Y0, N0, O⟩ := X
  exact ⟨q0, ⟨⟨k0, hS, Nat.le_trans hk K.1⟩, hE, hC.trans (CHr.keep K hs hC.1)⟩, locs', Y, N, Keep.old O K hw⟩
theorem Ww.go2 {ws : List Addr} {T' : State} {cells' slots' : Nat} {locs' : List Loc} (X : Ww l Z R bytes mL ret own nm p e s m args below meth c vm T cells slots) (Y : Stand p l e R (s.setVm vm) m args below meth c T' locs' cells' slots') (N : Fr Z.heap.size locs') (O' : Ext Z.heap T'.heap) (K : Keep T.heap T'.heap ws) (hs : ∀ x ∈ ws, Safe Z EL vm T.heap x) : Ww l Z R bytes mL ret own nm p e s m args below meth c vm T' cells' slots' := by
  obtain ⟨q0, ⟨⟨k0, hS, hk⟩, hE, hC⟩, locs, Y0, N0, O⟩ := X
  exact ⟨q0, ⟨⟨k0, hS, Nat.le_trans hk K.1⟩, hE, hC.trans (CHr.keep K hs hC.1)⟩, locs', Y, N, O'⟩
/-- a String whose array isn't set is no booked one -/
theorem own_safe {h : Heap} {x : Addr} (hal : Z.vm.Alike vm) (E : Exa Z h x "java/lang/String") (F : Fld Z h x "java/lang/String" "value" "[B" .null) (wi : (Jvm.Cond.instantiable "java/lang/String" 4).before a0 Z = true) : Safe Z EL vm h x := fun B => by
  obtain ⟨cell, cf, k, i, f, h1, h2, h3, h4, h5, h6, h7⟩ := F
  obtain ⟨pr, -, u, a, -, q, -, G, rfl | rfl⟩ := B
  · have ha := G.ha
    obtain ⟨cS, ⟨⟨-, -, -, ⟨cv, kv, iv, s4, -⟩, -, -, -, s8, -⟩, -⟩, -⟩ := G
    cases (show h[q.sa]? = some q.sC from ha).symm.trans h1
    obtain ⟨kv', z4⟩ := ff_back (U := Wst Z vm h) hal s4
    have e4 := z4.symm.trans h2
    simp only [Option.some.injEq, Prod.mk.injEq] at e4
    rw [e4.2.2.2, h7] at s8
    cases s8
  · have hd := G.hd
    obtain ⟨cS, ⟨⟨-, -, -, -, -, -, -, -, -, -, ⟨-, kB, hkB, compB, hkindB⟩, -⟩, -, -⟩, -⟩ := G
    obtain ⟨cell2, k2, e1, e2, e3, -⟩ := E
    cases (show h[q.sd]? = some q.SA from hd).symm.trans e1
    obtain ⟨c4, k4, i1, i2, i3, -⟩ := Cond.instantiable_spec wi
    cases e2.symm.trans i1
    obtain ⟨k5, q1, q2⟩ := hal.2.2 _ _ i2
    cases (show vm.classes[q.SA.cls]? = some kB from hkB).symm.trans q1
    rw [q2] at hkindB
    have := i3.symm.trans hkindB
    cases this
theorem CtW.of_body {y1 y2 y3 : String} {rm : Room} {as' : Array Value} {h : Heap} (pn : plainFor ⟨y1, y2, y3⟩ = true) (O : Ext Z.heap h) (hE : EW Z a0 EL) (ef : ∀ m, entryFrame m as' mL = mkF m 0 Ls [])
    (k : ∀ {p : Program} {e : Env} {s : State} {m : MethodId} {below : List Frame} {meth : Method} {c : Code} {T : State}, Ww l Z rm bytes mL ret y1 y2 p e s m as' below meth c s.vm T 0 0 → T.heap = h → EndW p e below s Z Q rm.cells rm.slots T (mkF m 0 Ls [])) : CtW l Z ⟨y1, y2, y3⟩ bytes mL ret rm as' h Q := by
  intro ws
  refine MetFree.of_bodySF pn hisR ?_
  intro p e s m args below meth c s₁ Bd hml0 hP hK
  obtain ⟨rfl, hZ, hh, hC⟩ := hP
  have e0 : s₁.heap = h := by rw [← hh, Bd.state]; rfl
  have X : Ww l Z rm bytes mL ret y1 y2 p e s m args below meth c s.vm s₁ 0 0 := ⟨⟨Bd.exec, Bd.bytes, hml0, Bd.returns, Bd.notSynchronized, findClass_of_methodNamed Bd.named, (name_of_methodNamed Bd.named Bd.method).1, hZ⟩, ⟨⟨0, (State.WarmedH.refl s).since 0, Nat.zero_le _⟩, ⟨_, hE⟩, by rw [hh, e0]; exact CHr.refl hC⟩, [], by rw [State.setVm_self]; exact Stand.of_body Bd, Fr.nil _, e0 ▸ O⟩
  obtain ⟨t, o, h1, r⟩ := k X e0
  exact ⟨t, o, castTop (ef m) h1, r⟩
theorem CtW.back {y : MethodName} {rm : Room} {as' : Array Value} {h : Heap} {mL' : Nat} {bytes' : ByteArray} {ret' : Option FieldType} {Q' : Option Value → Heap → Prop} (hC : CtW l Z y bytes' mL' ret' rm as' h Q') {len W : Nat}
    (hZ : Z.Warmed39 vm) (wc : (Jvm.Cond.code y bytes' mL' ret').before a0 Z = true) (wz : (Jvm.Cond.initialized y.cls).before a0 Z = true) (hf : rm.frames + 1 ≤ R.frames) (hl : W + (mL' + 11) + rm.locals ≤ R.locals) {a1 : Array Value} (hE : EW Z a1 EL) (H : CHv Z EL vm h) :
    BackS l R p e below (s.setVm vm) args y len W (fun A aa => aa = as' ∧ A.U.heap = h ∧ A.cells + rm.cells ≤ R.cells ∧ A.slots + rm.slots ≤ R.slots)
      (fun A _ v B => ∃ L, (Fr Z.heap.size L ∧ Ext Z.heap B.U.heap ∧ Q' v B.U.heap) ∧ B.locs = A.locs ++ L ∧ B.cells = A.cells + rm.cells ∧ B.slots = A.slots + rm.slots ∧ CHr Z EL vm h B.U.vm B.U.heap) :=
  backOfSH (Q := fun v h L => Fr Z.heap.size L ∧ Ext Z.heap h ∧ Q' v h) (hC []) hZ wc wz hf hl hE H

theorem F_aloadN (X : Ww l Z R bytes mL ret own nm p e s m args below meth c vm T cells slots) {j : Fin 4} {v : Value} (hd : decode bytes pc = .ok (.aload_n j, 1)) (hl : Ls[j.val]? = some (.val v)) (hv : v.isRef = true) {pc' : Nat} (hp : pc + 1 = pc') (k : EndW p e below s Z Q cC cS T (mkF m pc' Ls (v :: st))) : EndW p e below s Z Q cC cS T (mkF m pc Ls (st)) := by
  subst hp; exact F_by (fun _ q => XS.aloadN X.at X.hx rfl (X.hb hd) hl hv q) k
theorem F_aload (X : Ww l Z R bytes mL ret own nm p e s m args below meth c vm T cells slots) {j : Nat} {v : Value} (hd : decode bytes pc = .ok (.aload j, 2)) (hl : Ls[j]? = some (.val v)) (hv : v.isRef = true) {pc' : Nat} (hp : pc + 2 = pc') (k : EndW p e below s Z Q cC cS T (mkF m pc' Ls (v :: st))) : EndW p e below s Z Q cC cS T (mkF m pc Ls (st)) := by
  subst hp; exact F_by (fun _ q => XS.aload X.at X.hx rfl (X.hb hd) hl hv q) k
theorem F_iloadN (X : Ww l Z R bytes mL ret own nm p e s m args below meth c vm T cells slots) {j : Fin 4} {v : Int32} (hd : decode bytes pc = .ok (.iload_n j, 1)) (hl : Ls[j.val]? = some (.val (.int v))) {pc' : Nat} (hp : pc + 1 = pc') (k : EndW p e below s Z Q cC cS T (mkF m pc' Ls (.int v :: st))) : EndW p e below s Z Q cC cS T (mkF m pc Ls (st)) := by
  subst hp; exact F_by (fun _ q => XS.iloadN X.at X.hx rfl (X.hb hd) hl q) k
theorem F_iload (X : Ww l Z R bytes mL ret own nm p e s m args below meth c vm T cells slots) {j : Nat} {v : Int32} (hd : decode bytes pc = .ok (.iload j, 2)) (hl : Ls[j]? = some (.val (.int v))) {pc' : Nat} (hp : pc + 2 = pc') (k : EndW p e below s Z Q cC cS T (mkF m pc' Ls (.int v :: st))) : EndW p e below s Z Q cC cS T (mkF m pc Ls (st)) := by
  subst hp; exact F_by (fun _ q => XS.iload X.at X.hx rfl (X.hb hd) hl q) k
theorem F_aconstNull (X : Ww l Z R bytes mL ret own nm p e s m args below meth c vm T cells slots) (hd : decode bytes pc = .ok (.aconst_null, 1)) {pc' : Nat} (hp : pc + 1 = pc') (k : EndW p e below s Z Q cC cS T (mkF m pc' Ls (.null :: st))) : EndW p e below s Z Q cC cS T (mkF m pc Ls (st)) := by
  subst hp; exact F_by (fun _ q => XS.aconstNull X.at X.hx rfl (X.hb hd) q) k
theorem F_iconst (X : Ww l Z R bytes mL ret own nm p e s m args below meth c vm T cells slots) {i : Int} {v : Int32} (hd : decode bytes pc = .ok (.iconst i, 1)) (hv : Int32.ofInt i = v) {pc' : Nat} (hp : pc + 1 = pc') (k : EndW p e below s Z Q cC cS T (mkF m pc' Ls (.int v :: st))) : EndW p e below s Z Q cC cS T (mkF m pc Ls st) := by
  subst hp hv; exact F_by (fun _ q => XS.iconst X.at X.hx rfl (X.hb hd) q) k
theorem F_bipush (X : Ww l Z R bytes mL ret own nm p e s m args below meth c vm T cells slots) {i : Int} {v : Int32} (hd : decode bytes pc = .ok (.bipush i, 2)) (hv : (Int8.ofInt i).toInt32 = v) {pc' : Nat} (hp : pc + 2 = pc') (k : EndW p e below s Z Q cC cS T (mkF m pc' Ls (.int v :: st))) : EndW p e below s Z Q cC cS T (mkF m pc Ls st) := by
  subst hp hv; exact F_by (fun _ q => XS.bipush X.at X.hx rfl (X.hb hd) q) k
theorem F_sipush (X : Ww l Z R bytes mL ret own nm p e s m args below meth c vm T cells slots) {i : Int} {v : Int32} (hd : decode bytes pc = .ok (.sipush i, 3)) (hv : (Int16.ofInt i).toInt32 = v) {pc' : Nat} (hp : pc + 3 = pc') (k : EndW p e below s Z Q cC cS T (mkF m pc' Ls (.int v :: st))) : EndW p e below s Z Q cC cS T (mkF m pc Ls st) := by
  subst hp hv; exact F_by (fun _ q => XS.sipush X.at X.hx rfl (X.hb hd) q) k
theorem F_iadd (X : Ww l Z R bytes mL ret own nm p e s m args below meth c vm T cells slots) {x y v : Int32} (hd : decode bytes pc = .ok (.iadd, 1)) (hv : x + y = v) {pc' : Nat} (hp : pc + 1 = pc') (k : EndW p e below s Z Q cC cS T (mkF m pc' Ls (.int v :: st))) : EndW p e below s Z Q cC cS T (mkF m pc Ls (.int y :: .int x :: st)) := by
  subst hp hv; exact F_by (fun _ q => XS.iadd X.at X.hx rfl (X.hb hd) rfl q) k
theorem F_isub (X : Ww l Z R bytes mL ret own nm p e s m args below meth c vm T cells slots) {x y v : Int32} (hd : decode bytes pc = .ok (.isub, 1)) (hv : x - y = v) {pc' : Nat} (hp : pc + 1 = pc') (k : EndW p e below s Z Q cC cS T (mkF m pc' Ls (.int v :: st))) : EndW p e below s Z Q cC cS T (mkF m pc Ls (.int y :: .int x :: st)) := by
  subst hp hv; exact F_by (fun _ q => XS.isub X.at X.hx rfl (X.hb hd) rfl q) k
theorem F_imul (X : Ww l Z R bytes mL ret own nm p e s m args below meth c vm T cells slots) {x y v : Int32} (hd : decode bytes pc = .ok (.imul, 1)) (hv : x * y = v) {pc' : Nat} (hp : pc + 1 = pc') (k : EndW p e below s Z Q cC cS T (mkF m pc' Ls (.int v :: st))) : EndW p e below s Z Q cC cS T (mkF m pc Ls (.int y :: .int x :: st)) := by
  subst hp hv; exact F_by (fun _ q => XS.imul X.at X.hx rfl (X.hb hd) rfl q) k
theorem F_iand (X : Ww l Z R bytes mL ret own nm p e s m args below meth c vm T cells slots) {x y v : Int32} (hd : decode bytes pc = .ok (.iand, 1)) (hv : x &&& y = v) {pc' : Nat} (hp : pc + 1 = pc') (k : EndW p e below s Z Q cC cS T (mkF m pc' Ls (.int v :: st))) : EndW p e below s Z Q cC cS T (mkF m pc Ls (.int y :: .int x :: st)) := by
  subst hp hv; exact F_by (fun _ q => XS.iand X.at X.hx rfl (X.hb hd) rfl q) k
theorem F_ior (X : Ww l Z R bytes mL ret own nm p e s m args below meth c vm T cells slots) {x y v : Int32} (hd : decode bytes pc = .ok (.ior, 1)) (hv : x ||| y = v) {pc' : Nat} (hp : pc + 1 = pc') (k : EndW p e below s Z Q cC cS T (mkF m pc' Ls (.int v :: st))) : EndW p e below s Z Q cC cS T (mkF m pc Ls (.int y :: .int x :: st)) := by
  subst hp hv; exact F_by (fun _ q => XS.ior X.at X.hx rfl (X.hb hd) rfl q) k
theorem F_ixor (X : Ww l Z R bytes mL ret own nm p e s m args below meth c vm T cells slots) {x y v : Int32} (hd : decode bytes pc = .ok (.ixor, 1)) (hv : x ^^^ y = v) {pc' : Nat} (hp : pc + 1 = pc') (k : EndW p e below s Z Q cC cS T (mkF m pc' Ls (.int v :: st))) : EndW p e below s Z Q cC cS T (mkF m pc Ls (.int y :: .int x :: st)) := by
  subst hp hv; exact F_by (fun _ q => XS.ixor X.at X.hx rfl (X.hb hd) rfl q) k
theorem F_ishl (X : Ww l Z R bytes mL ret own nm p e s m args below meth c vm T cells slots) {x y v : Int32} (hd : decode bytes pc = .ok (.ishl, 1)) (hv : x <<< (y &&& 31) = v) {pc' : Nat} (hp : pc + 1 = pc') (k : EndW p e below s Z Q cC cS T (mkF m pc' Ls (.int v :: st))) : EndW p e below s Z Q cC cS T (mkF m pc Ls (.int y :: .int x :: st)) := by
  subst hp hv; exact F_by (fun _ q => XS.ishl X.at X.hx rfl (X.hb hd) rfl q) k
theorem F_ishr (X : Ww l Z R bytes mL ret own nm p e s m args below meth c vm T cells slots) {x y v : Int32} (hd : decode bytes pc = .ok (.ishr, 1)) (hv : x >>> (y &&& 31) = v) {pc' : Nat} (hp : pc + 1 = pc') (k : EndW p e below s Z Q cC cS T (mkF m pc' Ls (.int v :: st))) : EndW p e below s Z Q cC cS T (mkF m pc Ls (.int y :: .int x :: st)) := by
  subst hp hv; exact F_by (fun _ q => XS.ishr X.at X.hx rfl (X.hb hd) rfl q) k
theorem F_iushr (X : Ww l Z R bytes mL ret own nm p e s m args below meth c vm T cells slots) {x y v : Int32} (hd : decode bytes pc = .ok (.iushr, 1)) (hv : (x.toUInt32 >>> (y &&& 31).toUInt32).toInt32 = v) {pc' : Nat} (hp : pc + 1 = pc') (k : EndW p e below s Z Q cC cS T (mkF m pc' Ls (.int v :: st))) : EndW p e below s Z Q cC cS T (mkF m pc Ls (.int y :: .int x :: st)) := by
  subst hp hv; exact F_by (fun _ q => XS.iushr X.at X.hx rfl (X.hb hd) rfl q) k
theorem F_ineg (X : Ww l Z R bytes mL ret own nm p e s m args below meth c vm T cells slots) {x v : Int32} (hd : decode bytes pc = .ok (.ineg, 1)) (hv : -x = v) {pc' : Nat} (hp : pc + 1 = pc') (k : EndW p e below s Z Q cC cS T (mkF m pc' Ls (.int v :: st))) : EndW p e below s Z Q cC cS T (mkF m pc Ls (.int x :: st)) := by
  subst hp hv; exact F_by (fun _ q => XS.ineg X.at X.hx rfl (X.hb hd) rfl q) k
theorem F_i2c (X : Ww l Z R bytes mL ret own nm p e s m args below meth c vm T cells slots) {x v : Int32} (hd : decode bytes pc = .ok (.i2c, 1)) (hv : x.toUInt32.toUInt16.toUInt32.toInt32 = v) {pc' : Nat} (hp : pc + 1 = pc') (k : EndW p e below s Z Q cC cS T (mkF m pc' Ls (.int v :: st))) : EndW p e below s Z Q cC cS T (mkF m pc Ls (.int x :: st)) := by
  subst hp hv; exact F_by (fun _ q => XS.i2c X.at X.hx rfl (X.hb hd) rfl q) k
theorem F_i2b (X : Ww l Z R bytes mL ret own nm p e s m args below meth c vm T cells slots) {x v : Int32} (hd : decode bytes pc = .ok (.i2b, 1)) (hv : x.toInt8.toInt32 = v) {pc' : Nat} (hp : pc + 1 = pc') (k : EndW p e below s Z Q cC cS T (mkF m pc' Ls (.int v :: st))) : EndW p e below s Z Q cC cS T (mkF m pc Ls (.int x :: st)) := by
  subst hp hv; exact F_by (fun _ q => XS.i2b X.at X.hx rfl (X.hb hd) rfl q) k
theorem F_i2s (X : Ww l Z R bytes mL ret own nm p e s m args below meth c vm T cells slots) {x v : Int32} (hd : decode bytes pc = .ok (.i2s, 1)) (hv : x.toInt16.toInt32 = v) {pc' : Nat} (hp : pc + 1 = pc') (k : EndW p e below s Z Q cC cS T (mkF m pc' Ls (.int v :: st))) : EndW p e below s Z Q cC cS T (mkF m pc Ls (.int x :: st)) := by
  subst hp hv; exact F_by (fun _ q => XS.i2s X.at X.hx rfl (X.hb hd) rfl q) k
theorem F_dup (X : Ww l Z R bytes mL ret own nm p e s m args below meth c vm T cells slots) {v : Value} (hd : decode bytes pc = .ok (.dup, 1)) (hc : v.category = 1) {pc' : Nat} (hp : pc + 1 = pc') (k : EndW p e below s Z Q cC cS T (mkF m pc' Ls (v :: v :: st))) : EndW p e below s Z Q cC cS T (mkF m pc Ls (v :: st)) := by
  subst hp; exact F_by (fun _ q => XS.dup X.at X.hx rfl (X.hb hd) rfl hc q) k
theorem F_pop (X : Ww l Z R bytes mL ret own nm p e s m args below meth c vm T cells slots) {v : Value} (hd : decode bytes pc = .ok (.pop, 1)) (hc : v.category = 1) {pc' : Nat} (hp : pc + 1 = pc') (k : EndW p e below s Z Q cC cS T (mkF m pc' Ls (st))) : EndW p e below s Z Q cC cS T (mkF m pc Ls (v :: st)) := by
  subst hp; exact F_by (fun _ q => XS.pop X.at X.hx rfl (X.hb hd) rfl hc q) k
theorem F_istoreN (X : Ww l Z R bytes mL ret own nm p e s m args below meth c vm T cells slots) {j : Fin 4} {x : Int32} (hd : decode bytes pc = .ok (.istore_n j, 1)) {l' : Array Slot} (hl : storeLocals Ls j.val (.int x) = some l') {pc' : Nat} (hp : pc + 1 = pc') (k : EndW p e below s Z Q cC cS T (mkF m pc' l' (st))) : EndW p e below s Z Q cC cS T (mkF m pc Ls (.int x :: st)) := by
  subst hp; exact F_by (fun _ q => XS.istoreN X.at X.hx rfl (X.hb hd) rfl hl q) k
theorem F_istore (X : Ww l Z R bytes mL ret own nm p e s m args below meth c vm T cells slots) {j : Nat} {x : Int32} (hd : decode bytes pc = .ok (.istore j, 2)) {l' : Array Slot} (hl : storeLocals Ls j (.int x) = some l') {pc' : Nat} (hp : pc + 2 = pc') (k : EndW p e below s Z Q cC cS T (mkF m pc' l' (st))) : EndW p e below s Z Q cC cS T (mkF m pc Ls (.int x :: st)) := by
  subst hp; exact F_by (fun _ q => XS.istore X.at X.hx rfl (X.hb hd) rfl hl q) k
theorem F_astoreN (X : Ww l Z R bytes mL ret own nm p e s m args below meth c vm T cells slots) {j : Fin 4} {x : Value} (hd : decode bytes pc = .ok (.astore_n j, 1)) (hv : x.isRef = true) {l' : Array Slot} (hl : storeLocals Ls j.val x = some l') {pc' : Nat} (hp : pc + 1 = pc') (k : EndW p e below s Z Q cC cS T (mkF m pc' l' (st))) : EndW p e below s Z Q cC cS T (mkF m pc Ls (x :: st)) := by
  subst hp; exact F_by (fun _ q => XS.astoreN X.at X.hx rfl (X.hb hd) rfl hv hl q) k
theorem F_astore (X : Ww l Z R bytes mL ret own nm p e s m args below meth c vm T cells slots) {j : Nat} {x : Value} (hd : decode bytes pc = .ok (.astore j, 2)) (hv : x.isRef = true) {l' : Array Slot} (hl : storeLocals Ls j x = some l') {pc' : Nat} (hp : pc + 2 = pc') (k : EndW p e below s Z Q cC cS T (mkF m pc' l' (st))) : EndW p e below s Z Q cC cS T (mkF m pc Ls (x :: st)) := by
  subst hp; exact F_by (fun _ q => XS.astore X.at X.hx rfl (X.hb hd) rfl hv hl q) k
theorem F_iinc (X : Ww l Z R bytes mL ret own nm p e s m args below meth c vm T cells slots) {j : Nat} {i : Int} {x y : Int32} (hd : decode bytes pc = .ok (.iinc j i, 3)) (hy : x + Int32.ofInt i = y) (hl : Ls[j]? = some (.val (.int x))) {l' : Array Slot} (hl' : storeLocals Ls j (.int y) = some l') {pc' : Nat} (hp : pc + 3 = pc') (k : EndW p e below s Z Q cC cS T (mkF m pc' l' st)) : EndW p e below s Z Q cC cS T (mkF m pc Ls st) := by
  subst hp hy; exact F_by (fun _ q => XS.iinc X.at X.hx rfl (X.hb hd) hl hl' q) k
theorem F_irem (X : Ww l Z R bytes mL ret own nm p e s m args below meth c vm T cells slots) {x y v : Int32} (hd : decode bytes pc = .ok (.irem, 1)) (hy : y ≠ 0) (hv : x % y = v) {pc' : Nat} (hp : pc + 1 = pc') (k : EndW p e below s Z Q cC cS T (mkF m pc' Ls (.int v :: st))) : EndW p e below s Z Q cC cS T (mkF m pc Ls (.int y :: .int x :: st)) := by
  subst hp hv; obtain ⟨q, q2, locs, Y, r⟩ := id X; exact F_by (fun _ k => iremM Y X.hx rfl (X.hb hd) rfl hy k) k
theorem F_idiv (X : Ww l Z R bytes mL ret own nm p e s m args below meth c vm T cells slots) {x y v : Int32} (hd : decode bytes pc = .ok (.idiv, 1)) (hy : y ≠ 0) (hv : x / y = v) {pc' : Nat} (hp : pc + 1 = pc') (k : EndW p e below s Z Q cC cS T (mkF m pc' Ls (.int v :: st))) : EndW p e below s Z Q cC cS T (mkF m pc Ls (.int y :: .int x :: st)) := by
  subst hp hv; exact F_by (fun _ k => XS.idiv X.at X.hx rfl (X.hb hd) rfl hy k) k
theorem F_goto (X : Ww l Z R bytes mL ret own nm p e s m args below meth c vm T cells slots) {o : Int} (hd : decode bytes pc = .ok (.goto o, 3)) {pc' : Nat} (ho : 0 ≤ (pc : Int) + o) (hp : ((pc : Int) + o).toNat = pc') (k : EndW p e below s Z Q cC cS T (mkF m pc' Ls st)) : EndW p e below s Z Q cC cS T (mkF m pc Ls st) :=
  F_by (fun _ q => XS.goto X.at X.hx rfl (pc0 := pc) rfl (X.hb hd) ho hp q) k
theorem F_ifT (X : Ww l Z R bytes mL ret own nm p e s m args below meth c vm T cells slots) {cd : ClassFile.Cond} {o : Int} {x : Int32} (hd : decode bytes pc = .ok (.ifCond cd o, 3)) (hc : ifCond.holds cd x = true) {pc' : Nat} (ho : 0 ≤ (pc : Int) + o) (hp : ((pc : Int) + o).toNat = pc') (k : EndW p e below s Z Q cC cS T (mkF m pc' Ls st)) : EndW p e below s Z Q cC cS T (mkF m pc Ls (.int x :: st)) :=
  F_by (fun _ q => XS.ifYes X.at X.hx rfl (pc0 := pc) rfl (X.hb hd) rfl hc ho hp q) k
theorem F_ifF (X : Ww l Z R bytes mL ret own nm p e s m args below meth c vm T cells slots) {cd : ClassFile.Cond} {o : Int} {x : Int32} (hd : decode bytes pc = .ok (.ifCond cd o, 3)) (hc : ifCond.holds cd x = false) {pc' : Nat} (hp : pc + 3 = pc') (k : EndW p e below s Z Q cC cS T (mkF m pc' Ls st)) : EndW p e below s Z Q cC cS T (mkF m pc Ls (.int x :: st)) := by
  subst hp; exact F_by (fun _ q => XS.ifNo X.at X.hx rfl (X.hb hd) rfl hc q) k
theorem F_icT (X : Ww l Z R bytes mL ret own nm p e s m args below meth c vm T cells slots) {cd : ClassFile.Cond} {o : Int} {x y : Int32} (hd : decode bytes pc = .ok (.if_icmp cd o, 3)) (hc : if_icmp.holds cd x y = true) {pc' : Nat} (ho : 0 ≤ (pc : Int) + o) (hp : ((pc : Int) + o).toNat = pc') (k : EndW p e below s Z Q cC cS T (mkF m pc' Ls st)) : EndW p e below s Z Q cC cS T (mkF m pc Ls (.int y :: .int x :: st)) :=
  F_by (fun _ q => XS.icmpYes X.at X.hx rfl (pc0 := pc) rfl (X.hb hd) rfl hc ho hp q) k
theorem F_icF (X : Ww l Z R bytes mL ret own nm p e s m args below meth c vm T cells slots) {cd : ClassFile.Cond} {o : Int} {x y : Int32} (hd : decode bytes pc = .ok (.if_icmp cd o, 3)) (hc : if_icmp.holds cd x y = false) {pc' : Nat} (hp : pc + 3 = pc') (k : EndW p e below s Z Q cC cS T (mkF m pc' Ls st)) : EndW p e below s Z Q cC cS T (mkF m pc Ls (.int y :: .int x :: st)) := by
  subst hp; exact F_by (fun _ q => XS.icmpNo X.at X.hx rfl (X.hb hd) rfl hc q) k
theorem F_nullT (X : Ww l Z R bytes mL ret own nm p e s m args below meth c vm T cells slots) {o : Int} (hd : decode bytes pc = .ok (.ifnull o, 3)) {pc' : Nat} (ho : 0 ≤ (pc : Int) + o) (hp : ((pc : Int) + o).toNat = pc') (k : EndW p e below s Z Q cC cS T (mkF m pc' Ls st)) : EndW p e below s Z Q cC cS T (mkF m pc Ls (.null :: st)) :=
  F_by (fun _ q => XS.ifnullYes X.at X.hx rfl (pc0 := pc) rfl (X.hb hd) rfl ho hp q) k
theorem F_nullF (X : Ww l Z R bytes mL ret own nm p e s m args below meth c vm T cells slots) {o : Int} {b : Addr} (hd : decode bytes pc = .ok (.ifnull o, 3)) {pc' : Nat} (hp : pc + 3 = pc') (k : EndW p e below s Z Q cC cS T (mkF m pc' Ls st)) : EndW p e below s Z Q cC cS T (mkF m pc Ls (.ref b :: st)) := by
  subst hp; exact F_by (fun _ q => XS.ifnullNo X.at X.hx rfl (X.hb hd) rfl q) k
theorem F_nonnullT (X : Ww l Z R bytes mL ret own nm p e s m args below meth c vm T cells slots) {o : Int} {b : Addr} (hd : decode bytes pc = .ok (.ifnonnull o, 3)) {pc' : Nat} (ho : 0 ≤ (pc : Int) + o) (hp : ((pc : Int) + o).toNat = pc') (k : EndW p e below s Z Q cC cS T (mkF m pc' Ls st)) : EndW p e below s Z Q cC cS T (mkF m pc Ls (.ref b :: st)) :=
  F_by (fun _ q => XT.nonnullYes X.at X.hx rfl (pc0 := pc) rfl (X.hb hd) rfl rfl (fun q => nomatch q) ho hp q) k
theorem F_nonnullF (X : Ww l Z R bytes mL ret own nm p e s m args below meth c vm T cells slots) {o : Int} (hd : decode bytes pc = .ok (.ifnonnull o, 3)) {pc' : Nat} (hp : pc + 3 = pc') (k : EndW p e below s Z Q cC cS T (mkF m pc' Ls st)) : EndW p e below s Z Q cC cS T (mkF m pc Ls (.null :: st)) := by
  subst hp; exact F_by (fun _ q => XT.nonnullNo X.at X.hx rfl (X.hb hd) rfl rfl q) k
theorem F_acmp (X : Ww l Z R bytes mL ret own nm p e s m args below meth c vm T cells slots) {cd : ACond} {o : Int} {x y : Value} (hd : decode bytes pc = .ok (.if_acmp cd o, 3)) (h1 : x.isRef = true) (h2 : y.isRef = true) (same : Bool) (hq : decide (x = y) = same) {pc' : Nat} (ho : 0 ≤ (pc : Int) + o) (hp : pc' = if acV cd same = true then ((pc : Int) + o).toNat else pc + 3) (k : EndW p e below s Z Q cC cS T (mkF m pc' Ls st)) : EndW p e below s Z Q cC cS T (mkF m pc Ls (y :: x :: st)) := by
  obtain ⟨_, _, locs, Y, r⟩ := id X; exact F_by (fun _ q => acmp Y X.hx rfl h1 h2 (pc0 := pc) rfl (X.hb hd) rfl hq ho hp q) k
theorem F_ldcI (X : Ww l Z R bytes mL ret own nm p e s m args below meth c vm T cells slots) {ix : Nat} {v : Int32} (hd : decode bytes pc = .ok (.ldc ix, 2)) (w : (Jvm.Cond.constant own ix v).before a0 Z = true) {pc' : Nat} (hp : pc + 2 = pc') (k : EndW p e below s Z Q cC cS T (mkF m pc' Ls (.int v :: st))) : EndW p e below s Z Q cC cS T (mkF m pc Ls st) := by
  subst hp; obtain ⟨_, _, locs, Y, r⟩ := id X; exact F_by (fun _ q => Y.ldcI X.hx X.hown (mvT X.hZ w) rfl (X.hb hd) q) k

theorem F_new (X : Ww l Z R bytes mL ret own nm p e s m args below meth c vm T cells slots) {C : String} {ix n : Nat} (hd : decode bytes pc = .ok (.new ix, 3)) (w1 : (Jvm.Cond.classLink own ix C).before a0 Z = true) (w2 : (Jvm.Cond.instantiable C n).before a0 Z = true) (w3 : (Jvm.Cond.initialized C).before a0 Z = true) (hc : cells + 1 ≤ R.cells) (hs : slots + n ≤ R.slots) {pc' : Nat} (hp : pc + 3 = pc')
    (k : ∀ (T' : State) (b : Addr), Ww l Z R bytes mL ret own nm p e s m args below meth c vm T' (cells + 1) (slots + n) → b = T.heap.size → Keep T.heap T'.heap [] → Exa Z T'.heap b C → (∀ {O nm d : String} {ty : FieldType}, Laid Z a0 C O nm d → parseFieldDescriptor d = some ty → Fld Z T'.heap b O nm d (defaultValue ty)) → EndW p e below s Z Q cC cS T' (mkF m pc' Ls (.ref b :: st))) : EndW p e below s Z Q cC cS T (mkF m pc Ls st) := by
  subst hp; obtain ⟨q0, qq, locs, Y, N, O⟩ := id X
  obtain ⟨T', h', Y', rfl, E, A, D, -, stp⟩ := newO Y X.hx X.hZ X.hown w1 w2 w3 rfl (g := mkF m pc Ls st) rfl (X.hb hd) hc hs
  exact F_by stp (k T' _ (X.go Y' N (Keep.of_ext E) all0 sf0) rfl (Keep.of_ext E) A D)
theorem F_newarray (X : Ww l Z R bytes mL ret own nm p e s m args below meth c vm T cells slots) {aty : ArrayType} {n : Int32} (cap : Nat) (hd : decode bytes pc = .ok (.newarray aty, 2)) (w : (Jvm.Cond.arrayClass (newarray.typeOf aty)).before a0 Z = true) (hn : ¬ n < 0) (hcap : n.toNatClampNeg ≤ cap) (hb : cap * 8 ≤ 536870912) (hc : cells + 1 ≤ R.cells) (hs : slots + cap ≤ R.slots) {pc' : Nat} (hp : pc + 2 = pc')
    (k : ∀ (T' : State) (b : Addr) (kA : ClassId), Ww l Z R bytes mL ret own nm p e s m args below meth c vm T' (cells + 1) (slots + cap) → b = T.heap.size → Keep T.heap T'.heap [] → Arv Z T'.heap b kA (newarray.typeOf aty) n [] (defaultValue (newarray.typeOf aty)) → EndW p e below s Z Q cC cS T' (mkF m pc' Ls (.ref b :: st))) : EndW p e below s Z Q cC cS T (mkF m pc Ls (.int n :: st)) := by
  subst hp; obtain ⟨q0, qq, locs, Y, N, O⟩ := id X
  obtain ⟨T', h', kA, Y', rfl, E, A, stp⟩ := newP Y X.hx X.hZ w rfl (g := mkF m pc Ls (.int n :: st)) rfl (X.hb hd) rfl hn hcap hb hc hs
  exact F_by stp (k T' _ kA (X.go Y' N (Keep.of_ext E) all0 sf0) rfl (Keep.of_ext E) (Arv.new A hn))
theorem F_iastore (X : Ww l Z R bytes mL ret own nm p e s m args below meth c vm T cells slots) {a : Addr} {kA : ClassId} {z j x : Int32} {vs : List Value} {dv : Value} {y : Int32} (i : Nat) (hd : decode bytes pc = .ok (.iastore, 1)) (hy : x = y) (V : Arv Z T.heap a kA .int z vs dv) (hj : ¬ j < 0 ∧ j < z) (hi : j.toNatClampNeg = i) (hl : i < vs.length) (ha : Z.heap.size ≤ a) {pc' : Nat} (hp : pc + 1 = pc')
    (k : ∀ (T' : State), Ww l Z R bytes mL ret own nm p e s m args below meth c vm T' cells slots → Keep T.heap T'.heap [a] → Arv Z T'.heap a kA .int z (vs.set i (.int y)) dv → EndW p e below s Z Q cC cS T' (mkF m pc' Ls st)) : EndW p e below s Z Q cC cS T (mkF m pc Ls (.int x :: .int j :: .ref a :: st)) := by
  subst hp hy; obtain ⟨q0, qq, locs, Y, N, O⟩ := id X
  obtain ⟨cl, A, q1, S1, N1, H1, G1⟩ := V
  obtain ⟨T', h', Y', rfl, W, stp⟩ := stI Y X.hx X.hZ rfl A (j := j) (x := x) (inb_of S1 hj) (g := mkF m pc Ls (.int x :: .int j :: .ref a :: st)) rfl rfl (X.hb hd)
  exact F_by stp (k T' (X.go Y' (Fr.snoc Y' N ha) (Keep.of_wr W) (allS ha all0) (sfS (Safe.arr X.al A (by simp)) sf0)) (Keep.of_wr W) (Arv.set A q1 S1 N1 H1 G1 (rfl) W i hi hl))
theorem F_castore (X : Ww l Z R bytes mL ret own nm p e s m args below meth c vm T cells slots) {a : Addr} {kA : ClassId} {z j x : Int32} {vs : List Value} {dv : Value} {y : Int32} (i : Nat) (hd : decode bytes pc = .ok (.castore, 1)) (hy : nar .char x = y) (V : Arv Z T.heap a kA .char z vs dv) (hj : ¬ j < 0 ∧ j < z) (hi : j.toNatClampNeg = i) (hl : i < vs.length) (ha : Z.heap.size ≤ a) {pc' : Nat} (hp : pc + 1 = pc')
    (k : ∀ (T' : State), Ww l Z R bytes mL ret own nm p e s m args below meth c vm T' cells slots → Keep T.heap T'.heap [a] → Arv Z T'.heap a kA .char z (vs.set i (.int y)) dv → EndW p e below s Z Q cC cS T' (mkF m pc' Ls st)) : EndW p e below s Z Q cC cS T (mkF m pc Ls (.int x :: .int j :: .ref a :: st)) := by
  subst hp hy; obtain ⟨q0, qq, locs, Y, N, O⟩ := id X
  obtain ⟨cl, A, q1, S1, N1, H1, G1⟩ := V
  obtain ⟨T', h', Y', rfl, W, stp⟩ := stC Y X.hx X.hZ rfl A (j := j) (x := x) (inb_of S1 hj) (g := mkF m pc Ls (.int x :: .int j :: .ref a :: st)) rfl rfl (X.hb hd)
  exact F_by stp (k T' (X.go Y' (Fr.snoc Y' N ha) (Keep.of_wr W) (allS ha all0) (sfS (Safe.arr X.al A (by simp)) sf0)) (Keep.of_wr W) (Arv.set A q1 S1 N1 H1 G1 (fits_nar_char _) W i hi hl))
theorem F_iastoreA (X : Ww l Z R bytes mL ret own nm p e s m args below meth c vm T cells slots) {a : Addr} {kA : ClassId} {z j x : Int32} {vs : List Value} {dv : Value} {y : Int32} (hd : decode bytes pc = .ok (.iastore, 1)) (hy : x = y) (V : Arv Z T.heap a kA .int z vs dv) (hj : ¬ j < 0 ∧ j < z) (hi : j.toNatClampNeg = vs.length) (ha : Z.heap.size ≤ a) {pc' : Nat} (hp : pc + 1 = pc')
    (k : ∀ (T' : State), Ww l Z R bytes mL ret own nm p e s m args below meth c vm T' cells slots → Keep T.heap T'.heap [a] → Arv Z T'.heap a kA .int z (vs ++ [.int y]) dv → EndW p e below s Z Q cC cS T' (mkF m pc' Ls st)) : EndW p e below s Z Q cC cS T (mkF m pc Ls (.int x :: .int j :: .ref a :: st)) := by
  refine F_iastore X vs.length hd hy (V.pad (pad_rep vs dv 1)) hj hi (by simp) ha hp fun T' X' K' V' => k T' X' K' ?_
  have q : (vs ++ List.replicate 1 dv).set vs.length (.int y) = vs ++ [.int y] := by simp
  rw [q] at V'; exact V'
theorem F_castoreA (X : Ww l Z R bytes mL ret own nm p e s m args below meth c vm T cells slots) {a : Addr} {kA : ClassId} {z j x : Int32} {vs : List Value} {dv : Value} {y : Int32} (hd : decode bytes pc = .ok (.castore, 1)) (hy : nar .char x = y) (V : Arv Z T.heap a kA .char z vs dv) (hj : ¬ j < 0 ∧ j < z) (hi : j.toNatClampNeg = vs.length) (ha : Z.heap.size ≤ a) {pc' : Nat} (hp : pc + 1 = pc')
    (k : ∀ (T' : State), Ww l Z R bytes mL ret own nm p e s m args below meth c vm T' cells slots → Keep T.heap T'.heap [a] → Arv Z T'.heap a kA .char z (vs ++ [.int y]) dv → EndW p e below s Z Q cC cS T' (mkF m pc' Ls st)) : EndW p e below s Z Q cC cS T (mkF m pc Ls (.int x :: .int j :: .ref a :: st)) := by
  refine F_castore X vs.length hd hy (V.pad (pad_rep vs dv 1)) hj hi (by simp) ha hp fun T' X' K' V' => k T' X' K' ?_
  have q : (vs ++ List.replicate 1 dv).set vs.length (.int y) = vs ++ [.int y] := by simp
  rw [q] at V'; exact V'
theorem F_iaload (X : Ww l Z R bytes mL ret own nm p e s m args below meth c vm T cells slots) {a : Addr} {kA : ClassId} {z j : Int32} {vs : List Value} {dv v : Value} (hd : decode bytes pc = .ok (.iaload, 1)) (V : Arv Z T.heap a kA .int z vs dv) (hj : ¬ j < 0 ∧ j < z) (hv : vs.getD j.toNatClampNeg dv = v) {pc' : Nat} (hp : pc + 1 = pc')
    (k : EndW p e below s Z Q cC cS T (mkF m pc' Ls (v :: st))) : EndW p e below s Z Q cC cS T (mkF m pc Ls (.int j :: .ref a :: st)) := by
  subst hp; obtain ⟨q0, qq, locs, Y, N, O⟩ := id X
  obtain ⟨cl, A, q1, S1, N1, H1, G1⟩ := V
  exact F_by (Y.iaload X.hx A.1 (State.isArrayOf_alike X.hZ.alike A.2.1) A.2.2 (inb_of S1 hj) (Has.at H1 (inb_of S1 hj) hv) (g := mkF m pc Ls (.int j :: .ref a :: st)) rfl rfl (X.hb hd)) k
theorem F_caload (X : Ww l Z R bytes mL ret own nm p e s m args below meth c vm T cells slots) {a : Addr} {kA : ClassId} {z j : Int32} {vs : List Value} {dv v : Value} (hd : decode bytes pc = .ok (.caload, 1)) (V : Arv Z T.heap a kA .char z vs dv) (hj : ¬ j < 0 ∧ j < z) (hv : vs.getD j.toNatClampNeg dv = v) {pc' : Nat} (hp : pc + 1 = pc')
    (k : EndW p e below s Z Q cC cS T (mkF m pc' Ls (v :: st))) : EndW p e below s Z Q cC cS T (mkF m pc Ls (.int j :: .ref a :: st)) := by
  subst hp; obtain ⟨q0, qq, locs, Y, N, O⟩ := id X
  obtain ⟨cl, A, q1, S1, N1, H1, G1⟩ := V
  exact F_by (Y.caload X.hx A.1 (State.isArrayOf_alike X.hZ.alike A.2.1) A.2.2 (inb_of S1 hj) (Has.at H1 (inb_of S1 hj) hv) (g := mkF m pc Ls (.int j :: .ref a :: st)) rfl rfl (X.hb hd)) k
theorem F_baload (X : Ww l Z R bytes mL ret own nm p e s m args below meth c vm T cells slots) {a : Addr} {kA : ClassId} {z j : Int32} {vs : List Value} {dv v : Value} (hd : decode bytes pc = .ok (.baload, 1)) (V : Arv Z T.heap a kA .byte z vs dv) (hj : ¬ j < 0 ∧ j < z) (hv : vs.getD j.toNatClampNeg dv = v) {pc' : Nat} (hp : pc + 1 = pc')
    (k : EndW p e below s Z Q cC cS T (mkF m pc' Ls (v :: st))) : EndW p e below s Z Q cC cS T (mkF m pc Ls (.int j :: .ref a :: st)) := by
  subst hp; obtain ⟨q0, qq, locs, Y, N, O⟩ := id X
  obtain ⟨cl, A, q1, S1, N1, H1, G1⟩ := V
  exact F_by (Y.baloadBytes X.hx A.1 (State.isArrayOf_alike X.hZ.alike A.2.1) A.2.2 (inb_of S1 hj) (Has.at H1 (inb_of S1 hj) hv) (g := mkF m pc Ls (.int j :: .ref a :: st)) rfl rfl (X.hb hd)) k
theorem F_aaload (X : Ww l Z R bytes mL ret own nm p e s m args below meth c vm T cells slots) {a : Addr} {kA : ClassId} {z j : Int32} {vs : List Value} {dv v : Value} {ty : FieldType} (hd : decode bytes pc = .ok (.aaload, 1)) (V : Arv Z T.heap a kA ty z vs dv) (hty : ty.isReference = true) (hj : ¬ j < 0 ∧ j < z) (hv : vs.getD j.toNatClampNeg dv = v) {pc' : Nat} (hp : pc + 1 = pc')
    (k : EndW p e below s Z Q cC cS T (mkF m pc' Ls (v :: st))) : EndW p e below s Z Q cC cS T (mkF m pc Ls (.int j :: .ref a :: st)) := by
  subst hp; obtain ⟨q0, qq, locs, Y, N, O⟩ := id X
  obtain ⟨cl, A, q1, S1, N1, H1, G1⟩ := V
  exact F_by (Y.aaload X.hx A.1 (State.isArrayOf_alike X.hZ.alike A.2.1) hty A.2.2 (inb_of S1 hj) (Has.at H1 (inb_of S1 hj) hv) (g := mkF m pc Ls (.int j :: .ref a :: st)) rfl rfl (X.hb hd)) k
theorem F_arraylength (X : Ww l Z R bytes mL ret own nm p e s m args below meth c vm T cells slots) {a : Addr} {kA : ClassId} {z : Int32} {vs : List Value} {dv : Value} {ty : FieldType} (hd : decode bytes pc = .ok (.arraylength, 1)) (V : Arv Z T.heap a kA ty z vs dv) {pc' : Nat} (hp : pc + 1 = pc')
    (k : EndW p e below s Z Q cC cS T (mkF m pc' Ls (.int z :: st))) : EndW p e below s Z Q cC cS T (mkF m pc Ls (.ref a :: st)) := by
  subst hp; obtain ⟨q0, qq, locs, Y, N, O⟩ := id X
  obtain ⟨cl, A, q1, S1, N1, H1, G1⟩ := V
  refine F_by (Y.arraylength X.hx A.1 (State.isArrayOf_alike X.hZ.alike A.2.1) (g := mkF m pc Ls (.ref a :: st)) rfl rfl (X.hb hd)) ?_
  rw [len_of S1 N1]; exact k
theorem F_getfield (X : Ww l Z R bytes mL ret own nm p e s m args below meth c vm T cells slots) {a : Addr} {O n d R0 : String} {ix : Nat} {v : Value} (hd : decode bytes pc = .ok (.getfield ix, 3)) (w : (Jvm.Cond.fieldLink own ix R0 n d).before a0 Z = true) (via : Via Z R0 O n d) (F : Fld Z T.heap a O n d v) {pc' : Nat} (hp : pc + 3 = pc')
    (k : ∀ (T' : State), Ww l Z R bytes mL ret own nm p e s m args below meth c vm T' cells slots → T'.heap = T.heap → EndW p e below s Z Q cC cS T' (mkF m pc' Ls (v :: st))) : EndW p e below s Z Q cC cS T (mkF m pc Ls (.ref a :: st)) := by
  subst hp; obtain ⟨q0, qq, locs, Y, N, Od⟩ := id X
  obtain ⟨T', Y', e1, stp⟩ := getF Y X.hx X.hZ X.hown (host := "") (Or.inl w) via rfl F (g := mkF m pc Ls (.ref a :: st)) rfl rfl (X.hb hd)
  exact F_by stp (k T' (X.go Y' N (own_ks e1) all0 sf0) e1)
theorem F_getstatic (X : Ww l Z R bytes mL ret own nm p e s m args below meth c vm T cells slots) {O n d R0 : String} {ix : Nat} {v : Value} (hd : decode bytes pc = .ok (.getstatic ix, 3)) (w : (Jvm.Cond.fieldLink own ix R0 n d).before a0 Z = true) (via : Via Z R0 O n d) (F : Sta Z Z.heap O n d v) {pc' : Nat} (hp : pc + 3 = pc')
    (k : ∀ (T' : State), Ww l Z R bytes mL ret own nm p e s m args below meth c vm T' cells slots → T'.heap = T.heap → EndW p e below s Z Q cC cS T' (mkF m pc' Ls (v :: st))) : EndW p e below s Z Q cC cS T (mkF m pc Ls st) := by
  subst hp; obtain ⟨q0, qq, locs, Y, N, Od⟩ := id X
  obtain ⟨T', Y', e1, stp⟩ := getS Y X.hx X.hZ (host := "") X.hown w via rfl (F.ext Od) (g := mkF m pc Ls st) rfl (X.hb hd)
  exact F_by stp (k T' (X.go Y' N (own_ks e1) all0 sf0) e1)
theorem F_putfield (X : Ww l Z R bytes mL ret own nm p e s m args below meth c vm T cells slots) {a : Addr} {O n d R0 C : String} {ix kk : Nat} {v old : Value} {ty : FieldType} (hd : decode bytes pc = .ok (.putfield ix, 3)) (w : (Jvm.Cond.fieldLink own ix R0 n d).before a0 Z = true) (via : Via Z R0 O n d) (F : Fld Z T.heap a O n d old) (E : Exa Z T.heap a C) (L : (Jvm.Cond.lays C O n d).before a0 Z = true ∨ ((Jvm.Cond.laysFinal C O n d).before a0 Z = true ∧ own = O ∧ nm = "<init>")) (wi : (Jvm.Cond.instantiable C kk).before a0 Z = true) (hty : parseFieldDescriptor d = some ty) (hn : narrow ty v = v) (hf : fits ty v = true) (ha : Z.heap.size ≤ a) (hsf : Safe Z EL vm T.heap a) {pc' : Nat} (hp : pc + 3 = pc')
    (k : ∀ (T' : State), Ww l Z R bytes mL ret own nm p e s m args below meth c vm T' cells slots → Wr T.heap T'.heap a (Jvm.RoadKit.slotOf Z O n d) v → EndW p e below s Z Q cC cS T' (mkF m pc' Ls st)) : EndW p e below s Z Q cC cS T (mkF m pc Ls (v :: .ref a :: st)) := by
  subst hp; obtain ⟨q0, qq, locs, Y, N, Od⟩ := id X
  obtain ⟨T', h', Y', rfl, W, stp⟩ := putF Y X.hx X.hZ X.hown (host := "") (Or.inl w) via rfl F E (L.imp id fun q => ⟨q.1, q.2.1, q0.2.2.2.2.2.2.1.trans q.2.2⟩) wi hty hn hf (g := mkF m pc Ls (v :: .ref a :: st)) rfl rfl (X.hb hd)
  exact F_by stp (k T' (X.go Y' (Fr.snoc Y' N ha) (Keep.of_wr W) (allS ha all0) (sfS hsf sf0)) W)
theorem F_initO (X : Ww l Z R bytes mL ret own nm p e s m args below meth c vm T cells slots) {a : Addr} {ix : Nat} (hd : decode bytes pc = .ok (.invokespecial ix, 3)) (w1 : (Jvm.Cond.methodLink own ix Lib.objectInit).before a0 Z = true) (w2 : (Jvm.Cond.instanceMethod Lib.objectInit).before a0 Z = true) (w3 : (Jvm.Cond.code Lib.objectInit ⟨#[0xb1]⟩ 1 none).before a0 Z = true) (hsz : Ls.size = mL) (hf : 1 ≤ R.frames) (hl : (st.map fun v => v.category).sum + 12 ≤ R.locals) {pc' : Nat} (hp : pc + 3 = pc')
    (k : ∀ (T' : State), Ww l Z R bytes mL ret own nm p e s m args below meth c vm T' cells slots → T'.heap = T.heap → EndW p e below s Z Q cC cS T' (mkF m pc' Ls st)) : EndW p e below s Z Q cC cS T (mkF m pc Ls (.ref a :: st)) := by
  subst hp; obtain ⟨q0, qq, locs, Y, N, Od⟩ := id X
  obtain ⟨T', Y', e1, stp⟩ := initO Y X.hx X.hZ X.hown w1 w2 w3 rfl (g := mkF m pc Ls (.ref a :: st)) rfl (X.size hsz) rfl (X.hb hd) hf (W := (st.map fun v => v.category).sum) (by show 2 * 0 + _ ≤ _; omega) hl
  exact F_by stp (k T' (X.go Y' N (own_ks e1) all0 sf0) e1)
theorem F_checkcast (X : Ww l Z R bytes mL ret own nm p e s m args below meth c vm T cells slots) {a : Addr} {K : String} {ix : Nat} (hd : decode bytes pc = .ok (.checkcast ix, 3)) (w : (Jvm.Cond.classLink own ix K).before a0 Z = true) (F : Ins Z T.heap a K true) {pc' : Nat} (hp : pc + 3 = pc')
    (k : ∀ (T' : State), Ww l Z R bytes mL ret own nm p e s m args below meth c vm T' cells slots → T'.heap = T.heap → EndW p e below s Z Q cC cS T' (mkF m pc' Ls (.ref a :: st))) : EndW p e below s Z Q cC cS T (mkF m pc Ls (.ref a :: st)) := by
  subst hp; obtain ⟨q0, qq, locs, Y, N, Od⟩ := id X
  obtain ⟨T', Y', e1, stp⟩ := castY Y X.hx X.hZ X.hown w rfl F (g := mkF m pc Ls (.ref a :: st)) rfl rfl (X.hb hd)
  exact F_by stp (k T' (X.go Y' N (own_ks e1) all0 sf0) e1)
theorem F_instY (X : Ww l Z R bytes mL ret own nm p e s m args below meth c vm T cells slots) {a : Addr} {K : String} {ix : Nat} (hd : decode bytes pc = .ok (.instanceof ix, 3)) (w : (Jvm.Cond.classLink own ix K).before a0 Z = true) (F : Ins Z T.heap a K true) {pc' : Nat} (hp : pc + 3 = pc')
    (k : ∀ (T' : State), Ww l Z R bytes mL ret own nm p e s m args below meth c vm T' cells slots → T'.heap = T.heap → EndW p e below s Z Q cC cS T' (mkF m pc' Ls (.int 1 :: st))) : EndW p e below s Z Q cC cS T (mkF m pc Ls (.ref a :: st)) := by
  subst hp; obtain ⟨q0, qq, locs, Y, N, Od⟩ := id X
  obtain ⟨T', Y', e1, stp⟩ := instY Y X.hx X.hZ X.hown w rfl F (g := mkF m pc Ls (.ref a :: st)) rfl rfl (X.hb hd)
  exact F_by stp (k T' (X.go Y' N (own_ks e1) all0 sf0) e1)

theorem F_ldcS (X : Ww l Z R bytes mL ret own nm p e s m args below meth c vm T cells slots) {ix n : Nat} {text : String} {vs : List Value} {z : Int32} (hd : decode bytes pc = .ok (.ldc ix, 2)) (w : (Jvm.Cond.stringLink own ix text).before a0 Z = true) (wS : ∀ a ∈ Bundle.stringAtoms, a.before a0 Z = true) (hE : EW Z a0 EL) (hmem : (own, ix) ∈ EL) (ht : (∀ c ∈ text.toList, c.toNat < 256) ∧ text.toList.map (fun c => Value.int (Jvm.Lit.byteI c.toNat.toUInt16)) = vs) (hz : ¬ z < 0) (hl : z.toNatClampNeg = vs.length) (hn : 4 * text.toList.length ≤ n) (hbig : n ≤ 536870912) (hc : cells + 2 ≤ R.cells) (hs : slots + (n + 4) ≤ R.slots) {pc' : Nat} (hp : pc + 2 = pc')
    (k : ∀ (T' : State) (a b : Addr) (kb : ClassId), Ww l Z R bytes mL ret own nm p e s m args below meth c T'.vm T' (cells + 2) (slots + (n + 4)) → Keep T.heap T'.heap [] → Exa Z T'.heap a "java/lang/String" → Fld Z T'.heap a "java/lang/String" "coder" "B" (.int 0) → Fld Z T'.heap a "java/lang/String" "value" "[B" (.ref b) → Arv Z T'.heap b kb .byte z vs (.int 0) → (∀ x, x < T.heap.size → Safe Z EL vm T.heap x → Safe Z EL T'.vm T'.heap x ∧ x ≠ a ∧ x ≠ b) → EndW p e below s Z Q cC cS T' (mkF m pc' Ls (.ref a :: st))) : EndW p e below s Z Q cC cS T (mkF m pc Ls st) := by
  subst hp; obtain ⟨q0, ⟨⟨k0, hS, hk⟩, hE1, hC⟩, locs, Y, N, O⟩ := id X
  obtain ⟨a, T', h', k1, b, kb, Y', rfl, E, hS', hk', hW', hf', x1, x2, x3, x4, l1, l2, hC', hL, hsf, stp⟩ := ldcCH Y X.hx X.hZ X.hown w wS rfl hS hk hE hmem X.ch ht hz hl (g := mkF m pc Ls st) rfl (X.hb hd) hn hbig hc hs
  refine F_by stp (k T' a b kb ⟨⟨q0.1, q0.2.1, q0.2.2.1, q0.2.2.2.1, q0.2.2.2.2.1, hf', q0.2.2.2.2.2.2.1, hW'⟩, ⟨⟨k1, hS', hk'⟩, hE1, hC.trans hC'⟩, locs, Y', N, Keep.old O (Keep.of_ext E) all0⟩ (Keep.of_ext E) x1 x2 x3 x4 fun x hx hs => ?_)
  have q := hC'.safe hx hs
  exact ⟨q, hsf x q⟩
theorem F_staticB (X : Ww l Z R bytes mL ret own nm p e s m args below meth c vm T cells slots) {y : MethodName} {ix : Nat} {bytes' : ByteArray} {mL' : Nat} {ret' : Option FieldType} {Q' : Option Value → Heap → Prop} {argsL : List Value} {Q2 : Option Value → Heap → List Loc → Prop} {rC rS : Nat} (hd : decode bytes pc = .ok (.invokestatic ix, 3)) (w1 : (Jvm.Cond.methodLink own ix y).before a0 Z = true) (w2 : (Jvm.Cond.static y).before a0 Z = true) (w3 : (Jvm.Cond.initialized y.cls).before a0 Z = true) (w4 : (Jvm.Cond.code y bytes' mL' ret').before a0 Z = true) (hy : y.cls ≠ "java/lang/invoke/MethodHandle" ∧ y.cls ≠ "java/lang/invoke/VarHandle") {st0 : List Value} (hst : st0 = argsL.reverse ++ st) (hK : Back l R p e below (s.setVm vm) args y 3 ((st.map fun v => v.category).sum) (fun A aa => aa = argsL.toArray ∧ A.U.heap = T.heap ∧ A.cells + rC ≤ R.cells ∧ A.slots + rS ≤ R.slots) (fun A _ v B => ∃ L, Q2 v B.U.heap L ∧ B.locs = A.locs ++ L ∧ B.cells = A.cells + rC ∧ B.slots = A.slots + rS)) (hQ2 : ∀ v h L, Q2 v h L → Fr Z.heap.size L ∧ Ext Z.heap h ∧ Q' v h) (hlen : ∀ sig, parseMethodDescriptor y.desc = some sig → argsL.length = sig.parameters.length) (hsz : Ls.size = mL) (hcl : cells + rC ≤ R.cells) (hsl : slots + rS ≤ R.slots) (ws : List Addr) (hkp : ∀ v h, Q' v h → Keep T.heap h ws) (hsf : ∀ x ∈ ws, Safe Z EL vm T.heap x) {pc' : Nat} (hp : pc + 3 = pc')
    (k : ∀ (T' : State) (v : Option Value), Ww l Z R bytes mL ret own nm p e s m args below meth c vm T' (cells + rC) (slots + rS) → Q' v T'.heap → EndW p e below s Z Q cC cS T' (mkF m pc' Ls (v.toList ++ st))) : EndW p e below s Z Q cC cS T (mkF m pc Ls st0) := by
  subst hp hst; obtain ⟨q0, qq, locs, Y, N, Od⟩ := id X
  obtain ⟨v, _, ⟨T', L1, k1, n1⟩, -, Y', ⟨Lc, hQ, l1, y1, z1⟩, stp⟩ := Jvm.LawKit.callS Y X.hx (y := y) X.hown (mvT X.hZ w1) (mvT X.hZ w2) (mvT X.hZ w3) (mvT X.hZ w4) hy hK (g := mkF m pc Ls (argsL.reverse ++ st)) rfl (X.size hsz) (argsL := argsL) (rest := st) hlen rfl (by show 2 * 0 + _ ≤ _; omega) (X.hb hd) (fun _ _ => ⟨rfl, rfl, hcl, hsl⟩)
  dsimp only [Pt.U, Pt.locs, Pt.cells, Pt.slots] at Y' l1 y1 z1 stp hQ
  subst l1 y1 z1
  obtain ⟨f1, f2, f3⟩ := hQ2 _ _ _ hQ
  exact F_by stp (k T' v (X.go2 Y' (Fr.app N f1) f2 (hkp _ _ f3) hsf) f3)

theorem F_static (X : Ww l Z R bytes mL ret own nm p e s m args below meth c vm T cells slots) {y : MethodName} {ix : Nat} {bytes' : ByteArray} {mL' : Nat} {ret' : Option FieldType} {Q' : Option Value → Heap → Prop} {argsL : List Value} {rm : Room} (hd : decode bytes pc = .ok (.invokestatic ix, 3)) (w1 : (Jvm.Cond.methodLink own ix y).before a0 Z = true) (w2 : (Jvm.Cond.static y).before a0 Z = true) (w3 : (Jvm.Cond.initialized y.cls).before a0 Z = true) (w4 : (Jvm.Cond.code y bytes' mL' ret').before a0 Z = true) (hy : y.cls ≠ "java/lang/invoke/MethodHandle" ∧ y.cls ≠ "java/lang/invoke/VarHandle")  {st0 : List Value} (hst : st0 = argsL.reverse ++ st) (hC : Ct l Z y bytes' mL' ret' rm argsL.toArray T.heap Q') (hlen : ∀ sig, parseMethodDescriptor y.desc = some sig → argsL.length = sig.parameters.length) (hsz : Ls.size = mL) (hcl : cells + rm.cells ≤ R.cells) (hsl : slots + rm.slots ≤ R.slots) (hfr : rm.frames + 1 ≤ R.frames) (hlo : (st.map fun v => v.category).sum + (mL' + 11) + rm.locals ≤ R.locals) (ws : List Addr) (hkp : ∀ v h, Q' v h → Keep T.heap h ws) (hsf : ∀ x ∈ ws, Safe Z EL vm T.heap x) {pc' : Nat} (hp : pc + 3 = pc')
    (k : ∀ (T' : State) (v : Option Value), Ww l Z R bytes mL ret own nm p e s m args below meth c vm T' (cells + rm.cells) (slots + rm.slots) → Q' v T'.heap → EndW p e below s Z Q cC cS T' (mkF m pc' Ls (v.toList ++ st))) : EndW p e below s Z Q cC cS T (mkF m pc Ls st0) :=
  F_staticB X hd w1 w2 w3 w4 hy hst (hC.back X.hZ w4 w3 hfr hlo) (fun _ _ _ q => q) hlen hsz hcl hsl ws hkp hsf hp k

theorem G_static (X : Ww l Z R bytes mL ret own nm p e s m args below meth c vm T cells slots) {y : MethodName} {ix : Nat} {bytes' : ByteArray} {mL' : Nat} {ret' : Option FieldType} {Q' : Option Value → Heap → Prop} {argsL : List Value} {rm : Room} (hd : decode bytes pc = .ok (.invokestatic ix, 3)) (w1 : (Jvm.Cond.methodLink own ix y).before a0 Z = true) (w2 : (Jvm.Cond.static y).before a0 Z = true) (w3 : (Jvm.Cond.initialized y.cls).before a0 Z = true) (w4 : (Jvm.Cond.code y bytes' mL' ret').before a0 Z = true) (hy : y.cls ≠ "java/lang/invoke/MethodHandle" ∧ y.cls ≠ "java/lang/invoke/VarHandle")  {st0 : List Value} (hst : st0 = argsL.reverse ++ st) (hC : CtW l Z y bytes' mL' ret' rm argsL.toArray T.heap Q') (hlen : ∀ sig, parseMethodDescriptor y.desc = some sig → argsL.length = sig.parameters.length) (hsz : Ls.size = mL) (hcl : cells + rm.cells ≤ R.cells) (hsl : slots + rm.slots ≤ R.slots) (hfr : rm.frames + 1 ≤ R.frames) (hlo : (st.map fun v => v.category).sum + (mL' + 11) + rm.locals ≤ R.locals) {pc' : Nat} (hp : pc + 3 = pc')
    (k : ∀ (T' : State) (v : Option Value), Ww l Z R bytes mL ret own nm p e s m args below meth c T'.vm T' (cells + rm.cells) (slots + rm.slots) → Q' v T'.heap → (∀ x, x < T.heap.size → Safe Z EL vm T.heap x → Safe Z EL T'.vm T'.heap x) → EndW p e below s Z Q cC cS T' (mkF m pc' Ls (v.toList ++ st))) : EndW p e below s Z Q cC cS T (mkF m pc Ls st0) := by
  subst hp hst; obtain ⟨q0, ⟨⟨k0, hS, hk⟩, ⟨a1, hE1⟩, hC0⟩, locs, Y, N, Od⟩ := id X
  obtain ⟨v, _, ⟨T', L1, k1, n1⟩, -, Y', hS2, hgr, ⟨Lc, hQ, l1, y1, z1, hC1⟩, stp⟩ := callSS Y X.hx (y := y) X.hown (mvT (s := s.setVm vm) X.hZ w1) (mvT (s := s.setVm vm) X.hZ w2) (mvT (s := s.setVm vm) X.hZ w3) (mvT (s := s.setVm vm) X.hZ w4) hy (hC.back X.hZ w4 w3 hfr hlo hE1 X.ch) (g := mkF m pc Ls (argsL.reverse ++ st)) rfl (X.size hsz) (argsL := argsL) (rest := st) hlen rfl (by show 2 * 0 + _ ≤ _; omega) (X.hb hd) (fun _ _ => ⟨rfl, rfl, hcl, hsl⟩)
  dsimp only [Pt.U, Pt.locs, Pt.cells, Pt.slots] at Y' l1 y1 z1 stp hQ hS2 hgr hC1
  subst l1 y1 z1
  have hW2 : Z.Warmed39 T'.vm := State.Warmed39.trans (t := s.setVm vm) X.hZ hS2.1
  have hf2 : T'.vm.findClass own = some m.cls := by rw [hS2.1.alike.findClass]; exact X.hown
  exact F_tr stp (k T' v ⟨⟨q0.1, q0.2.1, q0.2.2.1, q0.2.2.2.1, q0.2.2.2.2.1, hf2, q0.2.2.2.2.2.2.1, hW2⟩, ⟨⟨_, foldS hS hk hS2 hgr, Nat.le_refl _⟩, ⟨a1, hE1⟩, hC0.trans hC1⟩, _, Y', Fr.app N hQ.1, hQ.2.1⟩ hQ.2.2 (fun x hx hs => hC1.safe hx hs))

theorem F_specialB (X : Ww l Z R bytes mL ret own nm p e s m args below meth c vm T cells slots) {y : MethodName} {ix : Nat} {bytes' : ByteArray} {mL' : Nat} {ret' : Option FieldType} {Q' : Option Value → Heap → Prop} {argsL : List Value} {Q2 : Option Value → Heap → List Loc → Prop} {rC rS : Nat} {a : Addr} (hd : decode bytes pc = .ok (.invokespecial ix, 3)) (hy1 : y.name = "<init>") (hret : ret' = none) (w1 : (Jvm.Cond.methodLink own ix y).before a0 Z = true) (w2 : (Jvm.Cond.instanceMethod y).before a0 Z = true) (w4 : (Jvm.Cond.code y bytes' mL' ret').before a0 Z = true) (hy : y.cls ≠ "java/lang/invoke/MethodHandle" ∧ y.cls ≠ "java/lang/invoke/VarHandle") {st0 : List Value} (hst : st0 = argsL.reverse ++ .ref a :: st) (hK : Back l R p e below (s.setVm vm) args y 3 ((st.map fun v => v.category).sum) (fun A aa => aa = (.ref a :: argsL).toArray ∧ A.U.heap = T.heap ∧ A.cells + rC ≤ R.cells ∧ A.slots + rS ≤ R.slots) (fun A _ v B => ∃ L, Q2 v B.U.heap L ∧ B.locs = A.locs ++ L ∧ B.cells = A.cells + rC ∧ B.slots = A.slots + rS)) (hQ2 : ∀ v h L, Q2 v h L → Fr Z.heap.size L ∧ Ext Z.heap h ∧ Q' v h) (hlen : ∀ sig, parseMethodDescriptor y.desc = some sig → argsL.length = sig.parameters.length) (hsz : Ls.size = mL) (hcl : cells + rC ≤ R.cells) (hsl : slots + rS ≤ R.slots) (ws : List Addr) (hkp : ∀ v h, Q' v h → Keep T.heap h ws) (hsf : ∀ x ∈ ws, Safe Z EL vm T.heap x) {pc' : Nat} (hp : pc + 3 = pc')
    (k : ∀ (T' : State) (v : Option Value), Ww l Z R bytes mL ret own nm p e s m args below meth c vm T' (cells + rC) (slots + rS) → Q' v T'.heap → EndW p e below s Z Q cC cS T' (mkF m pc' Ls (v.toList ++ st))) : EndW p e below s Z Q cC cS T (mkF m pc Ls st0) := by
  subst hp hst; obtain ⟨q0, qq, locs, Y, N, Od⟩ := id X
  subst hret
  obtain ⟨v, _, ⟨T', L1, k1, n1⟩, -, Y', ⟨Lc, hQ, l1, y1, z1⟩, stp⟩ := Y.specialBack X.hx (y := y) hy1 X.hown (mvT X.hZ w1) (mvT X.hZ w2) (mvT X.hZ w4) hy hK (g := mkF m pc Ls (argsL.reverse ++ .ref a :: st)) rfl (X.size hsz) (Steps.refl _) (a := a) (argsL := argsL) (rest := st) hlen rfl (by show 2 * 0 + _ ≤ _; omega) (X.hb hd) (fun _ _ => ⟨rfl, rfl, hcl, hsl⟩)
  dsimp only [Pt.U, Pt.locs, Pt.cells, Pt.slots] at Y' l1 y1 z1 stp hQ
  subst l1 y1 z1
  obtain ⟨f1, f2, f3⟩ := hQ2 _ _ _ hQ
  exact F_tr stp (k T' v (X.go2 Y' (Fr.app N f1) f2 (hkp _ _ f3) hsf) f3)

theorem F_special (X : Ww l Z R bytes mL ret own nm p e s m args below meth c vm T cells slots) {y : MethodName} {ix : Nat} {bytes' : ByteArray} {mL' : Nat} {ret' : Option FieldType} {Q' : Option Value → Heap → Prop} {argsL : List Value} {rm : Room} {a : Addr} (hd : decode bytes pc = .ok (.invokespecial ix, 3)) (hy1 : y.name = "<init>") (hret : ret' = none) (w1 : (Jvm.Cond.methodLink own ix y).before a0 Z = true) (w2 : (Jvm.Cond.instanceMethod y).before a0 Z = true) (w4 : (Jvm.Cond.code y bytes' mL' ret').before a0 Z = true) (hy : y.cls ≠ "java/lang/invoke/MethodHandle" ∧ y.cls ≠ "java/lang/invoke/VarHandle") (w3 : (Jvm.Cond.initialized y.cls).before a0 Z = true) {st0 : List Value} (hst : st0 = argsL.reverse ++ .ref a :: st) (hC : Ct l Z y bytes' mL' ret' rm (.ref a :: argsL).toArray T.heap Q') (hlen : ∀ sig, parseMethodDescriptor y.desc = some sig → argsL.length = sig.parameters.length) (hsz : Ls.size = mL) (hcl : cells + rm.cells ≤ R.cells) (hsl : slots + rm.slots ≤ R.slots) (hfr : rm.frames + 1 ≤ R.frames) (hlo : (st.map fun v => v.category).sum + (mL' + 11) + rm.locals ≤ R.locals) (ws : List Addr) (hkp : ∀ v h, Q' v h → Keep T.heap h ws) (hsf : ∀ x ∈ ws, Safe Z EL vm T.heap x) {pc' : Nat} (hp : pc + 3 = pc')
    (k : ∀ (T' : State) (v : Option Value), Ww l Z R bytes mL ret own nm p e s m args below meth c vm T' (cells + rm.cells) (slots + rm.slots) → Q' v T'.heap → EndW p e below s Z Q cC cS T' (mkF m pc' Ls (v.toList ++ st))) : EndW p e below s Z Q cC cS T (mkF m pc Ls st0) :=
  F_specialB X hd hy1 hret w1 w2 w4 hy hst (hC.back X.hZ w4 w3 hfr hlo) (fun _ _ _ q => q) hlen hsz hcl hsl ws hkp hsf hp k

theorem G_special (X : Ww l Z R bytes mL ret own nm p e s m args below meth c vm T cells slots) {y : MethodName} {ix : Nat} {bytes' : ByteArray} {mL' : Nat} {ret' : Option FieldType} {Q' : Option Value → Heap → Prop} {argsL : List Value} {rm : Room} {a : Addr} (hd : decode bytes pc = .ok (.invokespecial ix, 3)) (hy1 : y.name = "<init>") (hret : ret' = none) (w1 : (Jvm.Cond.methodLink own ix y).before a0 Z = true) (w2 : (Jvm.Cond.instanceMethod y).before a0 Z = true) (w4 : (Jvm.Cond.code y bytes' mL' ret').before a0 Z = true) (hy : y.cls ≠ "java/lang/invoke/MethodHandle" ∧ y.cls ≠ "java/lang/invoke/VarHandle") (w3 : (Jvm.Cond.initialized y.cls).before a0 Z = true) {st0 : List Value} (hst : st0 = argsL.reverse ++ .ref a :: st) (hC : CtW l Z y bytes' mL' ret' rm (.ref a :: argsL).toArray T.heap Q') (hlen : ∀ sig, parseMethodDescriptor y.desc = some sig → argsL.length = sig.parameters.length) (hsz : Ls.size = mL) (hcl : cells + rm.cells ≤ R.cells) (hsl : slots + rm.slots ≤ R.slots) (hfr : rm.frames + 1 ≤ R.frames) (hlo : (st.map fun v => v.category).sum + (mL' + 11) + rm.locals ≤ R.locals) {pc' : Nat} (hp : pc + 3 = pc')
    (k : ∀ (T' : State) (v : Option Value), Ww l Z R bytes mL ret own nm p e s m args below meth c T'.vm T' (cells + rm.cells) (slots + rm.slots) → Q' v T'.heap → (∀ x, x < T.heap.size → Safe Z EL vm T.heap x → Safe Z EL T'.vm T'.heap x) → EndW p e below s Z Q cC cS T' (mkF m pc' Ls (v.toList ++ st))) : EndW p e below s Z Q cC cS T (mkF m pc Ls st0) := by
  subst hp hst; obtain ⟨q0, ⟨⟨k0, hS, hk⟩, ⟨a1, hE1⟩, hC0⟩, locs, Y, N, Od⟩ := id X
  subst hret
  obtain ⟨v, _, ⟨T', L1, k1, n1⟩, -, Y', hS2, hgr, ⟨Lc, hQ, l1, y1, z1, hC1⟩, stp⟩ := Y.specialBackS X.hx (y := y) hy1 X.hown (mvT (s := s.setVm vm) X.hZ w1) (mvT (s := s.setVm vm) X.hZ w2) (mvT (s := s.setVm vm) X.hZ w4) hy (hC.back X.hZ w4 w3 hfr hlo hE1 X.ch) (g := mkF m pc Ls (argsL.reverse ++ .ref a :: st)) rfl (X.size hsz) (Steps.refl _) (a := a) (argsL := argsL) (rest := st) hlen rfl (by show 2 * 0 + _ ≤ _; omega) (X.hb hd) (fun _ _ => ⟨rfl, rfl, hcl, hsl⟩)
  dsimp only [Pt.U, Pt.locs, Pt.cells, Pt.slots] at Y' l1 y1 z1 stp hQ hS2 hgr hC1
  subst l1 y1 z1
  have hW2 : Z.Warmed39 T'.vm := State.Warmed39.trans (t := s.setVm vm) X.hZ hS2.1
  have hf2 : T'.vm.findClass own = some m.cls := by rw [hS2.1.alike.findClass]; exact X.hown
  exact F_tr stp (k T' v ⟨⟨q0.1, q0.2.1, q0.2.2.1, q0.2.2.2.1, q0.2.2.2.2.1, hf2, q0.2.2.2.2.2.2.1, hW2⟩, ⟨⟨_, foldS hS hk hS2 hgr, Nat.le_refl _⟩, ⟨a1, hE1⟩, hC0.trans hC1⟩, _, Y', Fr.app N hQ.1, hQ.2.1⟩ hQ.2.2 (fun x hx hs => hC1.safe hx hs))

theorem F_virtualB (X : Ww l Z R bytes mL ret own nm p e s m args below meth c vm T cells slots) {y : MethodName} {ix : Nat} {Q' : Option Value → Heap → Prop} {argsL : List Value} {Q2 : Option Value → Heap → List Loc → Prop} {rC rS : Nat} {a : Addr} {z : MethodName} {D : String} (hd : decode bytes pc = .ok (.invokevirtual ix, 3)) (w1 : (Jvm.Cond.methodLink own ix y).before a0 Z = true) (w2 : (Jvm.Cond.declares y).before a0 Z = true) (w5 : (Jvm.Cond.selects D y z).before a0 Z = true) (w6 : (Jvm.Cond.instanceMethod z).before a0 Z = true) (hnf : NotFace (s.setVm vm) y) (hy : y.cls ≠ "java/lang/invoke/MethodHandle" ∧ y.cls ≠ "java/lang/invoke/VarHandle") (E : Exa Z T.heap a D) {st0 : List Value} (hst : st0 = argsL.reverse ++ .ref a :: st) (hK : Back l R p e below (s.setVm vm) args z 3 ((st.map fun v => v.category).sum) (fun A aa => aa = (.ref a :: argsL).toArray ∧ A.U.heap = T.heap ∧ A.cells + rC ≤ R.cells ∧ A.slots + rS ≤ R.slots) (fun A _ v B => ∃ L, Q2 v B.U.heap L ∧ B.locs = A.locs ++ L ∧ B.cells = A.cells + rC ∧ B.slots = A.slots + rS)) (hQ2 : ∀ v h L, Q2 v h L → Fr Z.heap.size L ∧ Ext Z.heap h ∧ Q' v h) (hlen : ∀ sig, parseMethodDescriptor y.desc = some sig → argsL.length = sig.parameters.length) (hsz : Ls.size = mL) (hcl : cells + rC ≤ R.cells) (hsl : slots + rS ≤ R.slots) (ws : List Addr) (hkp : ∀ v h, Q' v h → Keep T.heap h ws) (hsf : ∀ x ∈ ws, Safe Z EL vm T.heap x) {pc' : Nat} (hp : pc + 3 = pc')
    (k : ∀ (T' : State) (v : Option Value), Ww l Z R bytes mL ret own nm p e s m args below meth c vm T' (cells + rC) (slots + rS) → Q' v T'.heap → EndW p e below s Z Q cC cS T' (mkF m pc' Ls (v.toList ++ st))) : EndW p e below s Z Q cC cS T (mkF m pc Ls st0) := by
  subst hp hst; obtain ⟨q0, qq, locs, Y, N, Od⟩ := id X
  obtain ⟨cq, kq, qa, qb, qc⟩ := isOf (s := s.setVm vm) X.hZ rfl E
  obtain ⟨v, _, ⟨T', L1, k1, n1⟩, -, Y', ⟨Lc, hQ, l1, y1, z1⟩, stp⟩ := Y.virtualBack X.hx (y := y) (z := z) X.hown (mvT X.hZ w1) (mvT X.hZ w2) hnf (mvT X.hZ w5) (mvT X.hZ w6) hy hK qa qc (g := mkF m pc Ls (argsL.reverse ++ .ref a :: st)) rfl (X.size hsz) (Steps.refl _) (argsL := argsL) (rest := st) hlen rfl (by show 2 * 0 + _ ≤ _; omega) (X.hb hd) (fun _ _ => ⟨rfl, rfl, hcl, hsl⟩)
  dsimp only [Pt.U, Pt.locs, Pt.cells, Pt.slots] at Y' l1 y1 z1 stp hQ
  subst l1 y1 z1
  obtain ⟨f1, f2, f3⟩ := hQ2 _ _ _ hQ
  exact F_tr stp (k T' v (X.go2 Y' (Fr.app N f1) f2 (hkp _ _ f3) hsf) f3)

theorem F_virtual (X : Ww l Z R bytes mL ret own nm p e s m args below meth c vm T cells slots) {y : MethodName} {ix : Nat} {bytes' : ByteArray} {mL' : Nat} {ret' : Option FieldType} {Q' : Option Value → Heap → Prop} {argsL : List Value} {rm : Room} {a : Addr} {z : MethodName} {D : String} (hd : decode bytes pc = .ok (.invokevirtual ix, 3)) (w1 : (Jvm.Cond.methodLink own ix y).before a0 Z = true) (w2 : (Jvm.Cond.declares y).before a0 Z = true) (w5 : (Jvm.Cond.selects D y z).before a0 Z = true) (w6 : (Jvm.Cond.instanceMethod z).before a0 Z = true) (hnf : NotFace (s.setVm vm) y) (hy : y.cls ≠ "java/lang/invoke/MethodHandle" ∧ y.cls ≠ "java/lang/invoke/VarHandle") (E : Exa Z T.heap a D) (w3 : (Jvm.Cond.initialized z.cls).before a0 Z = true) (w4 : (Jvm.Cond.code z bytes' mL' ret').before a0 Z = true) {st0 : List Value} (hst : st0 = argsL.reverse ++ .ref a :: st) (hC : Ct l Z z bytes' mL' ret' rm (.ref a :: argsL).toArray T.heap Q') (hlen : ∀ sig, parseMethodDescriptor y.desc = some sig → argsL.length = sig.parameters.length) (hsz : Ls.size = mL) (hcl : cells + rm.cells ≤ R.cells) (hsl : slots + rm.slots ≤ R.slots) (hfr : rm.frames + 1 ≤ R.frames) (hlo : (st.map fun v => v.category).sum + (mL' + 11) + rm.locals ≤ R.locals) (ws : List Addr) (hkp : ∀ v h, Q' v h → Keep T.heap h ws) (hsf : ∀ x ∈ ws, Safe Z EL vm T.heap x) {pc' : Nat} (hp : pc + 3 = pc')
    (k : ∀ (T' : State) (v : Option Value), Ww l Z R bytes mL ret own nm p e s m args below meth c vm T' (cells + rm.cells) (slots + rm.slots) → Q' v T'.heap → EndW p e below s Z Q cC cS T' (mkF m pc' Ls (v.toList ++ st))) : EndW p e below s Z Q cC cS T (mkF m pc Ls st0) :=
  F_virtualB X hd w1 w2 w5 w6 hnf hy E hst (hC.back X.hZ w4 w3 hfr hlo) (fun _ _ _ q => q) hlen hsz hcl hsl ws hkp hsf hp k

theorem G_virtual (X : Ww l Z R bytes mL ret own nm p e s m args below meth c vm T cells slots) {y : MethodName} {ix : Nat} {bytes' : ByteArray} {mL' : Nat} {ret' : Option FieldType} {Q' : Option Value → Heap → Prop} {argsL : List Value} {rm : Room} {a : Addr} {z : MethodName} {D : String} (hd : decode bytes pc = .ok (.invokevirtual ix, 3)) (w1 : (Jvm.Cond.methodLink own ix y).before a0 Z = true) (w2 : (Jvm.Cond.declares y).before a0 Z = true) (w5 : (Jvm.Cond.selects D y z).before a0 Z = true) (w6 : (Jvm.Cond.instanceMethod z).before a0 Z = true) (hnf : NotFace (s.setVm vm) y) (hy : y.cls ≠ "java/lang/invoke/MethodHandle" ∧ y.cls ≠ "java/lang/invoke/VarHandle") (E : Exa Z T.heap a D) (w3 : (Jvm.Cond.initialized z.cls).before a0 Z = true) (w4 : (Jvm.Cond.code z bytes' mL' ret').before a0 Z = true) {st0 : List Value} (hst : st0 = argsL.reverse ++ .ref a :: st) (hC : CtW l Z z bytes' mL' ret' rm (.ref a :: argsL).toArray T.heap Q') (hlen : ∀ sig, parseMethodDescriptor y.desc = some sig → argsL.length = sig.parameters.length) (hsz : Ls.size = mL) (hcl : cells + rm.cells ≤ R.cells) (hsl : slots + rm.slots ≤ R.slots) (hfr : rm.frames + 1 ≤ R.frames) (hlo : (st.map fun v => v.category).sum + (mL' + 11) + rm.locals ≤ R.locals) {pc' : Nat} (hp : pc + 3 = pc')
    (k : ∀ (T' : State) (v : Option Value), Ww l Z R bytes mL ret own nm p e s m args below meth c T'.vm T' (cells + rm.cells) (slots + rm.slots) → Q' v T'.heap → (∀ x, x < T.heap.size → Safe Z EL vm T.heap x → Safe Z EL T'.vm T'.heap x) → EndW p e below s Z Q cC cS T' (mkF m pc' Ls (v.toList ++ st))) : EndW p e below s Z Q cC cS T (mkF m pc Ls st0) := by
  subst hp hst; obtain ⟨q0, ⟨⟨k0, hS, hk⟩, ⟨a1, hE1⟩, hC0⟩, locs, Y, N, Od⟩ := id X
  obtain ⟨cq, kq, qa, qb, qc⟩ := isOf (s := s.setVm vm) X.hZ rfl E
  obtain ⟨v, _, ⟨T', L1, k1, n1⟩, -, Y', hS2, hgr, ⟨Lc, hQ, l1, y1, z1, hC1⟩, stp⟩ := Y.virtualBackS X.hx (y := y) (z := z) X.hown (mvT (s := s.setVm vm) X.hZ w1) (mvT (s := s.setVm vm) X.hZ w2) hnf (mvT (s := s.setVm vm) X.hZ w5) (mvT (s := s.setVm vm) X.hZ w6) hy (hC.back X.hZ w4 w3 hfr hlo hE1 X.ch) qa qc (g := mkF m pc Ls (argsL.reverse ++ .ref a :: st)) rfl (X.size hsz) (Steps.refl _) (argsL := argsL) (rest := st) hlen rfl (by show 2 * 0 + _ ≤ _; omega) (X.hb hd) (fun _ _ => ⟨rfl, rfl, hcl, hsl⟩)
  dsimp only [Pt.U, Pt.locs, Pt.cells, Pt.slots] at Y' l1 y1 z1 stp hQ hS2 hgr hC1
  subst l1 y1 z1
  have hW2 : Z.Warmed39 T'.vm := State.Warmed39.trans (t := s.setVm vm) X.hZ hS2.1
  have hf2 : T'.vm.findClass own = some m.cls := by rw [hS2.1.alike.findClass]; exact X.hown
  exact F_tr stp (k T' v ⟨⟨q0.1, q0.2.1, q0.2.2.1, q0.2.2.2.1, q0.2.2.2.2.1, hf2, q0.2.2.2.2.2.2.1, hW2⟩, ⟨⟨_, foldS hS hk hS2 hgr, Nat.le_refl _⟩, ⟨a1, hE1⟩, hC0.trans hC1⟩, _, Y', Fr.app N hQ.1, hQ.2.1⟩ hQ.2.2 (fun x hx hs => hC1.safe hx hs))

theorem Ww.out (X : Ww l Z R bytes mL ret own nm p e s m args below meth c vm T cells slots) {v : Option Value} (hv : ret = none → v = none) (hQ : Q v T.heap) (h1 : cells ≤ cC) (h2 : slots ≤ cS) (hs : ∀ fs, (∀ (f : JFrame) (acts : List Action), f.method = m → f.locked = none → f.entered = [] → (doReturn e (T.setTop f) acts v).1 = T.setFrames fs) → Steps p.tables e below (T.setTop g) (T.setFrames fs)) : EndW p e below s Z Q cC cS T g := by
  obtain ⟨q0, ⟨⟨k0, hS, hk⟩, ⟨a1, hE1⟩, hC0⟩, locs, Y, N, Od⟩ := id X
  obtain ⟨fs, hr, hrun, hended, hW⟩ := Y.leaveW hS hk (v := v) (fun h => hv (q0.2.2.2.1.symm.trans h)) q0.2.2.2.2.1
  exact ⟨_, _, hs fs hr, hrun, hended, _, _, rfl, ⟨N, Od, hQ⟩, (hC0.trans (CHv.at (T := T) Y X.hZ hE1 X.ch) : CHr Z EL s.vm s.heap T.vm T.heap), hW.1, hW.2.1, hW.2.2.1, hW.2.2.2.mono h1 h2⟩
theorem F_return (X : Ww l Z R bytes mL ret own nm p e s m args below meth c vm T cells slots) (hd : decode bytes pc = .ok (.return_, 1)) (hret : ret = none) (h1 : cells ≤ cC) (h2 : slots ≤ cS) (hQ : Q none T.heap) : EndW p e below s Z Q cC cS T (mkF m pc Ls []) := by
  refine X.out (v := none) (fun _ => rfl) hQ h1 h2 fun fs hr => ?_
  obtain ⟨q0, qq, locs, Y, N, Od⟩ := id X
  exact Y.returnOut X.hx (q0.2.2.2.1.trans hret) (X.hb hd) hr
theorem F_ireturnI (X : Ww l Z R bytes mL ret own nm p e s m args below meth c vm T cells slots) {z : Int32} (hd : decode bytes pc = .ok (.ireturn, 1)) (hret : ret = some .int) (h1 : cells ≤ cC) (h2 : slots ≤ cS) (hQ : Q (some (.int z)) T.heap) : EndW p e below s Z Q cC cS T (mkF m pc Ls (.int z :: st)) := by
  refine X.out (v := some (.int z)) (fun h => by rw [hret] at h; cases h) hQ h1 h2 fun fs hr => ?_
  obtain ⟨q0, qq, locs, Y, N, Od⟩ := id X
  exact retOut Y X.hx (q0.2.2.2.1.trans hret) rfl (Or.inl ⟨rfl, Or.inl rfl, z, rfl⟩) (X.hb hd) hr
theorem F_ireturnN (X : Ww l Z R bytes mL ret own nm p e s m args below meth c vm T cells slots) {z : Int32} {t : FieldType} (hd : decode bytes pc = .ok (.ireturn, 1)) (hret : ret = some t) (ht : t = .boolean ∨ t = .byte ∨ t = .char ∨ t = .short) (h1 : cells ≤ cC) (h2 : slots ≤ cS) (hQ : Q (some (.int (nar t z))) T.heap) : EndW p e below s Z Q cC cS T (mkF m pc Ls (.int z :: st)) := by
  refine X.out (v := some (.int (nar t z))) (fun h => by rw [hret] at h; cases h) hQ h1 h2 fun fs hr => ?_
  obtain ⟨q0, qq, locs, Y, N, Od⟩ := id X
  exact retN Y X.hx (q0.2.2.2.1.trans hret) ht (X.hb hd) hr
theorem F_areturn (X : Ww l Z R bytes mL ret own nm p e s m args below meth c vm T cells slots) {v : Value} {t : FieldType} (hd : decode bytes pc = .ok (.areturn, 1)) (hret : ret = some t) (ht : t.isReference = true) (hv : v.isRef = true) (hn : narrow t v = v) (h1 : cells ≤ cC) (h2 : slots ≤ cS) (hQ : Q (some v) T.heap) : EndW p e below s Z Q cC cS T (mkF m pc Ls (v :: st)) := by
  refine X.out (v := some v) (fun h => by rw [hret] at h; cases h) hQ h1 h2 fun fs hr => ?_
  obtain ⟨q0, qq, locs, Y, N, Od⟩ := id X
  exact retOut Y X.hx (q0.2.2.2.1.trans hret) hn (Or.inr (Or.inr (Or.inr (Or.inr ⟨rfl, ht, hv⟩)))) (X.hb hd) hr
end OwnW
theorem pd_0 : parseMethodDescriptor "([CI[BII)I" = some ⟨[(.array .char), .int, (.array .byte), .int, .int], some .int⟩ := by decide +kernel
theorem pd_1 : parseMethodDescriptor "([CII)[B" = some ⟨[(.array .char), .int, .int], some (.array .byte)⟩ := by decide +kernel
theorem pd_2 : parseMethodDescriptor "([BI)B" = some ⟨[(.array .byte), .int], some .byte⟩ := by decide +kernel
theorem pd_3 : parseMethodDescriptor "([CIILjava/lang/Void;)V" = some ⟨[(.array .char), .int, .int, (.object "java/lang/Void")], none⟩ := by decide +kernel
theorem pd_4 : parseMethodDescriptor "([B[B)Z" = some ⟨[(.array .byte), (.array .byte)], some .boolean⟩ := by decide +kernel
theorem pd_5 : parseMethodDescriptor "([C)V" = some ⟨[(.array .char)], none⟩ := by decide +kernel
theorem pd_6 : parseMethodDescriptor "(Ljava/lang/Object;)Z" = some ⟨[(.object "java/lang/Object")], some .boolean⟩ := by decide +kernel
theorem pd_7 : parseMethodDescriptor "(ICCC)Ljava/lang/String;" = some ⟨[.int, .char, .char, .char], some (.object "java/lang/String")⟩ := by decide +kernel
theorem pd_8 : parseMethodDescriptor "(Ljava/lang/String;)Ljava/lang/String;" = some ⟨[(.object "java/lang/String")], some (.object "java/lang/String")⟩ := by decide +kernel
theorem o_int {n : Nat} (h : n < 2147483648) : (Int32.ofNat n).toInt = n := by
  have := Int32.toInt_ofNat_of_lt (n := n) (by omega); simpa using this
theorem o_cl {n : Nat} (h : n < 2147483648) : (Int32.ofNat n).toNatClampNeg = n := by
  simp [Int32.toNatClampNeg, o_int h]
theorem o_nn {n : Nat} (h : n < 2147483648) : ¬ Int32.ofNat n < 0 := by
  rw [Int32.lt_iff_toInt_lt, o_int h]; show ¬ (n : Int) < 0; omega
theorem o_lt {i n : Nat} (hi : i < n) (h : n < 2147483648) : Int32.ofNat i < Int32.ofNat n := by
  rw [Int32.lt_iff_toInt_lt, o_int h, o_int (by omega)]; omega
theorem o_nlt {i n : Nat} (hi : n ≤ i) (h : i < 2147483648) : ¬ Int32.ofNat i < Int32.ofNat n := by
  rw [Int32.lt_iff_toInt_lt, o_int h, o_int (by omega)]; omega
theorem o_add {i : Nat} : Int32.ofNat i + (1 : Int32) = Int32.ofNat (i + 1) := by
  rw [Int32.ofNat_add]; rfl
theorem o_two {i : Nat} (h : 2 * i < 2147483648) : Int32.ofNat i <<< ((1 : Int32) &&& 31) = Int32.ofNat (2 * i) := by
  apply Int32.toInt_inj.mp
  have e := c_ishl (Int32.ofNat i) 1 1 (by decide)
  have r := rng32 (Int32.ofNat i <<< ((1 : Int32) &&& 31))
  rw [o_int (by omega)] at e
  rw [o_int h]
  omega
theorem o_half {i : Nat} (h : 2 * i < 2147483648) : Int32.ofNat (2 * i) >>> ((1 : Int32) &&& 31) = Int32.ofNat i := by
  apply Int32.toInt_inj.mp
  have e := c_ishr (Int32.ofNat (2 * i)) 1 1 (by decide)
  rw [o_int h] at e
  rw [o_int (by omega), e]
  omega
theorem o_zero (N : Int32) : N >>> ((0 : Int32) &&& 31) = N := by
  apply Int32.toInt_inj.mp
  have e := c_ishr N 0 0 (by decide)
  rw [e]; simp
theorem o_i2c {c : Int32} (h1 : ¬ c < 0) (h2 : ¬ 65535 < c) : c.toUInt32.toUInt16.toUInt32.toInt32 = c := by
  apply Int32.toInt_inj.mp
  have e := c_i2c c
  rw [Int32.lt_iff_toInt_lt] at h1 h2
  have o1 : (0 : Int32).toInt = 0 := rfl
  have o2 : (65535 : Int32).toInt = 65535 := rfl
  omega
theorem o_nar {c : Int32} (h1 : ¬ c < 0) (h2 : ¬ 65535 < c) : nar .char c = c := o_i2c h1 h2
theorem o_lat {c : Int32} (h1 : ¬ c < 0) (h2 : ¬ 255 < c) : nar .char ((c.toInt8.toInt32 &&& (255 : Int32)).toUInt32.toUInt16.toUInt32.toInt32) = c := by
  have o1 : (0 : Int32).toInt = 0 := rfl
  have o2 : (255 : Int32).toInt = 255 := rfl
  have o3 : (65535 : Int32).toInt = 65535 := rfl
  rw [Int32.lt_iff_toInt_lt] at h1 h2
  have e : c.toInt8.toInt32 &&& (255 : Int32) = c := by
    apply Int32.toInt_inj.mp
    have e1 := c_mask c.toInt8.toInt32 255 8 (by decide) (by decide)
    have e2 := c_i2b c
    rw [e1]; omega
  rw [e, o_i2c, o_nar] <;> (rw [Int32.lt_iff_toInt_lt]; omega)
theorem o_u16 {c : Int32} (h1 : ¬ c < 0) (h2 : ¬ 65535 < c) : nar .char ((((c >>> ((0 : Int32) &&& 31)).toInt8.toInt32 &&& (255 : Int32)) <<< ((0 : Int32) &&& 31) ||| ((c >>> ((8 : Int32) &&& 31)).toInt8.toInt32 &&& (255 : Int32)) <<< ((8 : Int32) &&& 31)).toUInt32.toUInt16.toUInt32.toInt32) = c := by
  have o1 : (0 : Int32).toInt = 0 := rfl
  have o2 : (255 : Int32).toInt = 255 := rfl
  have o3 : (65535 : Int32).toInt = 65535 := rfl
  rw [Int32.lt_iff_toInt_lt] at h1 h2
  have a0 : c >>> ((0 : Int32) &&& 31) = c := o_zero c
  have a1 := c_ishr c 8 8 (by decide)
  rw [a0]
  generalize c >>> ((8 : Int32) &&& 31) = d at *
  have b1 := c_mask c.toInt8.toInt32 255 8 (by decide) (by decide)
  have b2 := c_i2b c
  have b3 := c_mask d.toInt8.toInt32 255 8 (by decide) (by decide)
  have b4 := c_i2b d
  generalize c.toInt8.toInt32 &&& (255 : Int32) = x at *
  generalize d.toInt8.toInt32 &&& (255 : Int32) = y at *
  have d1 := c_ishl x 0 0 (by decide)
  have d2 := c_ishl y 8 8 (by decide)
  have r1 := rng32 (x <<< ((0 : Int32) &&& 31))
  have r2 := rng32 (y <<< ((8 : Int32) &&& 31))
  generalize x <<< ((0 : Int32) &&& 31) = u at *
  generalize y <<< ((8 : Int32) &&& 31) = w at *
  have f := c_or' u w 8 (by decide) 256 rfl (by omega) (by omega) (by omega)
  have r3 := rng32 (u ||| w)
  have e : u ||| w = c := by
    apply Int32.toInt_inj.mp
    omega
  rw [e, o_i2c, o_nar] <;> (rw [Int32.lt_iff_toInt_lt]; omega)
theorem o_b8 (c : Int32) : c.toInt8.toInt32.toInt8.toInt32 = c.toInt8.toInt32 := by simp
theorem o_ltc {n : Nat} (h : n ≤ 4000) : Int32.ofNat n < (1073741823 : Int32) := by
  rw [Int32.lt_iff_toInt_lt, o_int (by omega)]; show (n : Int) < 1073741823; omega
theorem o_cfl {n : Nat} (h : 0 < n) (h2 : n ≤ 4000) : nar .byte ((((Int32.ofNat n - Int32.ofNat (2 * n)).toUInt32 >>> ((31 : Int32) &&& 31).toUInt32).toInt32).toInt8.toInt32) = 1 := by
  have e := c_isub (Int32.ofNat n) (Int32.ofNat (2 * n))
  rw [o_int (by omega), o_int (by omega)] at e
  have r := rng32 (Int32.ofNat n - Int32.ofNat (2 * n))
  have f := c_iushr (Int32.ofNat n - Int32.ofNat (2 * n)) 31 31 (by decide) (by decide)
  have g : ((Int32.ofNat n - Int32.ofNat (2 * n)).toUInt32 >>> ((31 : Int32) &&& 31).toUInt32).toInt32 = 1 := by
    apply Int32.toInt_inj.mp
    rw [f]; show _ = (1 : Int); omega
  rw [g]; rfl

def Sts (Z : State) (G1 : Int32) (G3 : Value) : Prop := Sta Z Z.heap "java/lang/String" "COMPACT_STRINGS" "Z" (.int G1) ∧ ¬ G1 = 0 ∧ Sta Z Z.heap "jdk/internal/util/Preconditions" "SIOOBE_FORMATTER" "Ljava/util/function/BiFunction;" G3 ∧ G3.isRef = true
theorem Sts.ref {Z : State} {G1 : Int32} {G3 : Value} (h : Sts Z G1 G3) : G3.isRef = true := h.2.2.2
def lo8 (c : Int32) : Value := .int c.toInt8.toInt32
def u16 (cs : List Int32) : List Value := cs.flatMap fun c => [.int (c >>> ((0 : Int32) &&& 31)).toInt8.toInt32, .int (c >>> ((8 : Int32) &&& 31)).toInt8.toInt32]
def Cod (cs : List Int32) (cd N : Int32) (vs : List Value) : Prop := (cd = 0 ∧ N = Int32.ofNat cs.length ∧ vs = cs.map lo8 ∧ ∀ c ∈ cs, ¬ (255 : Int32) < c)
/-- the String x holds the chars cs; its array is t -/
def OStr (Z : State) (h : Heap) (x t : Addr) (cs : List Int32) : Prop := ∃ (kb : ClassId) (cd N : Int32) (vs : List Value), Exa Z h x "java/lang/String" ∧ Fld Z h x "java/lang/String" "value" "[B" (.ref t) ∧ Fld Z h x "java/lang/String" "coder" "B" (.int cd) ∧ Arv Z h t kb .byte N vs (.int (0 : Int32)) ∧ Cod cs cd N vs ∧ (∀ c ∈ cs, ¬ c < 0 ∧ ¬ (65535 : Int32) < c) ∧ cs.length ≤ 4000
theorem OStr.exa {Z : State} {h : Heap} {x t : Addr} {cs : List Int32} (S : OStr Z h x t cs) : Exa Z h x "java/lang/String" := by obtain ⟨_, _, _, _, E, -⟩ := S; exact E
theorem OStr.fval {Z : State} {h : Heap} {x t : Addr} {cs : List Int32} (S : OStr Z h x t cs) : Fld Z h x "java/lang/String" "value" "[B" (.ref t) := by obtain ⟨_, _, _, _, _, F, -⟩ := S; exact F
theorem OStr.fcod {Z : State} {h : Heap} {x t : Addr} {cs : List Int32} (S : OStr Z h x t cs) : Fld Z h x "java/lang/String" "coder" "B" (.int 0) := by obtain ⟨_, _, _, _, _, _, C, _, ⟨rfl, -⟩, -⟩ := S; exact C
theorem OStr.lt {Z : State} {h : Heap} {x t : Addr} {cs : List Int32} (S : OStr Z h x t cs) : x < h.size := S.exa.lt
theorem OStr.ltv {Z : State} {h : Heap} {x t : Addr} {cs : List Int32} (S : OStr Z h x t cs) : t < h.size := by obtain ⟨_, _, _, _, _, _, _, V, -⟩ := S; exact V.lt
theorem OStr.keep {Z : State} {h h' : Heap} {ws : List Addr} {x t : Addr} {cs : List Int32} (S : OStr Z h x t cs) (K : Keep h h' ws) (h1 : x ∉ ws) (h2 : t ∉ ws) : OStr Z h' x t cs := by
  obtain ⟨kb, cd, N, vs, E, F, G, V, r⟩ := S; exact ⟨kb, cd, N, vs, E.keep K, F.keep K h1, G.keep K h1, V.keep K h2, r⟩
theorem own_lit {Z : State} {h : Heap} {a b : Addr} {kb : ClassId} {cs : List Int32} (E : Exa Z h a "java/lang/String") (F : Fld Z h a "java/lang/String" "value" "[B" (.ref b)) (C : Fld Z h a "java/lang/String" "coder" "B" (.int 0)) (V : Arv Z h b kb .byte (Int32.ofNat cs.length) (cs.map lo8) (.int 0)) (hb : ∀ c ∈ cs, ¬ c < 0 ∧ ¬ (255 : Int32) < c) (hl : cs.length ≤ 4000) : OStr Z h a b cs :=
  ⟨kb, 0, _, _, E, F, C, V, ⟨rfl, rfl, rfl, fun c hc => (hb c hc).2⟩, fun c hc => ⟨(hb c hc).1, fun q => (hb c hc).2 (Int32.lt_trans (by decide) q)⟩, hl⟩
theorem Fld.inj {Z : State} {h : Heap} {a : Addr} {C n d : String} {v w : Value} (F : Fld Z h a C n d v) (G : Fld Z h a C n d w) : v = w := by
  by_cases q : v = w
  · exact q
  · exact absurd rfl (F.ne G q)
theorem lo8_inj {c d : Int32} (h1 : ¬ c < 0) (h2 : ¬ (255 : Int32) < c) (h3 : ¬ d < 0) (h4 : ¬ (255 : Int32) < d) (e : c.toInt8.toInt32 = d.toInt8.toInt32) : c = d := by
  have a := c_i2b c; have b := c_i2b d
  rw [e] at a
  simp only [Int32.lt_iff_toInt_lt, Int32.reduceToInt] at h1 h2 h3 h4
  apply Int32.toInt_inj.mp; omega
theorem own_ext {cs ds : List Int32} (hl : cs.length = ds.length) (h : ∀ i, i < cs.length → cs.getD i 0 = ds.getD i 0) : cs = ds := by
  apply List.ext_getElem hl
  intro i h1 h2
  have q := h i h1
  simpa [List.getD_eq_getElem?_getD, h1, h2] using q
theorem own_getD {cs : List Int32} {i : Nat} (f : Int32 → Value) {d : Value} (h : i < cs.length) (hn : cs.length ≤ 4000) : (cs.map f).getD (Int32.ofNat i).toNatClampNeg d = f (cs.getD i 0) := by
  rw [o_cl (by omega)]; simp [List.getD_eq_getElem?_getD, h]
theorem own_mem {cs : List Int32} {i : Nat} (h : i < cs.length) : cs.getD i 0 ∈ cs := by simp [List.getD_eq_getElem?_getD, h]
theorem own_take {cs : List Int32} {i : Nat} (f : Int32 → Value) (h : i < cs.length) : (cs.take (i + 1)).map f = (cs.take i).map f ++ [f (cs.getD i 0)] := by
  rw [List.take_add_one, List.map_append]; congr 1; simp [List.getD_eq_getElem?_getD, h]
theorem own_all {P : Int32 → Prop} {cs : List Int32} {i : Nat} {ch : Int32} (h : i < cs.length) (hch : ch = cs.getD i 0) (hall : ∀ c ∈ cs.take i, P c) (hc : P ch) : ∀ c ∈ cs.take (i + 1), P c := by
  intro c hc2
  rw [List.take_add_one] at hc2
  rcases List.mem_append.mp hc2 with hc2 | hc2
  · exact hall c hc2
  · have : c = ch := by rw [hch]; simp [List.getD_eq_getElem?_getD, h] at hc2 ⊢; exact hc2
    rw [this]; exact hc
theorem own_tl {cs : List Int32} {i : Nat} (f : Int32 → Value) (h : i ≤ cs.length) : ((cs.take i).map f).length = i := by simp; omega
theorem Cod.cd8 {cs : List Int32} {cd N : Int32} {vs : List Value} (h : Cod cs cd N vs) : nar .byte cd = cd := by obtain ⟨rfl, -⟩ := h; rfl
theorem Cod.len {cs : List Int32} {cd N : Int32} {vs : List Value} (h : Cod cs cd N vs) (hl : cs.length ≤ 4000) : N >>> (cd &&& 31) = Int32.ofNat cs.length := by obtain ⟨rfl, rfl, -⟩ := h; exact o_zero _
theorem Cod.n0 {cs : List Int32} {cd N : Int32} {vs : List Value} (h : Cod cs cd N vs) (hl : cs.length ≤ 4000) : N = 0 ↔ cs.length = 0 := by
  have e : ∀ n : Nat, n < 2147483648 → (Int32.ofNat n = 0 ↔ n = 0) := fun n hn => by
    rw [← Int32.toInt_inj, o_int hn]; show ((n : Int) = 0) ↔ _; omega
  obtain ⟨-, rfl, -⟩ := h; exact e _ (by omega)

theorem lit_0 : (∀ c ∈ "".toList, c.toNat < 256) ∧ "".toList.map (fun c => Value.int (Jvm.Lit.byteI c.toNat.toUInt16)) = ([] : List Int32).map lo8 := ⟨by decide +kernel, by rfl⟩
theorem lit_1 : (∀ c ∈ "-".toList, c.toNat < 256) ∧ "-".toList.map (fun c => Value.int (Jvm.Lit.byteI c.toNat.toUInt16)) = ([(45 : Int32)] : List Int32).map lo8 := ⟨by decide +kernel, by rfl⟩
theorem lit_2 : (∀ c ∈ "standard input".toList, c.toNat < 256) ∧ "standard input".toList.map (fun c => Value.int (Jvm.Lit.byteI c.toNat.toUInt16)) = ([(115 : Int32), (116 : Int32), (97 : Int32), (110 : Int32), (100 : Int32), (97 : Int32), (114 : Int32), (100 : Int32), (32 : Int32), (105 : Int32), (110 : Int32), (112 : Int32), (117 : Int32), (116 : Int32)] : List Int32).map lo8 := ⟨by decide +kernel, by rfl⟩
theorem d_compress5_0 : decode jdk_52_method_21_code 0 = .ok (.iconst 0, 1) := by decide +kernel
theorem d_compress5_1 : decode jdk_52_method_21_code 1 = .ok (.istore 5, 2) := by decide +kernel
theorem d_compress5_3 : decode jdk_52_method_21_code 3 = .ok (.iload 5, 2) := by decide +kernel
theorem d_compress5_5 : decode jdk_52_method_21_code 5 = .ok (.iload 4, 2) := by decide +kernel
theorem d_compress5_7 : decode jdk_52_method_21_code 7 = .ok (.if_icmp .ge 37, 3) := by decide +kernel
theorem d_compress5_10 : decode jdk_52_method_21_code 10 = .ok (.aload_n 0, 1) := by decide +kernel
theorem d_compress5_11 : decode jdk_52_method_21_code 11 = .ok (.iload_n 1, 1) := by decide +kernel
theorem d_compress5_12 : decode jdk_52_method_21_code 12 = .ok (.caload, 1) := by decide +kernel
theorem d_compress5_13 : decode jdk_52_method_21_code 13 = .ok (.istore 6, 2) := by decide +kernel
theorem d_compress5_15 : decode jdk_52_method_21_code 15 = .ok (.iload 6, 2) := by decide +kernel
theorem d_compress5_17 : decode jdk_52_method_21_code 17 = .ok (.sipush 255, 3) := by decide +kernel
theorem d_compress5_20 : decode jdk_52_method_21_code 20 = .ok (.if_icmp .le 6, 3) := by decide +kernel
theorem d_compress5_23 : decode jdk_52_method_21_code 23 = .ok (.iload 5, 2) := by decide +kernel
theorem d_compress5_25 : decode jdk_52_method_21_code 25 = .ok (.ireturn, 1) := by decide +kernel
theorem d_compress5_26 : decode jdk_52_method_21_code 26 = .ok (.aload_n 2, 1) := by decide +kernel
theorem d_compress5_27 : decode jdk_52_method_21_code 27 = .ok (.iload_n 3, 1) := by decide +kernel
theorem d_compress5_28 : decode jdk_52_method_21_code 28 = .ok (.iload 6, 2) := by decide +kernel
theorem d_compress5_30 : decode jdk_52_method_21_code 30 = .ok (.i2b, 1) := by decide +kernel
theorem d_compress5_31 : decode jdk_52_method_21_code 31 = .ok (.bastore, 1) := by decide +kernel
theorem d_compress5_32 : decode jdk_52_method_21_code 32 = .ok (.iinc 1 1, 3) := by decide +kernel
theorem d_compress5_35 : decode jdk_52_method_21_code 35 = .ok (.iinc 3 1, 3) := by decide +kernel
theorem d_compress5_38 : decode jdk_52_method_21_code 38 = .ok (.iinc 5 1, 3) := by decide +kernel
theorem d_compress5_41 : decode jdk_52_method_21_code 41 = .ok (.goto (-38), 3) := by decide +kernel
theorem d_compress5_44 : decode jdk_52_method_21_code 44 = .ok (.iload 4, 2) := by decide +kernel
theorem d_compress5_46 : decode jdk_52_method_21_code 46 = .ok (.ireturn, 1) := by decide +kernel
abbrev rm_compress5 : Room := ({ frames := 0, cells := 0, slots := 0, locals := 0 } : Room)
def Q_compress5 (Z : State) (b t : Addr) (kC kb : ClassId) (cs : List Int32) (dv : Value) (h0 : Heap) (v : Option Value) (h : Heap) : Prop := Keep h0 h [t] ∧ ((v = some (.int (Int32.ofNat cs.length)) ∧ (∀ c ∈ cs, ¬ (255 : Int32) < c) ∧ Arv Z h t kb .byte (Int32.ofNat cs.length) (cs.map lo8) (.int (0 : Int32))) ∨ (∃ j, j < cs.length ∧ v = some (.int (Int32.ofNat j)) ∧ (255 : Int32) < cs.getD j 0))
set_option maxRecDepth 65536 in
set_option maxHeartbeats 40000000 in
theorem lp_compress5 (l : Launch) (Z : State) (a0 : Array Value) (hw : ∀ d ∈ tables_1, d.before a0 Z = true) (G1 : Int32) (G3 : Value) (OS : Sts Z G1 G3) (hEL : EW Z a0 EL) (hSA : ∀ a ∈ Bundle.stringAtoms, a.before a0 Z = true) (b t : Addr) (kC kb : ClassId) (cs : List Int32) (dv : Value) {h0 : Heap} {p : Program} {e : Env} {s : State} {m : MethodId} {below : List Frame} {meth : Method} {c : Code} (k : Nat) : ∀ {T0 : State} (i : Nat) (o : Slot), Wk l Z rm_compress5 jdk_52_method_21_code 7 (some .int) "java/lang/StringUTF16" "compress" p e s m #[(.ref b), (.int (0 : Int32)), (.ref t), (.int (0 : Int32)), (.int (Int32.ofNat cs.length))] below meth c T0 0 0 → (i + k = cs.length) → (o = .unset ∨ ∃ w, o = .val w ∧ w.category = 1) → (cs.length ≤ 4000) → (Arv Z T0.heap b kC .char (Int32.ofNat cs.length) (cs.map Value.int) dv) → (Arv Z T0.heap t kb .byte (Int32.ofNat cs.length) ((cs.take i).map lo8) (.int (0 : Int32))) → (b ≠ t) → (Z.heap.size ≤ t) → (Keep h0 T0.heap [t]) → (∀ c ∈ cs.take i, ¬ (255 : Int32) < c) → Ends p e below s Z (Q_compress5 Z b t kC kb cs dv h0) rm_compress5.cells rm_compress5.slots T0 (mkF m 3 #[.val (.ref b), .val (.int (Int32.ofNat i)), .val (.ref t), .val (.int (Int32.ofNat i)), .val (.int (Int32.ofNat cs.length)), .val (.int (Int32.ofNat i)), o] []) := by
  induction k with
  | zero =>
    intro T0 i o X0 hi hone hlen V0 D0 hbt gt K00 hall
    have hik : i = cs.length := by omega
    subst hik
    rw [List.take_length] at hall
    rw [List.take_length] at D0
    refine E_iload X0 d_compress5_3 rfl (pc' := 5) rfl ?_
    refine E_iload X0 d_compress5_5 rfl (pc' := 7) rfl ?_
    refine E_icT X0 d_compress5_7 (XT.ii_ge_t (o_nlt (Nat.le_refl _) (by omega))) (pc' := 44) (by decide) rfl ?_
    refine E_iload X0 d_compress5_44 rfl (pc' := 46) rfl ?_
    exact E_ireturnI X0 d_compress5_46 rfl (by decide) (by decide) (⟨K00, Or.inl ⟨rfl, hall, D0⟩⟩)
  | succ k ih =>
    intro T0 i o X0 hi hone hlen V0 D0 hbt gt K00 hall
    have hlt : i < cs.length := by omega
    obtain ⟨ch, hch⟩ : ∃ c, c = cs.getD i 0 := ⟨_, rfl⟩
    refine E_iload X0 d_compress5_3 rfl (pc' := 5) rfl ?_
    refine E_iload X0 d_compress5_5 rfl (pc' := 7) rfl ?_
    refine E_icF X0 d_compress5_7 (XT.ii_ge_f (o_lt hlt (by omega))) (pc' := 10) rfl ?_
    refine E_aloadN X0 d_compress5_10 rfl rfl (pc' := 11) rfl ?_
    refine E_iloadN X0 d_compress5_11 rfl (pc' := 12) rfl ?_
    refine E_caload X0 (v := (.int ch)) d_compress5_12 V0 ⟨o_nn (by omega), o_lt hlt (by omega)⟩ (by rw [own_getD Value.int hlt hlen, hch]) (pc' := 13) rfl ?_
    refine E_istore X0 d_compress5_13 (l' := #[.val (.ref b), .val (.int (Int32.ofNat i)), .val (.ref t), .val (.int (Int32.ofNat i)), .val (.int (Int32.ofNat cs.length)), .val (.int (Int32.ofNat i)), .val (.int ch)]) (XS.store1 rfl hone rfl) (pc' := 15) rfl ?_
    refine E_iload X0 d_compress5_15 rfl (pc' := 17) rfl ?_
    refine E_sipush X0 (v := (255 : Int32)) d_compress5_17 rfl (pc' := 20) rfl ?_
    by_cases hc : (255 : Int32) < ch
    · skip
      refine E_icF X0 d_compress5_20 (XT.ii_le_f hc) (pc' := 23) rfl ?_
      refine E_iload X0 d_compress5_23 rfl (pc' := 25) rfl ?_
      exact E_ireturnI X0 d_compress5_25 rfl (by decide) (by decide) (⟨K00, Or.inr ⟨i, hlt, rfl, hch ▸ hc⟩⟩)
    · skip
      refine E_icT X0 d_compress5_20 (XT.ii_le_t hc) (pc' := 26) (by decide) rfl ?_
      refine E_aloadN X0 d_compress5_26 rfl rfl (pc' := 27) rfl ?_
      refine E_iloadN X0 d_compress5_27 rfl (pc' := 28) rfl ?_
      refine E_iload X0 d_compress5_28 rfl (pc' := 30) rfl ?_
      refine E_i2b X0 d_compress5_30 rfl (pc' := 31) rfl ?_
      refine E_bastoreA X0 (y := (ch).toInt8.toInt32) d_compress5_31 (o_b8 _) D0 ⟨o_nn (by omega), o_lt hlt (by omega)⟩ (by rw [o_cl (by omega), own_tl lo8 (by omega)]) gt (pc' := 32) rfl ?_
      intro T1 X2 K3 V4
      have KK5 := K00.trans K3 (allS (Or.inl (by simp)) (fun x q => nomatch q))
      have Arv_6 := V0.keep K3 (ninS hbt nin0)
      have V7 : Arv Z T1.heap t kb .byte (Int32.ofNat cs.length) ((cs.take i).map lo8 ++ [lo8 ch]) (.int (0 : Int32)) := V4
      refine E_iinc X2 (y := (Int32.ofNat (i + 1))) d_compress5_32 o_add rfl (l' := #[.val (.ref b), .val (.int (Int32.ofNat (i + 1))), .val (.ref t), .val (.int (Int32.ofNat i)), .val (.int (Int32.ofNat cs.length)), .val (.int (Int32.ofNat i)), .val (.int ch)]) rfl (pc' := 35) rfl ?_
      refine E_iinc X2 (y := (Int32.ofNat (i + 1))) d_compress5_35 o_add rfl (l' := #[.val (.ref b), .val (.int (Int32.ofNat (i + 1))), .val (.ref t), .val (.int (Int32.ofNat (i + 1))), .val (.int (Int32.ofNat cs.length)), .val (.int (Int32.ofNat i)), .val (.int ch)]) rfl (pc' := 38) rfl ?_
      refine E_iinc X2 (y := (Int32.ofNat (i + 1))) d_compress5_38 o_add rfl (l' := #[.val (.ref b), .val (.int (Int32.ofNat (i + 1))), .val (.ref t), .val (.int (Int32.ofNat (i + 1))), .val (.int (Int32.ofNat cs.length)), .val (.int (Int32.ofNat (i + 1))), .val (.int ch)]) rfl (pc' := 41) rfl ?_
      refine E_goto X2 d_compress5_41 (pc' := 3) (by decide) rfl ?_
      have hV2 : Arv Z T1.heap t kb .byte (Int32.ofNat cs.length) ((cs.take (i + 1)).map lo8) (.int (0 : Int32)) := by rw [own_take lo8 hlt, ← hch]; exact V7
      have hall2 := own_all hlt hch hall hc
      exact ih (i + 1) (.val (.int ch)) X2 (by omega) (Or.inr ⟨_, rfl, rfl⟩) hlen Arv_6 hV2 hbt gt KK5 hall2
set_option maxRecDepth 65536 in
set_option maxHeartbeats 40000000 in
theorem ct_compress5 (l : Launch) (Z : State) (a0 : Array Value) (hw : ∀ d ∈ tables_1, d.before a0 Z = true) (G1 : Int32) (G3 : Value) (OS : Sts Z G1 G3) (hEL : EW Z a0 EL) (hSA : ∀ a ∈ Bundle.stringAtoms, a.before a0 Z = true) (b t : Addr) (kC kb : ClassId) (cs : List Int32) (dv : Value) {h0 : Heap} (O : Ext Z.heap h0) (hlen : cs.length ≤ 4000) (V0 : Arv Z h0 b kC .char (Int32.ofNat cs.length) (cs.map Value.int) dv) (D0 : Arv Z h0 t kb .byte (Int32.ofNat cs.length) ([]) (.int (0 : Int32))) (hbt : b ≠ t) (gt : Z.heap.size ≤ t) : Ct l Z (⟨"java/lang/StringUTF16", "compress", "([CI[BII)I"⟩ : MethodName) jdk_52_method_21_code 7 (some .int) rm_compress5 #[(.ref b), (.int (0 : Int32)), (.ref t), (.int (0 : Int32)), (.int (Int32.ofNat cs.length))] h0 (Q_compress5 Z b t kC kb cs dv h0) := by
  refine Ct.of_body (Ls := #[.val (.ref b), .val (.int (0 : Int32)), .val (.ref t), .val (.int (0 : Int32)), .val (.int (Int32.ofNat cs.length)), .unset, .unset]) (by decide +kernel) O (fun m => by first | rfl | (simp [entryFrame, mkF, argsToLocals, Value.category]; done) | (rcases ref_cases (Sts.ref OS) with rfl | ⟨r, rfl⟩ <;> rfl)) ?_
  intro p e s m below meth c T0 X0 e0
  subst e0
  refine E_iconst X0 (v := (0 : Int32)) d_compress5_0 rfl (pc' := 1) rfl ?_
  refine E_istore X0 d_compress5_1 (l' := #[.val (.ref b), .val (.int (0 : Int32)), .val (.ref t), .val (.int (0 : Int32)), .val (.int (Int32.ofNat cs.length)), .val (.int (0 : Int32)), .unset]) rfl (pc' := 3) rfl ?_
  exact lp_compress5 l Z a0 hw G1 G3 OS hEL hSA b t kC kb cs dv cs.length 0 .unset X0 (by omega) (Or.inl rfl) hlen V0 D0 hbt gt (Keep.refl _ _) (fun c hc => by simp at hc)
theorem d_cfl_0 : decode jdk_52_method_15_code 0 = .ok (.iload_n 1, 1) := by decide +kernel
theorem d_cfl_1 : decode jdk_52_method_15_code 1 = .ok (.aload_n 0, 1) := by decide +kernel
theorem d_cfl_2 : decode jdk_52_method_15_code 2 = .ok (.arraylength, 1) := by decide +kernel
theorem d_cfl_3 : decode jdk_52_method_15_code 3 = .ok (.isub, 1) := by decide +kernel
theorem d_cfl_4 : decode jdk_52_method_15_code 4 = .ok (.bipush 31, 2) := by decide +kernel
theorem d_cfl_6 : decode jdk_52_method_15_code 6 = .ok (.iushr, 1) := by decide +kernel
theorem d_cfl_7 : decode jdk_52_method_15_code 7 = .ok (.i2b, 1) := by decide +kernel
theorem d_cfl_8 : decode jdk_52_method_15_code 8 = .ok (.ireturn, 1) := by decide +kernel
abbrev rm_cfl : Room := ({ frames := 0, cells := 0, slots := 0, locals := 0 } : Room)
def Q_cfl (Z : State) (t : Addr) (kb : ClassId) (N n z : Int32) (vs : List Value) (h0 : Heap) (v : Option Value) (h : Heap) : Prop := v = some (.int z) ∧ h = h0
set_option maxRecDepth 65536 in
set_option maxHeartbeats 40000000 in
theorem ct_cfl (l : Launch) (Z : State) (a0 : Array Value) (hw : ∀ d ∈ tables_1, d.before a0 Z = true) (G1 : Int32) (G3 : Value) (OS : Sts Z G1 G3) (hEL : EW Z a0 EL) (hSA : ∀ a ∈ Bundle.stringAtoms, a.before a0 Z = true) (t : Addr) (kb : ClassId) (N n z : Int32) (vs : List Value) {h0 : Heap} (O : Ext Z.heap h0) (V0 : Arv Z h0 t kb .byte N vs (.int (0 : Int32))) (hz : nar .byte ((((n - N).toUInt32 >>> ((31 : Int32) &&& 31).toUInt32).toInt32).toInt8.toInt32) = z) : Ct l Z (⟨"java/lang/StringUTF16", "coderFromArrayLen", "([BI)B"⟩ : MethodName) jdk_52_method_15_code 2 (some .byte) rm_cfl #[(.ref t), (.int n)] h0 (Q_cfl Z t kb N n z vs h0) := by
  refine Ct.of_body (Ls := #[.val (.ref t), .val (.int n)]) (by decide +kernel) O (fun m => by first | rfl | (simp [entryFrame, mkF, argsToLocals, Value.category]; done) | (rcases ref_cases (Sts.ref OS) with rfl | ⟨r, rfl⟩ <;> rfl)) ?_
  intro p e s m below meth c T0 X0 e0
  subst e0
  refine E_iloadN X0 d_cfl_0 rfl (pc' := 1) rfl ?_
  refine E_aloadN X0 d_cfl_1 rfl rfl (pc' := 2) rfl ?_
  refine E_arraylength X0 d_cfl_2 V0 (pc' := 3) rfl ?_
  refine E_isub X0 d_cfl_3 rfl (pc' := 4) rfl ?_
  refine E_bipush X0 (v := (31 : Int32)) d_cfl_4 rfl (pc' := 6) rfl ?_
  refine E_iushr X0 d_cfl_6 rfl (pc' := 7) rfl ?_
  refine E_i2b X0 d_cfl_7 rfl (pc' := 8) rfl ?_
  exact E_ireturnN X0 (t := .byte) d_cfl_8 rfl (by simp) (by decide) (by decide) (⟨by rw [hz], rfl⟩)
theorem d_compress3_0 : decode jdk_52_method_16_code 0 = .ok (.iload_n 2, 1) := by decide +kernel
theorem d_compress3_1 : decode jdk_52_method_16_code 1 = .ok (.newarray .byte, 2) := by decide +kernel
theorem d_compress3_3 : decode jdk_52_method_16_code 3 = .ok (.astore_n 3, 1) := by decide +kernel
theorem d_compress3_4 : decode jdk_52_method_16_code 4 = .ok (.aload_n 0, 1) := by decide +kernel
theorem d_compress3_5 : decode jdk_52_method_16_code 5 = .ok (.iload_n 1, 1) := by decide +kernel
theorem d_compress3_6 : decode jdk_52_method_16_code 6 = .ok (.aload_n 3, 1) := by decide +kernel
theorem d_compress3_7 : decode jdk_52_method_16_code 7 = .ok (.iconst 0, 1) := by decide +kernel
theorem d_compress3_8 : decode jdk_52_method_16_code 8 = .ok (.iload_n 2, 1) := by decide +kernel
theorem d_compress3_9 : decode jdk_52_method_16_code 9 = .ok (.invokestatic 115, 3) := by decide +kernel
theorem d_compress3_12 : decode jdk_52_method_16_code 12 = .ok (.istore 4, 2) := by decide +kernel
theorem d_compress3_14 : decode jdk_52_method_16_code 14 = .ok (.iload 4, 2) := by decide +kernel
theorem d_compress3_16 : decode jdk_52_method_16_code 16 = .ok (.iload_n 2, 1) := by decide +kernel
theorem d_compress3_17 : decode jdk_52_method_16_code 17 = .ok (.if_icmp .eq 40, 3) := by decide +kernel
theorem d_compress3_57 : decode jdk_52_method_16_code 57 = .ok (.aload_n 3, 1) := by decide +kernel
theorem d_compress3_58 : decode jdk_52_method_16_code 58 = .ok (.areturn, 1) := by decide +kernel
abbrev rm_compress3 : Room := ({ frames := 1, cells := 1, slots := 3, locals := 18 } : Room)
def Q_compress3 (Z : State) (b : Addr) (kC : ClassId) (cs : List Int32) (dv : Value) (h0 : Heap) (v : Option Value) (h : Heap) : Prop := ∃ t kb, v = some (.ref t) ∧ Keep h0 h [] ∧ h0.size ≤ t ∧ ((∀ c ∈ cs, ¬ (255 : Int32) < c) ∧ Arv Z h t kb .byte (Int32.ofNat cs.length) (cs.map lo8) (.int (0 : Int32)))
set_option maxRecDepth 65536 in
set_option maxHeartbeats 40000000 in
theorem ct_compress3 (l : Launch) (Z : State) (a0 : Array Value) (hw : ∀ d ∈ tables_1, d.before a0 Z = true) (G1 : Int32) (G3 : Value) (OS : Sts Z G1 G3) (hEL : EW Z a0 EL) (hSA : ∀ a ∈ Bundle.stringAtoms, a.before a0 Z = true) (b : Addr) (kC : ClassId) (cs : List Int32) (dv : Value) {h0 : Heap} (O : Ext Z.heap h0) (hmx : cs.length ≤ 3) (hmx4 : cs.length ≤ 4000) (hp : ∀ c ∈ cs, ¬ (255 : Int32) < c) (V0 : Arv Z h0 b kC .char (Int32.ofNat cs.length) (cs.map Value.int) dv) : Ct l Z (⟨"java/lang/StringUTF16", "compress", "([CII)[B"⟩ : MethodName) jdk_52_method_16_code 6 (some (.array .byte)) rm_compress3 #[(.ref b), (.int (0 : Int32)), (.int (Int32.ofNat cs.length))] h0 (Q_compress3 Z b kC cs dv h0) := by
  refine Ct.of_body (Ls := #[.val (.ref b), .val (.int (0 : Int32)), .val (.int (Int32.ofNat cs.length)), .unset, .unset, .unset]) (by decide +kernel) O (fun m => by first | rfl | (simp [entryFrame, mkF, argsToLocals, Value.category]; done) | (rcases ref_cases (Sts.ref OS) with rfl | ⟨r, rfl⟩ <;> rfl)) ?_
  intro p e s m below meth c T0 X0 e0
  subst e0
  have K00 := Keep.refl T0.heap []
  refine E_iloadN X0 d_compress3_0 rfl (pc' := 1) rfl ?_
  refine E_newarray X0 3 d_compress3_1 (hw _ (List.mem_of_getElem? (i := 19) rfl)) (o_nn (by omega)) (by rw [o_cl (by omega)]; exact hmx) (by decide) (by decide) (by decide) (pc' := 3) rfl ?_
  intro T1 b3 k7 X2 hb4 K5 V6
  have sz8 : T0.heap.size ≤ b3 := Nat.le_trans K00.1 (Nat.le_of_eq hb4.symm)
  have ne9 : b ≠ b3 := Nat.ne_of_lt (Nat.lt_of_lt_of_eq V0.lt hb4.symm)
  have KK10 := K00.trans K5 (fun x q => nomatch q)
  have Arv_11 := V0.keep K5 nin0
  have g12 : Z.heap.size ≤ b3 := Nat.le_trans X0.le (Nat.le_of_eq hb4.symm)
  have V13 : Arv Z T1.heap b3 k7 .byte (Int32.ofNat cs.length) [] (.int (0 : Int32)) := V6
  refine E_astoreN X2 d_compress3_3 rfl (l' := #[.val (.ref b), .val (.int (0 : Int32)), .val (.int (Int32.ofNat cs.length)), .val (.ref b3), .unset, .unset]) rfl (pc' := 4) rfl ?_
  refine E_aloadN X2 d_compress3_4 rfl rfl (pc' := 5) rfl ?_
  refine E_iloadN X2 d_compress3_5 rfl (pc' := 6) rfl ?_
  refine E_aloadN X2 d_compress3_6 rfl rfl (pc' := 7) rfl ?_
  refine E_iconst X2 (v := (0 : Int32)) d_compress3_7 rfl (pc' := 8) rfl ?_
  refine E_iloadN X2 d_compress3_8 rfl (pc' := 9) rfl ?_
  refine E_static X2 (rm := rm_compress5) d_compress3_9 (hw _ (List.mem_of_getElem? (i := 47) rfl)) (hw _ (List.mem_of_getElem? (i := 48) rfl)) (hw _ (List.mem_of_getElem? (i := 45) rfl)) (hw _ (List.mem_of_getElem? (i := 49) rfl)) (by decide) (argsL := [(.ref b), (.int (0 : Int32)), (.ref b3), (.int (0 : Int32)), (.int (Int32.ofNat cs.length))]) (st := []) rfl (ct_compress5 l Z a0 hw G1 G3 OS hEL hSA b b3 kC k7 cs dv X2.old hmx4 Arv_11 V13 ne9 g12) (lenOf (pd_0) rfl) rfl (by decide) (by decide) (by decide) (Nat.le_of_ble_eq_true rfl)  (pc' := 12) rfl ?_
  intro T14 _ X15 hQ16
  obtain ⟨K17, hor⟩ := hQ16
  have KK18 := KK10.trans K17 (allS (Or.inr sz8) (fun x q => nomatch q))
  have Arv_19 := Arv_11.keep K17 (ninS ne9 nin0)
  rcases hor with ⟨rfl, hall, VB⟩ | ⟨j, hj, rfl, hbig⟩
  · skip
    show Ends p e below s Z _ _ _ T14 (mkF m 12 #[.val (.ref b), .val (.int (0 : Int32)), .val (.int (Int32.ofNat cs.length)), .val (.ref b3), .unset, .unset] [(.int (Int32.ofNat cs.length))])
    refine E_istore X15 d_compress3_12 (l' := #[.val (.ref b), .val (.int (0 : Int32)), .val (.int (Int32.ofNat cs.length)), .val (.ref b3), .val (.int (Int32.ofNat cs.length)), .unset]) rfl (pc' := 14) rfl ?_
    refine E_iload X15 d_compress3_14 rfl (pc' := 16) rfl ?_
    refine E_iloadN X15 d_compress3_16 rfl (pc' := 17) rfl ?_
    refine E_icT X15 d_compress3_17 (XT.ii_eq_t rfl) (pc' := 57) (by decide) rfl ?_
    refine E_aloadN X15 d_compress3_57 rfl rfl (pc' := 58) rfl ?_
    exact E_areturn X15 (t := (.array .byte)) d_compress3_58 rfl rfl rfl rfl (by decide) (by decide) (⟨b3, k7, rfl, KK18, sz8, ⟨hall, VB⟩⟩)
  · skip
    exact absurd hbig (hp _ (own_mem hj))
theorem d_init4_0 : decode jdk_42_method_149_code 0 = .ok (.aload_n 0, 1) := by decide +kernel
theorem d_init4_1 : decode jdk_42_method_149_code 1 = .ok (.invokespecial 1, 3) := by decide +kernel
theorem d_init4_4 : decode jdk_42_method_149_code 4 = .ok (.iload_n 3, 1) := by decide +kernel
theorem d_init4_5 : decode jdk_42_method_149_code 5 = .ok (.ifCond .ne 22, 3) := by decide +kernel
theorem d_init4_27 : decode jdk_42_method_149_code 27 = .ok (.getstatic 38, 3) := by decide +kernel
theorem d_init4_30 : decode jdk_42_method_149_code 30 = .ok (.ifCond .eq 28, 3) := by decide +kernel
theorem d_init4_33 : decode jdk_42_method_149_code 33 = .ok (.aload_n 1, 1) := by decide +kernel
theorem d_init4_34 : decode jdk_42_method_149_code 34 = .ok (.iload_n 2, 1) := by decide +kernel
theorem d_init4_35 : decode jdk_42_method_149_code 35 = .ok (.iload_n 3, 1) := by decide +kernel
theorem d_init4_36 : decode jdk_42_method_149_code 36 = .ok (.invokestatic 177, 3) := by decide +kernel
theorem d_init4_39 : decode jdk_42_method_149_code 39 = .ok (.astore 5, 2) := by decide +kernel
theorem d_init4_41 : decode jdk_42_method_149_code 41 = .ok (.aload_n 0, 1) := by decide +kernel
theorem d_init4_42 : decode jdk_42_method_149_code 42 = .ok (.aload 5, 2) := by decide +kernel
theorem d_init4_44 : decode jdk_42_method_149_code 44 = .ok (.iload_n 3, 1) := by decide +kernel
theorem d_init4_45 : decode jdk_42_method_149_code 45 = .ok (.invokestatic 47, 3) := by decide +kernel
theorem d_init4_48 : decode jdk_42_method_149_code 48 = .ok (.putfield 15, 3) := by decide +kernel
theorem d_init4_51 : decode jdk_42_method_149_code 51 = .ok (.aload_n 0, 1) := by decide +kernel
theorem d_init4_52 : decode jdk_42_method_149_code 52 = .ok (.aload 5, 2) := by decide +kernel
theorem d_init4_54 : decode jdk_42_method_149_code 54 = .ok (.putfield 9, 3) := by decide +kernel
theorem d_init4_57 : decode jdk_42_method_149_code 57 = .ok (.return_, 1) := by decide +kernel
abbrev rm_init4 : Room := ({ frames := 2, cells := 1, slots := 3, locals := 35 } : Room)
def Q_init4 (Z : State) (x b : Addr) (kC : ClassId) (cs : List Int32) (dv v0 c0 : Value) (h0 : Heap) (v : Option Value) (h : Heap) : Prop := v = none ∧ Keep h0 h [x] ∧ ∃ t, h0.size ≤ t ∧ OStr Z h x t cs
set_option maxRecDepth 65536 in
set_option maxHeartbeats 40000000 in
theorem ct_init4 (l : Launch) (Z : State) (a0 : Array Value) (hw : ∀ d ∈ tables_1, d.before a0 Z = true) (G1 : Int32) (G3 : Value) (OS : Sts Z G1 G3) (hEL : EW Z a0 EL) (hSA : ∀ a ∈ Bundle.stringAtoms, a.before a0 Z = true) (x b : Addr) (kC : ClassId) (cs : List Int32) (dv v0 c0 : Value) {h0 : Heap} (O : Ext Z.heap h0) (h0l : 0 < cs.length) (hmx : cs.length ≤ 3) (hp : ∀ c ∈ cs, ¬ c < 0 ∧ ¬ (255 : Int32) < c) (E0 : Exa Z h0 x "java/lang/String") (F0 : Fld Z h0 x "java/lang/String" "value" "[B" v0) (C0 : Fld Z h0 x "java/lang/String" "coder" "B" c0) (gx : Z.heap.size ≤ x) (V0 : Arv Z h0 b kC .char (Int32.ofNat cs.length) (cs.map Value.int) dv) : Ct l Z (⟨"java/lang/String", "<init>", "([CIILjava/lang/Void;)V"⟩ : MethodName) jdk_42_method_149_code 6 none rm_init4 #[(.ref x), (.ref b), (.int (0 : Int32)), (.int (Int32.ofNat cs.length)), .null] h0 (Q_init4 Z x b kC cs dv v0 c0 h0) := by
  refine Ct.of_body (Ls := #[.val (.ref x), .val (.ref b), .val (.int (0 : Int32)), .val (.int (Int32.ofNat cs.length)), .val .null, .unset]) (by decide +kernel) O (fun m => by first | rfl | (simp [entryFrame, mkF, argsToLocals, Value.category]; done) | (rcases ref_cases (Sts.ref OS) with rfl | ⟨r, rfl⟩ <;> rfl)) ?_
  intro p e s m below meth c T0 X0 e0
  subst e0
  have hmx4 : cs.length ≤ 4000 := by omega
  have hxb : b ≠ x := fun q => by subst q; exact absurd rfl (ne_arr E0 (hw _ (List.mem_of_getElem? (i := 5) rfl)) (V0.choose_spec.1))
  have K00 := Keep.refl T0.heap [x]
  refine E_aloadN X0 d_init4_0 rfl rfl (pc' := 1) rfl ?_
  refine E_initO X0 d_init4_1 (hw _ (List.mem_of_getElem? (i := 15) rfl)) (hw _ (List.mem_of_getElem? (i := 16) rfl)) (hw _ (List.mem_of_getElem? (i := 17) rfl)) rfl (by decide) (Nat.le_of_ble_eq_true rfl) (pc' := 4) rfl ?_
  intro T1 X2 e3
  have KK4 := own_keq K00 e3
  rw [← e3] at E0 F0 C0 V0
  refine E_iloadN X2 d_init4_4 rfl (pc' := 5) rfl ?_
  refine E_ifT X2 d_init4_5 (XT.i0_ne_t (fun q => by have q2 := congrArg Int32.toInt q; rw [o_int (by omega)] at q2; have o1 : (0 : Int32).toInt = 0 := rfl; omega)) (pc' := 27) (by decide) rfl ?_
  refine E_getstatic X2 d_init4_27 (hw _ (List.mem_of_getElem? (i := 37) rfl)) Via.refl OS.1 (pc' := 30) rfl ?_
  intro T5 X6 e7
  have KK8 := own_keq KK4 e7
  rw [← e7] at E0 F0 C0 V0
  refine E_ifF X6 d_init4_30 (XT.i0_eq_f OS.2.1) (pc' := 33) rfl ?_
  refine E_aloadN X6 d_init4_33 rfl rfl (pc' := 34) rfl ?_
  refine E_iloadN X6 d_init4_34 rfl (pc' := 35) rfl ?_
  refine E_iloadN X6 d_init4_35 rfl (pc' := 36) rfl ?_
  refine E_static X6 (rm := rm_compress3) d_init4_36 (hw _ (List.mem_of_getElem? (i := 43) rfl)) (hw _ (List.mem_of_getElem? (i := 44) rfl)) (hw _ (List.mem_of_getElem? (i := 45) rfl)) (hw _ (List.mem_of_getElem? (i := 46) rfl)) (by decide) (argsL := [(.ref b), (.int (0 : Int32)), (.int (Int32.ofNat cs.length))]) (st := []) rfl (ct_compress3 l Z a0 hw G1 G3 OS hEL hSA b kC cs dv X6.old hmx hmx4 (fun c hc => (hp c hc).2) V0) (lenOf (pd_1) rfl) rfl (by decide) (by decide) (by decide) (Nat.le_of_ble_eq_true rfl)  (pc' := 39) rfl ?_
  intro T9 _ X10 hQ11
  obtain ⟨t, kb, rfl, K12, szt0, hVT⟩ := hQ11
  have hxt : t ≠ x := Ne.symm (Nat.ne_of_lt (Nat.lt_of_lt_of_le E0.lt szt0))
  have KK13 := KK8.trans K12 (fun x q => nomatch q)
  have Exa_14 := E0.keep K12
  have Fld_15 := F0.keep K12 nin0
  have Fld_16 := C0.keep K12 nin0
  have Arv_17 := V0.keep K12 nin0
  have szt : T0.heap.size ≤ t := Nat.le_trans KK8.1 szt0
  obtain ⟨hall, VT⟩ := hVT
  show Ends p e below s Z _ _ _ T9 (mkF m 39 #[.val (.ref x), .val (.ref b), .val (.int (0 : Int32)), .val (.int (Int32.ofNat cs.length)), .val .null, .unset] [(.ref t)])
  refine E_astore X10 d_init4_39 rfl (l' := #[.val (.ref x), .val (.ref b), .val (.int (0 : Int32)), .val (.int (Int32.ofNat cs.length)), .val .null, .val (.ref t)]) rfl (pc' := 41) rfl ?_
  refine E_aloadN X10 d_init4_41 rfl rfl (pc' := 42) rfl ?_
  refine E_aload X10 d_init4_42 rfl rfl (pc' := 44) rfl ?_
  refine E_iloadN X10 d_init4_44 rfl (pc' := 45) rfl ?_
  refine E_static X10 (rm := rm_cfl) d_init4_45 (hw _ (List.mem_of_getElem? (i := 50) rfl)) (hw _ (List.mem_of_getElem? (i := 51) rfl)) (hw _ (List.mem_of_getElem? (i := 45) rfl)) (hw _ (List.mem_of_getElem? (i := 52) rfl)) (by decide) (argsL := [(.ref t), (.int (Int32.ofNat cs.length))]) (st := [(.ref x)]) rfl (ct_cfl l Z a0 hw G1 G3 OS hEL hSA t kb (Int32.ofNat cs.length) (Int32.ofNat cs.length) 0 (cs.map lo8) X10.old VT (by rw [Int32.sub_self]; rfl)) (lenOf (pd_2) rfl) rfl (by decide) (by decide) (by decide) (Nat.le_of_ble_eq_true rfl)  (pc' := 48) rfl ?_
  intro T18 _ X19 hQ20
  obtain ⟨rfl, e21⟩ := hQ20
  have KK22 := own_keq KK13 e21
  rw [← e21] at Exa_14 Fld_15 Fld_16 Arv_17 VT
  show Ends p e below s Z _ _ _ T18 (mkF m 48 #[.val (.ref x), .val (.ref b), .val (.int (0 : Int32)), .val (.int (Int32.ofNat cs.length)), .val .null, .val (.ref t)] [(.int (0 : Int32)), (.ref x)])
  refine E_putfield X19 (ty := .byte) d_init4_48 (hw _ (List.mem_of_getElem? (i := 25) rfl)) Via.refl Fld_16 Exa_14 (Or.inr ⟨(hw _ (List.mem_of_getElem? (i := 21) rfl)), rfl, rfl⟩) (hw _ (List.mem_of_getElem? (i := 5) rfl)) (by decide) rfl rfl gx  (pc' := 51) rfl ?_
  intro T23 X24 W25
  have K26 := Keep.of_wr W25
  have KK27 := KK22.trans K26 (allS (Or.inl (by simp)) (fun x q => nomatch q))
  have Exa_28 := Exa_14.keep K26
  have Arv_29 := Arv_17.keep K26 (ninS hxb nin0)
  have Arv_30 := VT.keep K26 (ninS hxt nin0)
  have F31 := Fld_16.same W25
  have F32 := Fld_15.other W25 (Or.inr (slot_ne (Or.inr (hw _ (List.mem_of_getElem? (i := 20) rfl))) (Or.inr (hw _ (List.mem_of_getElem? (i := 21) rfl))) (by decide) (t := (.array .byte)) (t' := .byte) (by decide) (by decide)))
  refine E_aloadN X24 d_init4_51 rfl rfl (pc' := 52) rfl ?_
  refine E_aload X24 d_init4_52 rfl rfl (pc' := 54) rfl ?_
  refine E_putfield X24 (ty := (.array .byte)) d_init4_54 (hw _ (List.mem_of_getElem? (i := 24) rfl)) Via.refl F32 Exa_28 (Or.inr ⟨(hw _ (List.mem_of_getElem? (i := 20) rfl)), rfl, rfl⟩) (hw _ (List.mem_of_getElem? (i := 5) rfl)) (by decide) rfl rfl gx  (pc' := 57) rfl ?_
  intro T33 X34 W35
  have K36 := Keep.of_wr W35
  have KK37 := KK27.trans K36 (allS (Or.inl (by simp)) (fun x q => nomatch q))
  have Exa_38 := Exa_28.keep K36
  have Arv_39 := Arv_29.keep K36 (ninS hxb nin0)
  have Arv_40 := Arv_30.keep K36 (ninS hxt nin0)
  have F41 := F32.same W35
  have F42 := F31.other W35 (Or.inr (slot_ne (Or.inr (hw _ (List.mem_of_getElem? (i := 21) rfl))) (Or.inr (hw _ (List.mem_of_getElem? (i := 20) rfl))) (by decide) (t := .byte) (t' := (.array .byte)) (by decide) (by decide)))
  exact E_return X34 d_init4_57 rfl (by decide) (by decide) (⟨rfl, KK37, t, szt, kb, _, _, _, Exa_38, F41, F42, Arv_40, ⟨rfl, rfl, rfl, hall⟩, fun c hc => ⟨(hp c hc).1, fun q => (hp c hc).2 (Int32.lt_trans (by decide) q)⟩, hmx4⟩)
theorem d_sinit_0 : decode jdk_42_method_3_code 0 = .ok (.aload_n 0, 1) := by decide +kernel
theorem d_sinit_1 : decode jdk_42_method_3_code 1 = .ok (.aload_n 1, 1) := by decide +kernel
theorem d_sinit_2 : decode jdk_42_method_3_code 2 = .ok (.iconst 0, 1) := by decide +kernel
theorem d_sinit_3 : decode jdk_42_method_3_code 3 = .ok (.aload_n 1, 1) := by decide +kernel
theorem d_sinit_4 : decode jdk_42_method_3_code 4 = .ok (.arraylength, 1) := by decide +kernel
theorem d_sinit_5 : decode jdk_42_method_3_code 5 = .ok (.aconst_null, 1) := by decide +kernel
theorem d_sinit_6 : decode jdk_42_method_3_code 6 = .ok (.invokespecial 27, 3) := by decide +kernel
theorem d_sinit_9 : decode jdk_42_method_3_code 9 = .ok (.return_, 1) := by decide +kernel
abbrev rm_sinit : Room := ({ frames := 3, cells := 1, slots := 3, locals := 52 } : Room)
def Q_sinit (Z : State) (x b : Addr) (kC : ClassId) (cs : List Int32) (dv v0 c0 : Value) (h0 : Heap) (v : Option Value) (h : Heap) : Prop := v = none ∧ Keep h0 h [x] ∧ ∃ t, h0.size ≤ t ∧ OStr Z h x t cs
set_option maxRecDepth 65536 in
set_option maxHeartbeats 40000000 in
theorem ct_sinit (l : Launch) (Z : State) (a0 : Array Value) (hw : ∀ d ∈ tables_1, d.before a0 Z = true) (G1 : Int32) (G3 : Value) (OS : Sts Z G1 G3) (hEL : EW Z a0 EL) (hSA : ∀ a ∈ Bundle.stringAtoms, a.before a0 Z = true) (x b : Addr) (kC : ClassId) (cs : List Int32) (dv v0 c0 : Value) {h0 : Heap} (O : Ext Z.heap h0) (h0l : 0 < cs.length) (hmx : cs.length ≤ 3) (hp : ∀ c ∈ cs, ¬ c < 0 ∧ ¬ (255 : Int32) < c) (E0 : Exa Z h0 x "java/lang/String") (F0 : Fld Z h0 x "java/lang/String" "value" "[B" v0) (C0 : Fld Z h0 x "java/lang/String" "coder" "B" c0) (gx : Z.heap.size ≤ x) (V0 : Arv Z h0 b kC .char (Int32.ofNat cs.length) (cs.map Value.int) dv) : Ct l Z (⟨"java/lang/String", "<init>", "([C)V"⟩ : MethodName) jdk_42_method_3_code 2 none rm_sinit #[(.ref x), (.ref b)] h0 (Q_sinit Z x b kC cs dv v0 c0 h0) := by
  refine Ct.of_body (Ls := #[.val (.ref x), .val (.ref b)]) (by decide +kernel) O (fun m => by first | rfl | (simp [entryFrame, mkF, argsToLocals, Value.category]; done) | (rcases ref_cases (Sts.ref OS) with rfl | ⟨r, rfl⟩ <;> rfl)) ?_
  intro p e s m below meth c T0 X0 e0
  subst e0
  refine E_aloadN X0 d_sinit_0 rfl rfl (pc' := 1) rfl ?_
  refine E_aloadN X0 d_sinit_1 rfl rfl (pc' := 2) rfl ?_
  refine E_iconst X0 (v := (0 : Int32)) d_sinit_2 rfl (pc' := 3) rfl ?_
  refine E_aloadN X0 d_sinit_3 rfl rfl (pc' := 4) rfl ?_
  refine E_arraylength X0 d_sinit_4 V0 (pc' := 5) rfl ?_
  refine E_aconstNull X0 d_sinit_5 (pc' := 6) rfl ?_
  refine E_special X0 (rm := rm_init4) (a := x) d_sinit_6 rfl rfl (hw _ (List.mem_of_getElem? (i := 11) rfl)) (hw _ (List.mem_of_getElem? (i := 12) rfl)) (hw _ (List.mem_of_getElem? (i := 14) rfl)) (by decide) (hw _ (List.mem_of_getElem? (i := 6) rfl)) (argsL := [(.ref b), (.int (0 : Int32)), (.int (Int32.ofNat cs.length)), .null]) (st := []) rfl (ct_init4 l Z a0 hw G1 G3 OS hEL hSA x b kC cs dv v0 c0 X0.old h0l hmx hp E0 F0 C0 gx V0) (lenOf (pd_3) rfl) rfl (by decide) (by decide) (by decide) (Nat.le_of_ble_eq_true rfl)  (pc' := 9) rfl ?_
  intro T1 _ X2 hQ3
  obtain ⟨rfl, KF, t, szt, SF⟩ := hQ3
  show Ends p e below s Z _ _ _ T1 (mkF m 9 #[.val (.ref x), .val (.ref b)] [])
  exact E_return X2 d_sinit_9 rfl (by decide) (by decide) (⟨rfl, KF, t, szt, SF⟩)
theorem OStr.inj {Z : State} {h : Heap} {x t t' : Addr} {cs ds : List Int32} (S : OStr Z h x t cs) (S' : OStr Z h x t' ds) : cs = ds := by
  obtain ⟨kb, cd, N, vs, E, F, C, ⟨c1, A1, -, s1, -, H1, -⟩, ⟨-, rfl, rfl, b1⟩, p1, l1⟩ := S
  obtain ⟨kb', cd', N', vs', E', F', C', ⟨c2, A2, -, s2, -, H2, -⟩, ⟨-, rfl, rfl, b2⟩, p2, l2⟩ := S'
  cases Fld.inj F F'
  cases A1.1.symm.trans A2.1
  rw [o_cl (by omega)] at s1 s2
  refine own_ext (by omega) fun i hi => ?_
  have q := (H1 i (by omega)).symm.trans (H2 i (by omega))
  have m1 := own_mem hi
  have m2 := own_mem (cs := ds) (i := i) (by omega)
  have g1 : (cs.map lo8).getD i (.int 0) = lo8 (cs.getD i 0) := by simp [List.getD_eq_getElem?_getD, hi]
  have g2 : (ds.map lo8).getD i (.int 0) = lo8 (ds.getD i 0) := by simp [List.getD_eq_getElem?_getD, show i < ds.length by omega]
  rw [g1, g2] at q
  exact lo8_inj (p1 _ m1).1 (b1 _ m1) (p2 _ m2).1 (b2 _ m2) (by simpa [lo8] using q)
theorem d_leq_0 : decode jdk_43_method_13_code 0 = .ok (.aload_n 0, 1) := by decide +kernel
theorem d_leq_1 : decode jdk_43_method_13_code 1 = .ok (.arraylength, 1) := by decide +kernel
theorem d_leq_2 : decode jdk_43_method_13_code 2 = .ok (.aload_n 1, 1) := by decide +kernel
theorem d_leq_3 : decode jdk_43_method_13_code 3 = .ok (.arraylength, 1) := by decide +kernel
theorem d_leq_4 : decode jdk_43_method_13_code 4 = .ok (.if_icmp .ne 30, 3) := by decide +kernel
theorem d_leq_7 : decode jdk_43_method_13_code 7 = .ok (.iconst 0, 1) := by decide +kernel
theorem d_leq_8 : decode jdk_43_method_13_code 8 = .ok (.istore_n 2, 1) := by decide +kernel
theorem d_leq_9 : decode jdk_43_method_13_code 9 = .ok (.iload_n 2, 1) := by decide +kernel
theorem d_leq_10 : decode jdk_43_method_13_code 10 = .ok (.aload_n 0, 1) := by decide +kernel
theorem d_leq_11 : decode jdk_43_method_13_code 11 = .ok (.arraylength, 1) := by decide +kernel
theorem d_leq_12 : decode jdk_43_method_13_code 12 = .ok (.if_icmp .ge 20, 3) := by decide +kernel
theorem d_leq_15 : decode jdk_43_method_13_code 15 = .ok (.aload_n 0, 1) := by decide +kernel
theorem d_leq_16 : decode jdk_43_method_13_code 16 = .ok (.iload_n 2, 1) := by decide +kernel
theorem d_leq_17 : decode jdk_43_method_13_code 17 = .ok (.baload, 1) := by decide +kernel
theorem d_leq_18 : decode jdk_43_method_13_code 18 = .ok (.aload_n 1, 1) := by decide +kernel
theorem d_leq_19 : decode jdk_43_method_13_code 19 = .ok (.iload_n 2, 1) := by decide +kernel
theorem d_leq_20 : decode jdk_43_method_13_code 20 = .ok (.baload, 1) := by decide +kernel
theorem d_leq_21 : decode jdk_43_method_13_code 21 = .ok (.if_icmp .eq 5, 3) := by decide +kernel
theorem d_leq_24 : decode jdk_43_method_13_code 24 = .ok (.iconst 0, 1) := by decide +kernel
theorem d_leq_25 : decode jdk_43_method_13_code 25 = .ok (.ireturn, 1) := by decide +kernel
theorem d_leq_26 : decode jdk_43_method_13_code 26 = .ok (.iinc 2 1, 3) := by decide +kernel
theorem d_leq_29 : decode jdk_43_method_13_code 29 = .ok (.goto (-20), 3) := by decide +kernel
theorem d_leq_32 : decode jdk_43_method_13_code 32 = .ok (.iconst 1, 1) := by decide +kernel
theorem d_leq_33 : decode jdk_43_method_13_code 33 = .ok (.ireturn, 1) := by decide +kernel
theorem d_leq_34 : decode jdk_43_method_13_code 34 = .ok (.iconst 0, 1) := by decide +kernel
theorem d_leq_35 : decode jdk_43_method_13_code 35 = .ok (.ireturn, 1) := by decide +kernel
abbrev rm_leq : Room := ({ frames := 0, cells := 0, slots := 0, locals := 0 } : Room)
def Q_leq (Z : State) (t u : Addr) (kb ku : ClassId) (cs ds : List Int32) (h0 : Heap) (v : Option Value) (h : Heap) : Prop := ∃ z, v = some (.int z) ∧ h = h0 ∧ (cs = ds → z = 1) ∧ (¬ cs = ds → z = 0)
set_option maxRecDepth 65536 in
set_option maxHeartbeats 40000000 in
theorem lp_leq (l : Launch) (Z : State) (a0 : Array Value) (hw : ∀ d ∈ tables_1, d.before a0 Z = true) (G1 : Int32) (G3 : Value) (OS : Sts Z G1 G3) (hEL : EW Z a0 EL) (hSA : ∀ a ∈ Bundle.stringAtoms, a.before a0 Z = true) (t u : Addr) (kb ku : ClassId) (cs ds : List Int32) {h0 : Heap} {p : Program} {e : Env} {s : State} {m : MethodId} {below : List Frame} {meth : Method} {c : Code} (k : Nat) : ∀ {T0 : State} (i : Nat), Wk l Z rm_leq jdk_43_method_13_code 3 (some .boolean) "java/lang/StringLatin1" "equals" p e s m #[(.ref t), (.ref u)] below meth c T0 0 0 → (i + k = cs.length) → (cs.length = ds.length) → (cs.length ≤ 4000) → (∀ c ∈ cs, ¬ c < 0 ∧ ¬ (255 : Int32) < c) → (∀ c ∈ ds, ¬ c < 0 ∧ ¬ (255 : Int32) < c) → (T0.heap = h0) → (Arv Z T0.heap t kb .byte (Int32.ofNat cs.length) (cs.map lo8) (.int (0 : Int32))) → (Arv Z T0.heap u ku .byte (Int32.ofNat ds.length) (ds.map lo8) (.int (0 : Int32))) → (∀ j, j < i → cs.getD j 0 = ds.getD j 0) → Ends p e below s Z (Q_leq Z t u kb ku cs ds h0) rm_leq.cells rm_leq.slots T0 (mkF m 9 #[.val (.ref t), .val (.ref u), .val (.int (Int32.ofNat i))] []) := by
  induction k with
  | zero =>
    intro T0 i X0 hi hl hl4 hc hd eh V0 U0 hpre
    have hik : i = cs.length := by omega
    subst hik
    refine E_iloadN X0 d_leq_9 rfl (pc' := 10) rfl ?_
    refine E_aloadN X0 d_leq_10 rfl rfl (pc' := 11) rfl ?_
    refine E_arraylength X0 d_leq_11 V0 (pc' := 12) rfl ?_
    refine E_icT X0 d_leq_12 (XT.ii_ge_t (o_nlt (Nat.le_refl _) (by omega))) (pc' := 32) (by decide) rfl ?_
    refine E_iconst X0 (v := (1 : Int32)) d_leq_32 rfl (pc' := 33) rfl ?_
    exact E_ireturnN X0 (t := .boolean) d_leq_33 rfl (by simp) (by decide) (by decide) (⟨_, rfl, eh, fun _ => rfl, fun q => absurd (own_ext hl hpre) q⟩)
  | succ k ih =>
    intro T0 i X0 hi hl hl4 hc hd eh V0 U0 hpre
    have hlt : i < cs.length := by omega
    have hlt2 : i < ds.length := by omega
    refine E_iloadN X0 d_leq_9 rfl (pc' := 10) rfl ?_
    refine E_aloadN X0 d_leq_10 rfl rfl (pc' := 11) rfl ?_
    refine E_arraylength X0 d_leq_11 V0 (pc' := 12) rfl ?_
    refine E_icF X0 d_leq_12 (XT.ii_ge_f (o_lt hlt (by omega))) (pc' := 15) rfl ?_
    refine E_aloadN X0 d_leq_15 rfl rfl (pc' := 16) rfl ?_
    refine E_iloadN X0 d_leq_16 rfl (pc' := 17) rfl ?_
    refine E_baload X0 (v := (.int (cs.getD i 0).toInt8.toInt32)) d_leq_17 V0 ⟨o_nn (by omega), o_lt hlt (by omega)⟩ (own_getD lo8 hlt (by omega)) (pc' := 18) rfl ?_
    refine E_aloadN X0 d_leq_18 rfl rfl (pc' := 19) rfl ?_
    refine E_iloadN X0 d_leq_19 rfl (pc' := 20) rfl ?_
    refine E_baload X0 (v := (.int (ds.getD i 0).toInt8.toInt32)) d_leq_20 U0 ⟨o_nn (by omega), o_lt hlt2 (by omega)⟩ (own_getD lo8 hlt2 (by omega)) (pc' := 21) rfl ?_
    by_cases h21 : (cs.getD i 0).toInt8.toInt32 = (ds.getD i 0).toInt8.toInt32
    · skip
      refine E_icT X0 d_leq_21 (XT.ii_eq_t h21) (pc' := 26) (by decide) rfl ?_
      refine E_iinc X0 (y := (Int32.ofNat (i + 1))) d_leq_26 o_add rfl (l' := #[.val (.ref t), .val (.ref u), .val (.int (Int32.ofNat (i + 1)))]) rfl (pc' := 29) rfl ?_
      refine E_goto X0 d_leq_29 (pc' := 9) (by decide) rfl ?_
      have hce := lo8_inj (hc _ (own_mem hlt)).1 (hc _ (own_mem hlt)).2 (hd _ (own_mem hlt2)).1 (hd _ (own_mem hlt2)).2 h21
      exact ih (i + 1) X0 (by omega) hl hl4 hc hd eh V0 U0 (fun j hj => by by_cases e : j = i; rw [e]; exact hce; exact hpre j (by omega))
    · skip
      refine E_icF X0 d_leq_21 (XT.ii_eq_f h21) (pc' := 24) rfl ?_
      refine E_iconst X0 (v := (0 : Int32)) d_leq_24 rfl (pc' := 25) rfl ?_
      exact E_ireturnN X0 (t := .boolean) d_leq_25 rfl (by simp) (by decide) (by decide) (⟨_, rfl, eh, fun q => absurd (by rw [q]) h21, fun _ => rfl⟩)
set_option maxRecDepth 65536 in
set_option maxHeartbeats 40000000 in
theorem ct_leq (l : Launch) (Z : State) (a0 : Array Value) (hw : ∀ d ∈ tables_1, d.before a0 Z = true) (G1 : Int32) (G3 : Value) (OS : Sts Z G1 G3) (hEL : EW Z a0 EL) (hSA : ∀ a ∈ Bundle.stringAtoms, a.before a0 Z = true) (t u : Addr) (kb ku : ClassId) (cs ds : List Int32) {h0 : Heap} (O : Ext Z.heap h0) (V0 : Arv Z h0 t kb .byte (Int32.ofNat cs.length) (cs.map lo8) (.int (0 : Int32))) (U0 : Arv Z h0 u ku .byte (Int32.ofNat ds.length) (ds.map lo8) (.int (0 : Int32))) (hc : ∀ c ∈ cs, ¬ c < 0 ∧ ¬ (255 : Int32) < c) (hd : ∀ c ∈ ds, ¬ c < 0 ∧ ¬ (255 : Int32) < c) (hl4 : cs.length ≤ 4000) (hl5 : ds.length ≤ 4000) : Ct l Z (⟨"java/lang/StringLatin1", "equals", "([B[B)Z"⟩ : MethodName) jdk_43_method_13_code 3 (some .boolean) rm_leq #[(.ref t), (.ref u)] h0 (Q_leq Z t u kb ku cs ds h0) := by
  refine Ct.of_body (Ls := #[.val (.ref t), .val (.ref u), .unset]) (by decide +kernel) O (fun m => by first | rfl | (simp [entryFrame, mkF, argsToLocals, Value.category]; done) | (rcases ref_cases (Sts.ref OS) with rfl | ⟨r, rfl⟩ <;> rfl)) ?_
  intro p e s m below meth c T0 X0 e0
  subst e0
  refine E_aloadN X0 d_leq_0 rfl rfl (pc' := 1) rfl ?_
  refine E_arraylength X0 d_leq_1 V0 (pc' := 2) rfl ?_
  refine E_aloadN X0 d_leq_2 rfl rfl (pc' := 3) rfl ?_
  refine E_arraylength X0 d_leq_3 U0 (pc' := 4) rfl ?_
  by_cases h4 : (Int32.ofNat cs.length) = (Int32.ofNat ds.length)
  · skip
    refine E_icF X0 d_leq_4 (XT.ii_ne_f h4) (pc' := 7) rfl ?_
    have hl : cs.length = ds.length := by have q := congrArg Int32.toInt h4; rw [o_int (by omega), o_int (by omega)] at q; omega
    refine E_iconst X0 (v := (0 : Int32)) d_leq_7 rfl (pc' := 8) rfl ?_
    refine E_istoreN X0 d_leq_8 (l' := #[.val (.ref t), .val (.ref u), .val (.int (0 : Int32))]) rfl (pc' := 9) rfl ?_
    exact lp_leq l Z a0 hw G1 G3 OS hEL hSA t u kb ku cs ds cs.length 0 X0 (by omega) hl hl4 hc hd rfl V0 U0 (fun j hj => absurd hj (Nat.not_lt_zero _))
  · skip
    refine E_icT X0 d_leq_4 (XT.ii_ne_t h4) (pc' := 34) (by decide) rfl ?_
    have hl : ¬ cs.length = ds.length := fun q => h4 (by rw [q])
    refine E_iconst X0 (v := (0 : Int32)) d_leq_34 rfl (pc' := 35) rfl ?_
    exact E_ireturnN X0 (t := .boolean) d_leq_35 rfl (by simp) (by decide) (by decide) (⟨_, rfl, rfl, fun q => absurd (by rw [q]) hl, fun _ => rfl⟩)
theorem d_seq_0 : decode jdk_42_method_66_code 0 = .ok (.aload_n 0, 1) := by decide +kernel
theorem d_seq_1 : decode jdk_42_method_66_code 1 = .ok (.aload_n 1, 1) := by decide +kernel
theorem d_seq_2 : decode jdk_42_method_66_code 2 = .ok (.if_acmp .ne 5, 3) := by decide +kernel
theorem d_seq_5 : decode jdk_42_method_66_code 5 = .ok (.iconst 1, 1) := by decide +kernel
theorem d_seq_6 : decode jdk_42_method_66_code 6 = .ok (.ireturn, 1) := by decide +kernel
theorem d_seq_7 : decode jdk_42_method_66_code 7 = .ok (.aload_n 1, 1) := by decide +kernel
theorem d_seq_8 : decode jdk_42_method_66_code 8 = .ok (.instanceof 10, 3) := by decide +kernel
theorem d_seq_11 : decode jdk_42_method_66_code 11 = .ok (.ifCond .eq 43, 3) := by decide +kernel
theorem d_seq_14 : decode jdk_42_method_66_code 14 = .ok (.aload_n 1, 1) := by decide +kernel
theorem d_seq_15 : decode jdk_42_method_66_code 15 = .ok (.checkcast 10, 3) := by decide +kernel
theorem d_seq_18 : decode jdk_42_method_66_code 18 = .ok (.astore_n 2, 1) := by decide +kernel
theorem d_seq_19 : decode jdk_42_method_66_code 19 = .ok (.getstatic 38, 3) := by decide +kernel
theorem d_seq_22 : decode jdk_42_method_66_code 22 = .ok (.ifCond .eq 14, 3) := by decide +kernel
theorem d_seq_25 : decode jdk_42_method_66_code 25 = .ok (.aload_n 0, 1) := by decide +kernel
theorem d_seq_26 : decode jdk_42_method_66_code 26 = .ok (.getfield 15, 3) := by decide +kernel
theorem d_seq_29 : decode jdk_42_method_66_code 29 = .ok (.aload_n 2, 1) := by decide +kernel
theorem d_seq_30 : decode jdk_42_method_66_code 30 = .ok (.getfield 15, 3) := by decide +kernel
theorem d_seq_33 : decode jdk_42_method_66_code 33 = .ok (.if_icmp .ne 21, 3) := by decide +kernel
theorem d_seq_36 : decode jdk_42_method_66_code 36 = .ok (.aload_n 0, 1) := by decide +kernel
theorem d_seq_37 : decode jdk_42_method_66_code 37 = .ok (.getfield 9, 3) := by decide +kernel
theorem d_seq_40 : decode jdk_42_method_66_code 40 = .ok (.aload_n 2, 1) := by decide +kernel
theorem d_seq_41 : decode jdk_42_method_66_code 41 = .ok (.getfield 9, 3) := by decide +kernel
theorem d_seq_44 : decode jdk_42_method_66_code 44 = .ok (.invokestatic 541, 3) := by decide +kernel
theorem d_seq_47 : decode jdk_42_method_66_code 47 = .ok (.ifCond .eq 7, 3) := by decide +kernel
theorem d_seq_50 : decode jdk_42_method_66_code 50 = .ok (.iconst 1, 1) := by decide +kernel
theorem d_seq_51 : decode jdk_42_method_66_code 51 = .ok (.goto 4, 3) := by decide +kernel
theorem d_seq_54 : decode jdk_42_method_66_code 54 = .ok (.iconst 0, 1) := by decide +kernel
theorem d_seq_55 : decode jdk_42_method_66_code 55 = .ok (.ireturn, 1) := by decide +kernel
abbrev rm_seq : Room := ({ frames := 1, cells := 0, slots := 0, locals := 14 } : Room)
def Q_seq (Z : State) (x y t u : Addr) (cs ds : List Int32) (h0 : Heap) (v : Option Value) (h : Heap) : Prop := ∃ z, v = some (.int z) ∧ h = h0 ∧ (cs = ds → z = 1) ∧ (¬ cs = ds → z = 0)
set_option maxRecDepth 65536 in
set_option maxHeartbeats 40000000 in
theorem ct_seq (l : Launch) (Z : State) (a0 : Array Value) (hw : ∀ d ∈ tables_1, d.before a0 Z = true) (G1 : Int32) (G3 : Value) (OS : Sts Z G1 G3) (hEL : EW Z a0 EL) (hSA : ∀ a ∈ Bundle.stringAtoms, a.before a0 Z = true) (x y t u : Addr) (cs ds : List Int32) {h0 : Heap} (O : Ext Z.heap h0) (S0 : OStr Z h0 x t cs) (S1 : OStr Z h0 y u ds) : Ct l Z (⟨"java/lang/String", "equals", "(Ljava/lang/Object;)Z"⟩ : MethodName) jdk_42_method_66_code 3 (some .boolean) rm_seq #[(.ref x), (.ref y)] h0 (Q_seq Z x y t u cs ds h0) := by
  refine Ct.of_body (Ls := #[.val (.ref x), .val (.ref y), .unset]) (by decide +kernel) O (fun m => by first | rfl | (simp [entryFrame, mkF, argsToLocals, Value.category]; done) | (rcases ref_cases (Sts.ref OS) with rfl | ⟨r, rfl⟩ <;> rfl)) ?_
  intro p e s m below meth c T0 X0 e0
  subst e0
  by_cases hxy : x = y
  · skip
    subst hxy
    have hcd := OStr.inj S0 S1
    refine E_aloadN X0 d_seq_0 rfl rfl (pc' := 1) rfl ?_
    refine E_aloadN X0 d_seq_1 rfl rfl (pc' := 2) rfl ?_
    refine E_acmp X0 d_seq_2 rfl rfl true (decide_eq_true rfl) (pc' := 5) (by decide) rfl ?_
    refine E_iconst X0 (v := (1 : Int32)) d_seq_5 rfl (pc' := 6) rfl ?_
    exact E_ireturnN X0 (t := .boolean) d_seq_6 rfl (by simp) (by decide) (by decide) (⟨_, rfl, rfl, fun _ => rfl, fun q => absurd hcd q⟩)
  · skip
    obtain ⟨kb, cd, N, vs, E0, F0, C0, V0, ⟨rfl, rfl, rfl, bc⟩, pc_, lc⟩ := S0
    obtain ⟨ku, cu, M, us, E1, F1, C1, V1, ⟨rfl, rfl, rfl, bd⟩, pd_, ld⟩ := S1
    refine E_aloadN X0 d_seq_0 rfl rfl (pc' := 1) rfl ?_
    refine E_aloadN X0 d_seq_1 rfl rfl (pc' := 2) rfl ?_
    refine E_acmp X0 d_seq_2 rfl rfl false (decide_eq_false fun q => hxy (Value.ref.inj q)) (pc' := 7) (by decide) rfl ?_
    refine E_aloadN X0 d_seq_7 rfl rfl (pc' := 8) rfl ?_
    refine E_instY X0 d_seq_8 (hw _ (List.mem_of_getElem? (i := 36) rfl)) (Ins.self E1) (pc' := 11) rfl ?_
    intro T1 X2 e3
    rw [← e3] at E0 F0 C0 V0 E1 F1 C1 V1
    refine E_ifF X2 d_seq_11 (XT.i0_eq_f (by decide)) (pc' := 14) rfl ?_
    refine E_aloadN X2 d_seq_14 rfl rfl (pc' := 15) rfl ?_
    refine E_checkcast X2 d_seq_15 (hw _ (List.mem_of_getElem? (i := 36) rfl)) (Ins.self E1) (pc' := 18) rfl ?_
    intro T4 X5 e6
    rw [← e6] at E0 F0 C0 V0 E1 F1 C1 V1
    refine E_astoreN X5 d_seq_18 rfl (l' := #[.val (.ref x), .val (.ref y), .val (.ref y)]) rfl (pc' := 19) rfl ?_
    refine E_getstatic X5 d_seq_19 (hw _ (List.mem_of_getElem? (i := 37) rfl)) Via.refl OS.1 (pc' := 22) rfl ?_
    intro T7 X8 e9
    rw [← e9] at E0 F0 C0 V0 E1 F1 C1 V1
    refine E_ifF X8 d_seq_22 (XT.i0_eq_f OS.2.1) (pc' := 25) rfl ?_
    refine E_aloadN X8 d_seq_25 rfl rfl (pc' := 26) rfl ?_
    refine E_getfield X8 d_seq_26 (hw _ (List.mem_of_getElem? (i := 25) rfl)) Via.refl C0 (pc' := 29) rfl ?_
    intro T10 X11 e12
    rw [← e12] at E0 F0 C0 V0 E1 F1 C1 V1
    refine E_aloadN X11 d_seq_29 rfl rfl (pc' := 30) rfl ?_
    refine E_getfield X11 d_seq_30 (hw _ (List.mem_of_getElem? (i := 25) rfl)) Via.refl C1 (pc' := 33) rfl ?_
    intro T13 X14 e15
    rw [← e15] at E0 F0 C0 V0 E1 F1 C1 V1
    refine E_icF X14 d_seq_33 (XT.ii_ne_f (by decide)) (pc' := 36) rfl ?_
    refine E_aloadN X14 d_seq_36 rfl rfl (pc' := 37) rfl ?_
    refine E_getfield X14 d_seq_37 (hw _ (List.mem_of_getElem? (i := 24) rfl)) Via.refl F0 (pc' := 40) rfl ?_
    intro T16 X17 e18
    rw [← e18] at E0 F0 C0 V0 E1 F1 C1 V1
    refine E_aloadN X17 d_seq_40 rfl rfl (pc' := 41) rfl ?_
    refine E_getfield X17 d_seq_41 (hw _ (List.mem_of_getElem? (i := 24) rfl)) Via.refl F1 (pc' := 44) rfl ?_
    intro T19 X20 e21
    rw [← e21] at E0 F0 C0 V0 E1 F1 C1 V1
    refine E_static X20 (rm := rm_leq) d_seq_44 (hw _ (List.mem_of_getElem? (i := 38) rfl)) (hw _ (List.mem_of_getElem? (i := 39) rfl)) (hw _ (List.mem_of_getElem? (i := 40) rfl)) (hw _ (List.mem_of_getElem? (i := 41) rfl)) (by decide) (argsL := [(.ref t), (.ref u)]) (st := []) rfl (ct_leq l Z a0 hw G1 G3 OS hEL hSA t u kb ku cs ds X20.old V0 V1 (fun c hc => ⟨(pc_ c hc).1, bc c hc⟩) (fun c hc => ⟨(pd_ c hc).1, bd c hc⟩) lc ld) (lenOf (pd_4) rfl) rfl (by decide) (by decide) (by decide) (Nat.le_of_ble_eq_true rfl)  (pc' := 47) rfl ?_
    intro T23 _ X24 hQ25
    obtain ⟨z22, rfl, e26, yz22, nz22⟩ := hQ25
    rw [← e26] at E0 F0 C0 V0 E1 F1 C1 V1
    by_cases hcd : cs = ds
    · skip
      obtain rfl := yz22 hcd
      show Ends p e below s Z _ _ _ T23 (mkF m 47 #[.val (.ref x), .val (.ref y), .val (.ref y)] [(.int (1 : Int32))])
      refine E_ifF X24 d_seq_47 (XT.i0_eq_f (by decide)) (pc' := 50) rfl ?_
      refine E_iconst X24 (v := (1 : Int32)) d_seq_50 rfl (pc' := 51) rfl ?_
      refine E_goto X24 d_seq_51 (pc' := 55) (by decide) rfl ?_
      exact E_ireturnN X24 (t := .boolean) d_seq_55 rfl (by simp) (by decide) (by decide) (⟨_, rfl, (e26.trans (e21.trans (e18.trans (e15.trans (e12.trans (e9.trans (e6.trans e3))))))), fun _ => rfl, fun q => absurd hcd q⟩)
    · skip
      obtain rfl := nz22 hcd
      show Ends p e below s Z _ _ _ T23 (mkF m 47 #[.val (.ref x), .val (.ref y), .val (.ref y)] [(.int (0 : Int32))])
      refine E_ifT X24 d_seq_47 (XT.i0_eq_t (by decide)) (pc' := 54) (by decide) rfl ?_
      refine E_iconst X24 (v := (0 : Int32)) d_seq_54 rfl (pc' := 55) rfl ?_
      exact E_ireturnN X24 (t := .boolean) d_seq_55 rfl (by simp) (by decide) (by decide) (⟨_, rfl, (e26.trans (e21.trans (e18.trans (e15.trans (e12.trans (e9.trans (e6.trans e3))))))), fun q => absurd q hcd, fun _ => rfl⟩)
theorem own_fin {Z : State} {h0 h : Heap} {x a b : Addr} (K : Keep h0 h [x]) (S : OStr Z h a b []) (E : Exa Z h x "java/lang/String") (F : Fld Z h x "java/lang/String" "value" "[B" (.ref b)) (C : Fld Z h x "java/lang/String" "coder" "B" (.int 0)) : (none : Option Value) = none ∧ Keep h0 h [x] ∧ ∃ t, OStr Z h x t [] := by
  obtain ⟨kb, cd, N, vs, E1, F1, C1, V1, hc, r⟩ := S
  exact ⟨rfl, K, b, kb, 0, N, vs, E, F, C, V1, by exact ⟨rfl, hc.2⟩, r⟩
theorem d_init40_0 : decode jdk_42_method_149_code 0 = .ok (.aload_n 0, 1) := by decide +kernel
theorem d_init40_1 : decode jdk_42_method_149_code 1 = .ok (.invokespecial 1, 3) := by decide +kernel
theorem d_init40_4 : decode jdk_42_method_149_code 4 = .ok (.iload_n 3, 1) := by decide +kernel
theorem d_init40_5 : decode jdk_42_method_149_code 5 = .ok (.ifCond .ne 22, 3) := by decide +kernel
theorem d_init40_8 : decode jdk_42_method_149_code 8 = .ok (.aload_n 0, 1) := by decide +kernel
theorem d_init40_9 : decode jdk_42_method_149_code 9 = .ok (.ldc 7, 2) := by decide +kernel
theorem d_init40_11 : decode jdk_42_method_149_code 11 = .ok (.getfield 9, 3) := by decide +kernel
theorem d_init40_14 : decode jdk_42_method_149_code 14 = .ok (.putfield 9, 3) := by decide +kernel
theorem d_init40_17 : decode jdk_42_method_149_code 17 = .ok (.aload_n 0, 1) := by decide +kernel
theorem d_init40_18 : decode jdk_42_method_149_code 18 = .ok (.ldc 7, 2) := by decide +kernel
theorem d_init40_20 : decode jdk_42_method_149_code 20 = .ok (.getfield 15, 3) := by decide +kernel
theorem d_init40_23 : decode jdk_42_method_149_code 23 = .ok (.putfield 15, 3) := by decide +kernel
theorem d_init40_26 : decode jdk_42_method_149_code 26 = .ok (.return_, 1) := by decide +kernel
abbrev rm_init40 : Room := ({ frames := 1, cells := 4, slots := 8, locals := 12 } : Room)
def Q_init40 (Z : State) (x b : Addr) (kC : ClassId) (dv : Value) (h0 : Heap) (v : Option Value) (h : Heap) : Prop := v = none ∧ Keep h0 h [x] ∧ ∃ t, OStr Z h x t []
set_option maxRecDepth 65536 in
set_option maxHeartbeats 40000000 in
theorem ct_init40 (l : Launch) (Z : State) (a0 : Array Value) (hw : ∀ d ∈ tables_1, d.before a0 Z = true) (G1 : Int32) (G3 : Value) (OS : Sts Z G1 G3) (hEL : EW Z a0 EL) (hSA : ∀ a ∈ Bundle.stringAtoms, a.before a0 Z = true) (x b : Addr) (kC : ClassId) (dv : Value) {h0 : Heap} (O : Ext Z.heap h0) (E0 : Exa Z h0 x "java/lang/String") (F0 : Fld Z h0 x "java/lang/String" "value" "[B" .null) (C0 : Fld Z h0 x "java/lang/String" "coder" "B" (.int (0 : Int32))) (gx : Z.heap.size ≤ x) (V0 : Arv Z h0 b kC .char (0 : Int32) [] dv) : CtW l Z (⟨"java/lang/String", "<init>", "([CIILjava/lang/Void;)V"⟩ : MethodName) jdk_42_method_149_code 6 none rm_init40 #[(.ref x), (.ref b), (.int (0 : Int32)), (.int (0 : Int32)), .null] h0 (Q_init40 Z x b kC dv h0) := by
  refine CtW.of_body (Ls := #[.val (.ref x), .val (.ref b), .val (.int (0 : Int32)), .val (.int (0 : Int32)), .val .null, .unset]) (by decide +kernel) O hEL (fun m => by first | rfl | (simp [entryFrame, mkF, argsToLocals, Value.category]; done) | (rcases ref_cases (Sts.ref OS) with rfl | ⟨r, rfl⟩ <;> rfl)) ?_
  intro p e s m below meth c T0 X0 e0
  subst e0
  have K00 := Keep.refl T0.heap [x]
  refine F_aloadN X0 d_init40_0 rfl rfl (pc' := 1) rfl ?_
  refine F_initO X0 d_init40_1 (hw _ (List.mem_of_getElem? (i := 15) rfl)) (hw _ (List.mem_of_getElem? (i := 16) rfl)) (hw _ (List.mem_of_getElem? (i := 17) rfl)) rfl (by decide) (Nat.le_of_ble_eq_true rfl) (pc' := 4) rfl ?_
  intro T1 X2 e3
  have KK4 := own_keq K00 e3
  rw [← e3] at E0 F0 C0
  refine F_iloadN X2 d_init40_4 rfl (pc' := 5) rfl ?_
  refine F_ifF X2 d_init40_5 (XT.i0_ne_f (by decide)) (pc' := 8) rfl ?_
  refine F_aloadN X2 d_init40_8 rfl rfl (pc' := 9) rfl ?_
  have Sf0 := (own_safe X2.al E0 F0 (hw _ (List.mem_of_getElem? (i := 5) rfl)))
  refine F_ldcS X2 (n := 0) (z := Int32.ofNat ([] : List Int32).length) (vs := ([] : List Int32).map lo8) d_init40_9 (hw _ (List.mem_of_getElem? (i := 18) rfl)) hSA hEL (by simp [EL, consts_1]) lit_0 (by decide) rfl (by decide) (by decide) (by decide) (by decide) (pc' := 11) rfl ?_
  intro T5 la7 lb8 k9 X6 K10 E11 C12 F13 V14 hs15
  obtain ⟨Sf16, ne17, ne18⟩ := hs15 x E0.lt Sf0
  have KK19 := KK4.trans K10 (fun x q => nomatch q)
  have Exa_20 := E0.keep K10
  have Fld_21 := F0.keep K10 nin0
  have Fld_22 := C0.keep K10 nin0
  have S24 : OStr Z T5.heap la7 lb8 [] := own_lit E11 F13 C12 V14 (by decide) (by decide)
  have F25 := OStr.fval S24
  refine F_getfield X6 d_init40_11 (hw _ (List.mem_of_getElem? (i := 24) rfl)) Via.refl F25 (pc' := 14) rfl ?_
  intro T26 X27 e28
  have KK29 := own_keq KK19 e28
  rw [← e28] at Exa_20 Fld_21 Fld_22 Sf16 S24 C12 F25
  refine F_putfield X27 (ty := (.array .byte)) d_init40_14 (hw _ (List.mem_of_getElem? (i := 24) rfl)) Via.refl Fld_21 Exa_20 (Or.inr ⟨(hw _ (List.mem_of_getElem? (i := 20) rfl)), rfl, rfl⟩) (hw _ (List.mem_of_getElem? (i := 5) rfl)) (by decide) rfl rfl gx Sf16 (pc' := 17) rfl ?_
  intro T30 X31 W32
  have K33 := Keep.of_wr W32
  have KK34 := KK29.trans K33 (allS (Or.inl (by simp)) (fun x q => nomatch q))
  have Exa_35 := Exa_20.keep K33
  have Str_36 := OStr.keep S24 K33 (ninS (Ne.symm ne17) nin0) (ninS (Ne.symm ne18) nin0)
  have Fld_37 := C12.keep K33 (ninS (Ne.symm ne17) nin0)
  have Fld_38 := F25.keep K33 (ninS (Ne.symm ne17) nin0)
  have F39 := Fld_21.same W32
  have Sf40 := Safe.wr W32 Sf16 X27.ch Sf16
  have F41 := Fld_22.other W32 (Or.inr (slot_ne (Or.inr (hw _ (List.mem_of_getElem? (i := 21) rfl))) (Or.inr (hw _ (List.mem_of_getElem? (i := 20) rfl))) (by decide) (t := .byte) (t' := (.array .byte)) (by decide) (by decide)))
  refine F_aloadN X31 d_init40_17 rfl rfl (pc' := 18) rfl ?_
  refine F_ldcS X31 (n := 0) (z := Int32.ofNat ([] : List Int32).length) (vs := ([] : List Int32).map lo8) d_init40_18 (hw _ (List.mem_of_getElem? (i := 18) rfl)) hSA hEL (by simp [EL, consts_1]) lit_0 (by decide) rfl (by decide) (by decide) (by decide) (by decide) (pc' := 20) rfl ?_
  intro T42 la44 lb45 k46 X43 K47 E48 C49 F50 V51 hs52
  obtain ⟨Sf53, ne54, ne55⟩ := hs52 x Exa_35.lt Sf40
  have KK56 := KK34.trans K47 (fun x q => nomatch q)
  have Exa_57 := Exa_35.keep K47
  have Str_58 := OStr.keep Str_36 K47 nin0 nin0
  have Fld_59 := Fld_37.keep K47 nin0
  have Fld_60 := Fld_38.keep K47 nin0
  have Fld_61 := F39.keep K47 nin0
  have Fld_63 := F41.keep K47 nin0
  have S64 : OStr Z T42.heap la44 lb45 [] := own_lit E48 F50 C49 V51 (by decide) (by decide)
  refine F_getfield X43 d_init40_20 (hw _ (List.mem_of_getElem? (i := 25) rfl)) Via.refl C49 (pc' := 23) rfl ?_
  intro T65 X66 e67
  have KK68 := own_keq KK56 e67
  rw [← e67] at Exa_57 Str_58 Fld_59 Fld_60 Fld_61 Sf53 Fld_63 S64 C49
  refine F_putfield X66 (ty := .byte) d_init40_23 (hw _ (List.mem_of_getElem? (i := 25) rfl)) Via.refl Fld_63 Exa_57 (Or.inr ⟨(hw _ (List.mem_of_getElem? (i := 21) rfl)), rfl, rfl⟩) (hw _ (List.mem_of_getElem? (i := 5) rfl)) (by decide) rfl rfl gx Sf53 (pc' := 26) rfl ?_
  intro T69 X70 W71
  have K72 := Keep.of_wr W71
  have KK73 := KK68.trans K72 (allS (Or.inl (by simp)) (fun x q => nomatch q))
  have Exa_74 := Exa_57.keep K72
  have Str_75 := OStr.keep Str_58 K72 (ninS (Ne.symm ne17) nin0) (ninS (Ne.symm ne18) nin0)
  have Fld_76 := Fld_59.keep K72 (ninS (Ne.symm ne17) nin0)
  have Fld_77 := Fld_60.keep K72 (ninS (Ne.symm ne17) nin0)
  have Str_78 := OStr.keep S64 K72 (ninS (Ne.symm ne54) nin0) (ninS (Ne.symm ne55) nin0)
  have Fld_79 := C49.keep K72 (ninS (Ne.symm ne54) nin0)
  have F80 := Fld_63.same W71
  have Sf81 := Safe.wr W71 Sf53 X66.ch Sf53
  have F82 := Fld_61.other W71 (Or.inr (slot_ne (Or.inr (hw _ (List.mem_of_getElem? (i := 20) rfl))) (Or.inr (hw _ (List.mem_of_getElem? (i := 21) rfl))) (by decide) (t := (.array .byte)) (t' := .byte) (by decide) (by decide)))
  exact F_return X70 d_init40_26 rfl (by decide) (by decide) (own_fin KK73 Str_75 Exa_74 F82 F80)
theorem d_sinit0_0 : decode jdk_42_method_3_code 0 = .ok (.aload_n 0, 1) := by decide +kernel
theorem d_sinit0_1 : decode jdk_42_method_3_code 1 = .ok (.aload_n 1, 1) := by decide +kernel
theorem d_sinit0_2 : decode jdk_42_method_3_code 2 = .ok (.iconst 0, 1) := by decide +kernel
theorem d_sinit0_3 : decode jdk_42_method_3_code 3 = .ok (.aload_n 1, 1) := by decide +kernel
theorem d_sinit0_4 : decode jdk_42_method_3_code 4 = .ok (.arraylength, 1) := by decide +kernel
theorem d_sinit0_5 : decode jdk_42_method_3_code 5 = .ok (.aconst_null, 1) := by decide +kernel
theorem d_sinit0_6 : decode jdk_42_method_3_code 6 = .ok (.invokespecial 27, 3) := by decide +kernel
theorem d_sinit0_9 : decode jdk_42_method_3_code 9 = .ok (.return_, 1) := by decide +kernel
abbrev rm_sinit0 : Room := ({ frames := 2, cells := 4, slots := 8, locals := 29 } : Room)
def Q_sinit0 (Z : State) (x b : Addr) (kC : ClassId) (dv : Value) (h0 : Heap) (v : Option Value) (h : Heap) : Prop := v = none ∧ Keep h0 h [x] ∧ ∃ t, OStr Z h x t []
set_option maxRecDepth 65536 in
set_option maxHeartbeats 40000000 in
theorem ct_sinit0 (l : Launch) (Z : State) (a0 : Array Value) (hw : ∀ d ∈ tables_1, d.before a0 Z = true) (G1 : Int32) (G3 : Value) (OS : Sts Z G1 G3) (hEL : EW Z a0 EL) (hSA : ∀ a ∈ Bundle.stringAtoms, a.before a0 Z = true) (x b : Addr) (kC : ClassId) (dv : Value) {h0 : Heap} (O : Ext Z.heap h0) (E0 : Exa Z h0 x "java/lang/String") (F0 : Fld Z h0 x "java/lang/String" "value" "[B" .null) (C0 : Fld Z h0 x "java/lang/String" "coder" "B" (.int (0 : Int32))) (gx : Z.heap.size ≤ x) (V0 : Arv Z h0 b kC .char (0 : Int32) [] dv) : CtW l Z (⟨"java/lang/String", "<init>", "([C)V"⟩ : MethodName) jdk_42_method_3_code 2 none rm_sinit0 #[(.ref x), (.ref b)] h0 (Q_sinit0 Z x b kC dv h0) := by
  refine CtW.of_body (Ls := #[.val (.ref x), .val (.ref b)]) (by decide +kernel) O hEL (fun m => by first | rfl | (simp [entryFrame, mkF, argsToLocals, Value.category]; done) | (rcases ref_cases (Sts.ref OS) with rfl | ⟨r, rfl⟩ <;> rfl)) ?_
  intro p e s m below meth c T0 X0 e0
  subst e0
  refine F_aloadN X0 d_sinit0_0 rfl rfl (pc' := 1) rfl ?_
  refine F_aloadN X0 d_sinit0_1 rfl rfl (pc' := 2) rfl ?_
  refine F_iconst X0 (v := (0 : Int32)) d_sinit0_2 rfl (pc' := 3) rfl ?_
  refine F_aloadN X0 d_sinit0_3 rfl rfl (pc' := 4) rfl ?_
  refine F_arraylength X0 d_sinit0_4 V0 (pc' := 5) rfl ?_
  refine F_aconstNull X0 d_sinit0_5 (pc' := 6) rfl ?_
  refine G_special X0 (rm := rm_init40) (a := x) d_sinit0_6 rfl rfl (hw _ (List.mem_of_getElem? (i := 11) rfl)) (hw _ (List.mem_of_getElem? (i := 12) rfl)) (hw _ (List.mem_of_getElem? (i := 14) rfl)) (by decide) (hw _ (List.mem_of_getElem? (i := 6) rfl)) (argsL := [(.ref b), (.int (0 : Int32)), (.int (0 : Int32)), .null]) (st := []) rfl (ct_init40 l Z a0 hw G1 G3 OS hEL hSA x b kC dv X0.old E0 F0 C0 gx V0) (lenOf (pd_3) rfl) rfl (by decide) (by decide) (by decide) (Nat.le_of_ble_eq_true rfl)  (pc' := 9) rfl ?_
  intro T1 _ X2 hQ3 hsf4
  obtain ⟨rfl, KF, SF⟩ := hQ3
  show EndW p e below s Z _ _ _ T1 (mkF m 9 #[.val (.ref x), .val (.ref b)] [])
  exact F_return X2 d_sinit0_9 rfl (by decide) (by decide) (⟨rfl, KF, SF⟩)
def mkL (n c0 c1 c2 : Int32) : List Int32 := if n = 0 then [] else if n = 1 then [c0] else if n = 2 then [c0, c1] else [c0, c1, c2]
def SI : List Int32 := [(115 : Int32), (116 : Int32), (97 : Int32), (110 : Int32), (100 : Int32), (97 : Int32), (114 : Int32), (100 : Int32), (32 : Int32), (105 : Int32), (110 : Int32), (112 : Int32), (117 : Int32), (116 : Int32)]
theorem allN {P : Int32 → Prop} : ∀ c ∈ ([] : List Int32), P c := fun _ q => nomatch q
theorem allC {P : Int32 → Prop} {a : Int32} {r : List Int32} (h : P a) (t : ∀ c ∈ r, P c) : ∀ c ∈ a :: r, P c := fun c q => (List.mem_cons.mp q).elim (fun u => u ▸ h) (t c)
theorem c8_ok (x : Int32) : ¬ (x &&& (255 : Int32)).toUInt32.toUInt16.toUInt32.toInt32 < 0 ∧ ¬ (255 : Int32) < (x &&& (255 : Int32)).toUInt32.toUInt16.toUInt32.toInt32 := by
  have e := c_mask x 255 8 (by decide) (by decide)
  rw [i2c_mask]
  simp only [Int32.lt_iff_toInt_lt, Int32.reduceToInt]; omega
theorem c8_nar {c : Int32} (h : ¬ c < 0 ∧ ¬ (255 : Int32) < c) : nar .char c = c := o_nar h.1 fun q => h.2 (Int32.lt_trans (by decide) q)
theorem mk_dash {n c0 c1 c2 : Int32} (h : ¬ (n = 1 ∧ c0 = 45)) : ¬ mkL n c0 c1 c2 = [45] := by
  unfold mkL; split
  · simp
  · split
    · intro q; exact h ⟨by assumption, by simpa using q⟩
    · split <;> simp
theorem d_make_0 : decode method_3_code 0 = .ok (.iload_n 0, 1) := by decide +kernel
theorem d_make_1 : decode method_3_code 1 = .ok (.ifCond .ne 14, 3) := by decide +kernel
theorem d_make_4 : decode method_3_code 4 = .ok (.new 22, 3) := by decide +kernel
theorem d_make_7 : decode method_3_code 7 = .ok (.dup, 1) := by decide +kernel
theorem d_make_8 : decode method_3_code 8 = .ok (.iconst 0, 1) := by decide +kernel
theorem d_make_9 : decode method_3_code 9 = .ok (.newarray .char, 2) := by decide +kernel
theorem d_make_11 : decode method_3_code 11 = .ok (.invokespecial 27, 3) := by decide +kernel
theorem d_make_14 : decode method_3_code 14 = .ok (.areturn, 1) := by decide +kernel
theorem d_make_15 : decode method_3_code 15 = .ok (.iload_n 0, 1) := by decide +kernel
theorem d_make_16 : decode method_3_code 16 = .ok (.iconst 1, 1) := by decide +kernel
theorem d_make_17 : decode method_3_code 17 = .ok (.if_icmp .ne 18, 3) := by decide +kernel
theorem d_make_20 : decode method_3_code 20 = .ok (.new 22, 3) := by decide +kernel
theorem d_make_23 : decode method_3_code 23 = .ok (.dup, 1) := by decide +kernel
theorem d_make_24 : decode method_3_code 24 = .ok (.iconst 1, 1) := by decide +kernel
theorem d_make_25 : decode method_3_code 25 = .ok (.newarray .char, 2) := by decide +kernel
theorem d_make_27 : decode method_3_code 27 = .ok (.dup, 1) := by decide +kernel
theorem d_make_28 : decode method_3_code 28 = .ok (.iconst 0, 1) := by decide +kernel
theorem d_make_29 : decode method_3_code 29 = .ok (.iload_n 1, 1) := by decide +kernel
theorem d_make_30 : decode method_3_code 30 = .ok (.castore, 1) := by decide +kernel
theorem d_make_31 : decode method_3_code 31 = .ok (.invokespecial 27, 3) := by decide +kernel
theorem d_make_34 : decode method_3_code 34 = .ok (.areturn, 1) := by decide +kernel
theorem d_make_35 : decode method_3_code 35 = .ok (.iload_n 0, 1) := by decide +kernel
theorem d_make_36 : decode method_3_code 36 = .ok (.iconst 2, 1) := by decide +kernel
theorem d_make_37 : decode method_3_code 37 = .ok (.if_icmp .ne 22, 3) := by decide +kernel
theorem d_make_40 : decode method_3_code 40 = .ok (.new 22, 3) := by decide +kernel
theorem d_make_43 : decode method_3_code 43 = .ok (.dup, 1) := by decide +kernel
theorem d_make_44 : decode method_3_code 44 = .ok (.iconst 2, 1) := by decide +kernel
theorem d_make_45 : decode method_3_code 45 = .ok (.newarray .char, 2) := by decide +kernel
theorem d_make_47 : decode method_3_code 47 = .ok (.dup, 1) := by decide +kernel
theorem d_make_48 : decode method_3_code 48 = .ok (.iconst 0, 1) := by decide +kernel
theorem d_make_49 : decode method_3_code 49 = .ok (.iload_n 1, 1) := by decide +kernel
theorem d_make_50 : decode method_3_code 50 = .ok (.castore, 1) := by decide +kernel
theorem d_make_51 : decode method_3_code 51 = .ok (.dup, 1) := by decide +kernel
theorem d_make_52 : decode method_3_code 52 = .ok (.iconst 1, 1) := by decide +kernel
theorem d_make_53 : decode method_3_code 53 = .ok (.iload_n 2, 1) := by decide +kernel
theorem d_make_54 : decode method_3_code 54 = .ok (.castore, 1) := by decide +kernel
theorem d_make_55 : decode method_3_code 55 = .ok (.invokespecial 27, 3) := by decide +kernel
theorem d_make_58 : decode method_3_code 58 = .ok (.areturn, 1) := by decide +kernel
theorem d_make_59 : decode method_3_code 59 = .ok (.new 22, 3) := by decide +kernel
theorem d_make_62 : decode method_3_code 62 = .ok (.dup, 1) := by decide +kernel
theorem d_make_63 : decode method_3_code 63 = .ok (.iconst 3, 1) := by decide +kernel
theorem d_make_64 : decode method_3_code 64 = .ok (.newarray .char, 2) := by decide +kernel
theorem d_make_66 : decode method_3_code 66 = .ok (.dup, 1) := by decide +kernel
theorem d_make_67 : decode method_3_code 67 = .ok (.iconst 0, 1) := by decide +kernel
theorem d_make_68 : decode method_3_code 68 = .ok (.iload_n 1, 1) := by decide +kernel
theorem d_make_69 : decode method_3_code 69 = .ok (.castore, 1) := by decide +kernel
theorem d_make_70 : decode method_3_code 70 = .ok (.dup, 1) := by decide +kernel
theorem d_make_71 : decode method_3_code 71 = .ok (.iconst 1, 1) := by decide +kernel
theorem d_make_72 : decode method_3_code 72 = .ok (.iload_n 2, 1) := by decide +kernel
theorem d_make_73 : decode method_3_code 73 = .ok (.castore, 1) := by decide +kernel
theorem d_make_74 : decode method_3_code 74 = .ok (.dup, 1) := by decide +kernel
theorem d_make_75 : decode method_3_code 75 = .ok (.iconst 2, 1) := by decide +kernel
theorem d_make_76 : decode method_3_code 76 = .ok (.iload_n 3, 1) := by decide +kernel
theorem d_make_77 : decode method_3_code 77 = .ok (.castore, 1) := by decide +kernel
theorem d_make_78 : decode method_3_code 78 = .ok (.invokespecial 27, 3) := by decide +kernel
theorem d_make_81 : decode method_3_code 81 = .ok (.areturn, 1) := by decide +kernel
abbrev rm_make : Room := ({ frames := 4, cells := 6, slots := 12, locals := 66 } : Room)
def Q_make (Z : State) (n c0 c1 c2 : Int32) (h0 : Heap) (v : Option Value) (h : Heap) : Prop := ∃ x t, v = some (.ref x) ∧ Keep h0 h [] ∧ h0.size ≤ x ∧ OStr Z h x t (mkL n c0 c1 c2)
set_option maxRecDepth 65536 in
set_option maxHeartbeats 40000000 in
theorem ct_make (l : Launch) (Z : State) (a0 : Array Value) (hw : ∀ d ∈ tables_1, d.before a0 Z = true) (G1 : Int32) (G3 : Value) (OS : Sts Z G1 G3) (hEL : EW Z a0 EL) (hSA : ∀ a ∈ Bundle.stringAtoms, a.before a0 Z = true) (n c0 c1 c2 : Int32) {h0 : Heap} (O : Ext Z.heap h0) (bc0 : ¬ c0 < 0 ∧ ¬ (255 : Int32) < c0) (bc1 : ¬ c1 < 0 ∧ ¬ (255 : Int32) < c1) (bc2 : ¬ c2 < 0 ∧ ¬ (255 : Int32) < c2) : CtW l Z (⟨"com/example/sakimono/sakimono/StreamsPlaceNamePinLaw", "make", "(ICCC)Ljava/lang/String;"⟩ : MethodName) method_3_code 4 (some (.object "java/lang/String")) rm_make #[(.int n), (.int c0), (.int c1), (.int c2)] h0 (Q_make Z n c0 c1 c2 h0) := by
  refine CtW.of_body (Ls := #[.val (.int n), .val (.int c0), .val (.int c1), .val (.int c2)]) (by decide +kernel) O hEL (fun m => by first | rfl | (simp [entryFrame, mkF, argsToLocals, Value.category]; done) | (rcases ref_cases (Sts.ref OS) with rfl | ⟨r, rfl⟩ <;> rfl)) ?_
  intro p e s m below meth c T0 X0 e0
  subst e0
  have K00 := Keep.refl T0.heap []
  refine F_iloadN X0 d_make_0 rfl (pc' := 1) rfl ?_
  by_cases h1 : n = 0
  · skip
    refine F_ifF X0 d_make_1 (XT.i0_ne_f h1) (pc' := 4) rfl ?_
    refine F_new X0 d_make_4 (hw _ (List.mem_of_getElem? (i := 4) rfl)) (hw _ (List.mem_of_getElem? (i := 5) rfl)) (hw _ (List.mem_of_getElem? (i := 6) rfl)) (by decide) (by decide) (pc' := 7) rfl ?_
    intro T1 b3 X2 hb4 K5 E6 D7
    have sz8 : T0.heap.size ≤ b3 := Nat.le_trans K00.1 (Nat.le_of_eq hb4.symm)
    have KK9 := K00.trans K5 (fun x q => nomatch q)
    have g10 : Z.heap.size ≤ b3 := Nat.le_trans X0.le (Nat.le_of_eq hb4.symm)
    have F11 : Fld Z T1.heap b3 "java/lang/String" "value" "[B" .null := D7 (Or.inr (hw _ (List.mem_of_getElem? (i := 20) rfl))) (ty := (.array .byte)) (by decide)
    have F12 : Fld Z T1.heap b3 "java/lang/String" "coder" "B" (.int (0 : Int32)) := D7 (Or.inr (hw _ (List.mem_of_getElem? (i := 21) rfl))) (ty := .byte) (by decide)
    refine F_dup X2 d_make_7 rfl (pc' := 8) rfl ?_
    refine F_iconst X2 (v := (0 : Int32)) d_make_8 rfl (pc' := 9) rfl ?_
    refine F_newarray X2 0 d_make_9 (hw _ (List.mem_of_getElem? (i := 7) rfl)) (by decide) (by decide) (by decide) (by decide) (by decide) (pc' := 11) rfl ?_
    intro T13 b15 k19 X14 hb16 K17 V18
    have sz20 : T0.heap.size ≤ b15 := Nat.le_trans KK9.1 (Nat.le_of_eq hb16.symm)
    have ne21 : b3 ≠ b15 := Nat.ne_of_lt (Nat.lt_of_lt_of_eq E6.lt hb16.symm)
    have KK22 := KK9.trans K17 (fun x q => nomatch q)
    have Exa_23 := E6.keep K17
    have Fld_24 := F11.keep K17 nin0
    have Fld_25 := F12.keep K17 nin0
    have g26 : Z.heap.size ≤ b15 := Nat.le_trans X2.le (Nat.le_of_eq hb16.symm)
    have V27 : Arv Z T13.heap b15 k19 .char (0 : Int32) [] (.int (0 : Int32)) := V18.pad (pad_rep [] (.int (0 : Int32)) 0)
    refine G_special X14 (rm := rm_sinit0) (a := b3) d_make_11 rfl rfl (hw _ (List.mem_of_getElem? (i := 8) rfl)) (hw _ (List.mem_of_getElem? (i := 9) rfl)) (hw _ (List.mem_of_getElem? (i := 10) rfl)) (by decide) (hw _ (List.mem_of_getElem? (i := 6) rfl)) (argsL := [(.ref b15)]) (st := [(.ref b3)]) rfl (ct_sinit0 l Z a0 hw G1 G3 OS hEL hSA b3 b15 k19 (.int (0 : Int32)) X14.old Exa_23 Fld_24 Fld_25 g10 V27) (lenOf (pd_5) rfl) rfl (by decide) (by decide) (by decide) (Nat.le_of_ble_eq_true rfl)  (pc' := 14) rfl ?_
    intro T28 _ X29 hQ30 hsf31
    obtain ⟨rfl, K32, t33, S34⟩ := hQ30
    have KK35 := KK22.trans K32 (allS (Or.inr sz8) (fun x q => nomatch q))
    have Arv_36 := V27.keep K32 (ninS (Ne.symm ne21) nin0)
    show EndW p e below s Z _ _ _ T28 (mkF m 14 #[.val (.int n), .val (.int c0), .val (.int c1), .val (.int c2)] [(.ref b3)])
    exact F_areturn X29 (t := (.object "java/lang/String")) d_make_14 rfl rfl rfl rfl (by decide) (by decide) (⟨b3, t33, rfl, KK35, sz8, by rw [mkL, if_pos h1]; exact S34⟩)
  · skip
    refine F_ifT X0 d_make_1 (XT.i0_ne_t h1) (pc' := 15) (by decide) rfl ?_
    refine F_iloadN X0 d_make_15 rfl (pc' := 16) rfl ?_
    refine F_iconst X0 (v := (1 : Int32)) d_make_16 rfl (pc' := 17) rfl ?_
    by_cases h17 : n = (1 : Int32)
    · skip
      refine F_icF X0 d_make_17 (XT.ii_ne_f h17) (pc' := 20) rfl ?_
      refine F_new X0 d_make_20 (hw _ (List.mem_of_getElem? (i := 4) rfl)) (hw _ (List.mem_of_getElem? (i := 5) rfl)) (hw _ (List.mem_of_getElem? (i := 6) rfl)) (by decide) (by decide) (pc' := 23) rfl ?_
      intro T37 b39 X38 hb40 K41 E42 D43
      have sz44 : T0.heap.size ≤ b39 := Nat.le_trans K00.1 (Nat.le_of_eq hb40.symm)
      have KK45 := K00.trans K41 (fun x q => nomatch q)
      have g46 : Z.heap.size ≤ b39 := Nat.le_trans X0.le (Nat.le_of_eq hb40.symm)
      have F47 : Fld Z T37.heap b39 "java/lang/String" "value" "[B" .null := D43 (Or.inr (hw _ (List.mem_of_getElem? (i := 20) rfl))) (ty := (.array .byte)) (by decide)
      have F48 : Fld Z T37.heap b39 "java/lang/String" "coder" "B" (.int (0 : Int32)) := D43 (Or.inr (hw _ (List.mem_of_getElem? (i := 21) rfl))) (ty := .byte) (by decide)
      refine F_dup X38 d_make_23 rfl (pc' := 24) rfl ?_
      refine F_iconst X38 (v := (1 : Int32)) d_make_24 rfl (pc' := 25) rfl ?_
      refine F_newarray X38 1 d_make_25 (hw _ (List.mem_of_getElem? (i := 7) rfl)) (by decide) (by decide) (by decide) (by decide) (by decide) (pc' := 27) rfl ?_
      intro T49 b51 k55 X50 hb52 K53 V54
      have sz56 : T0.heap.size ≤ b51 := Nat.le_trans KK45.1 (Nat.le_of_eq hb52.symm)
      have ne57 : b39 ≠ b51 := Nat.ne_of_lt (Nat.lt_of_lt_of_eq E42.lt hb52.symm)
      have KK58 := KK45.trans K53 (fun x q => nomatch q)
      have Exa_59 := E42.keep K53
      have Fld_60 := F47.keep K53 nin0
      have Fld_61 := F48.keep K53 nin0
      have g62 : Z.heap.size ≤ b51 := Nat.le_trans X38.le (Nat.le_of_eq hb52.symm)
      have V63 : Arv Z T49.heap b51 k55 .char (1 : Int32) [(.int (0 : Int32))] (.int (0 : Int32)) := V54.pad (pad_rep [] (.int (0 : Int32)) 1)
      refine F_dup X50 d_make_27 rfl (pc' := 28) rfl ?_
      refine F_iconst X50 (v := (0 : Int32)) d_make_28 rfl (pc' := 29) rfl ?_
      refine F_iloadN X50 d_make_29 rfl (pc' := 30) rfl ?_
      refine F_castore X50 0 (y := c0) d_make_30 (c8_nar bc0) V63 ⟨by decide, by decide⟩ rfl (Nat.le_of_ble_eq_true rfl) g62 (pc' := 31) rfl ?_
      intro T64 X65 K66 V67
      have KK68 := KK58.trans K66 (allS (Or.inr sz56) (fun x q => nomatch q))
      have Exa_69 := Exa_59.keep K66
      have Fld_70 := Fld_60.keep K66 (ninS ne57 nin0)
      have Fld_71 := Fld_61.keep K66 (ninS ne57 nin0)
      have V72 : Arv Z T64.heap b51 k55 .char (1 : Int32) [(.int c0)] (.int (0 : Int32)) := V67
      refine F_special X65 (rm := rm_sinit) (a := b39) d_make_31 rfl rfl (hw _ (List.mem_of_getElem? (i := 8) rfl)) (hw _ (List.mem_of_getElem? (i := 9) rfl)) (hw _ (List.mem_of_getElem? (i := 10) rfl)) (by decide) (hw _ (List.mem_of_getElem? (i := 6) rfl)) (argsL := [(.ref b51)]) (st := [(.ref b39)]) rfl (ct_sinit l Z a0 hw G1 G3 OS hEL hSA b39 b51 k55 [c0] (.int (0 : Int32)) .null (.int (0 : Int32)) X65.old (Nat.le_of_ble_eq_true rfl) (Nat.le_of_ble_eq_true rfl) (allC bc0 allN) Exa_69 Fld_70 Fld_71 g46 V72) (lenOf (pd_5) rfl) rfl (by decide) (by decide) (by decide) (Nat.le_of_ble_eq_true rfl) [b39] (fun _ _ q => q.2.1) (sfS (own_safe X65.al Exa_69 Fld_70 (hw _ (List.mem_of_getElem? (i := 5) rfl))) (sf0))  (pc' := 34) rfl ?_
      intro T73 _ X74 hQ75
      obtain ⟨rfl, K76, t77, sz78, S79⟩ := hQ75
      have ne80 : b39 ≠ t77 := Nat.ne_of_lt (Nat.lt_of_lt_of_le Exa_69.lt sz78)
      have ne81 : b51 ≠ t77 := Nat.ne_of_lt (Nat.lt_of_lt_of_le V72.lt sz78)
      have KK82 := KK68.trans K76 (allS (Or.inr sz44) (fun x q => nomatch q))
      have Arv_83 := V72.keep K76 (ninS (Ne.symm ne57) nin0)
      have sz84 : T0.heap.size ≤ t77 := Nat.le_trans KK68.1 sz78
      show EndW p e below s Z _ _ _ T73 (mkF m 34 #[.val (.int n), .val (.int c0), .val (.int c1), .val (.int c2)] [(.ref b39)])
      exact F_areturn X74 (t := (.object "java/lang/String")) d_make_34 rfl rfl rfl rfl (by decide) (by decide) (⟨b39, t77, rfl, KK82, sz44, by rw [mkL, if_neg h1, if_pos h17]; exact S79⟩)
    · skip
      refine F_icT X0 d_make_17 (XT.ii_ne_t h17) (pc' := 35) (by decide) rfl ?_
      refine F_iloadN X0 d_make_35 rfl (pc' := 36) rfl ?_
      refine F_iconst X0 (v := (2 : Int32)) d_make_36 rfl (pc' := 37) rfl ?_
      by_cases h37 : n = (2 : Int32)
      · skip
        refine F_icF X0 d_make_37 (XT.ii_ne_f h37) (pc' := 40) rfl ?_
        refine F_new X0 d_make_40 (hw _ (List.mem_of_getElem? (i := 4) rfl)) (hw _ (List.mem_of_getElem? (i := 5) rfl)) (hw _ (List.mem_of_getElem? (i := 6) rfl)) (by decide) (by decide) (pc' := 43) rfl ?_
        intro T85 b87 X86 hb88 K89 E90 D91
        have sz92 : T0.heap.size ≤ b87 := Nat.le_trans K00.1 (Nat.le_of_eq hb88.symm)
        have KK93 := K00.trans K89 (fun x q => nomatch q)
        have g94 : Z.heap.size ≤ b87 := Nat.le_trans X0.le (Nat.le_of_eq hb88.symm)
        have F95 : Fld Z T85.heap b87 "java/lang/String" "value" "[B" .null := D91 (Or.inr (hw _ (List.mem_of_getElem? (i := 20) rfl))) (ty := (.array .byte)) (by decide)
        have F96 : Fld Z T85.heap b87 "java/lang/String" "coder" "B" (.int (0 : Int32)) := D91 (Or.inr (hw _ (List.mem_of_getElem? (i := 21) rfl))) (ty := .byte) (by decide)
        refine F_dup X86 d_make_43 rfl (pc' := 44) rfl ?_
        refine F_iconst X86 (v := (2 : Int32)) d_make_44 rfl (pc' := 45) rfl ?_
        refine F_newarray X86 2 d_make_45 (hw _ (List.mem_of_getElem? (i := 7) rfl)) (by decide) (by decide) (by decide) (by decide) (by decide) (pc' := 47) rfl ?_
        intro T97 b99 k103 X98 hb100 K101 V102
        have sz104 : T0.heap.size ≤ b99 := Nat.le_trans KK93.1 (Nat.le_of_eq hb100.symm)
        have ne105 : b87 ≠ b99 := Nat.ne_of_lt (Nat.lt_of_lt_of_eq E90.lt hb100.symm)
        have KK106 := KK93.trans K101 (fun x q => nomatch q)
        have Exa_107 := E90.keep K101
        have Fld_108 := F95.keep K101 nin0
        have Fld_109 := F96.keep K101 nin0
        have g110 : Z.heap.size ≤ b99 := Nat.le_trans X86.le (Nat.le_of_eq hb100.symm)
        have V111 : Arv Z T97.heap b99 k103 .char (2 : Int32) [(.int (0 : Int32)), (.int (0 : Int32))] (.int (0 : Int32)) := V102.pad (pad_rep [] (.int (0 : Int32)) 2)
        refine F_dup X98 d_make_47 rfl (pc' := 48) rfl ?_
        refine F_iconst X98 (v := (0 : Int32)) d_make_48 rfl (pc' := 49) rfl ?_
        refine F_iloadN X98 d_make_49 rfl (pc' := 50) rfl ?_
        refine F_castore X98 0 (y := c0) d_make_50 (c8_nar bc0) V111 ⟨by decide, by decide⟩ rfl (Nat.le_of_ble_eq_true rfl) g110 (pc' := 51) rfl ?_
        intro T112 X113 K114 V115
        have KK116 := KK106.trans K114 (allS (Or.inr sz104) (fun x q => nomatch q))
        have Exa_117 := Exa_107.keep K114
        have Fld_118 := Fld_108.keep K114 (ninS ne105 nin0)
        have Fld_119 := Fld_109.keep K114 (ninS ne105 nin0)
        have V120 : Arv Z T112.heap b99 k103 .char (2 : Int32) [(.int c0), (.int (0 : Int32))] (.int (0 : Int32)) := V115
        refine F_dup X113 d_make_51 rfl (pc' := 52) rfl ?_
        refine F_iconst X113 (v := (1 : Int32)) d_make_52 rfl (pc' := 53) rfl ?_
        refine F_iloadN X113 d_make_53 rfl (pc' := 54) rfl ?_
        refine F_castore X113 1 (y := c1) d_make_54 (c8_nar bc1) V120 ⟨by decide, by decide⟩ rfl (Nat.le_of_ble_eq_true rfl) g110 (pc' := 55) rfl ?_
        intro T121 X122 K123 V124
        have KK125 := KK116.trans K123 (allS (Or.inr sz104) (fun x q => nomatch q))
        have Exa_126 := Exa_117.keep K123
        have Fld_127 := Fld_118.keep K123 (ninS ne105 nin0)
        have Fld_128 := Fld_119.keep K123 (ninS ne105 nin0)
        have V129 : Arv Z T121.heap b99 k103 .char (2 : Int32) [(.int c0), (.int c1)] (.int (0 : Int32)) := V124
        refine F_special X122 (rm := rm_sinit) (a := b87) d_make_55 rfl rfl (hw _ (List.mem_of_getElem? (i := 8) rfl)) (hw _ (List.mem_of_getElem? (i := 9) rfl)) (hw _ (List.mem_of_getElem? (i := 10) rfl)) (by decide) (hw _ (List.mem_of_getElem? (i := 6) rfl)) (argsL := [(.ref b99)]) (st := [(.ref b87)]) rfl (ct_sinit l Z a0 hw G1 G3 OS hEL hSA b87 b99 k103 [c0, c1] (.int (0 : Int32)) .null (.int (0 : Int32)) X122.old (Nat.le_of_ble_eq_true rfl) (Nat.le_of_ble_eq_true rfl) (allC bc0 (allC bc1 allN)) Exa_126 Fld_127 Fld_128 g94 V129) (lenOf (pd_5) rfl) rfl (by decide) (by decide) (by decide) (Nat.le_of_ble_eq_true rfl) [b87] (fun _ _ q => q.2.1) (sfS (own_safe X122.al Exa_126 Fld_127 (hw _ (List.mem_of_getElem? (i := 5) rfl))) (sf0))  (pc' := 58) rfl ?_
        intro T130 _ X131 hQ132
        obtain ⟨rfl, K133, t134, sz135, S136⟩ := hQ132
        have ne137 : b87 ≠ t134 := Nat.ne_of_lt (Nat.lt_of_lt_of_le Exa_126.lt sz135)
        have ne138 : b99 ≠ t134 := Nat.ne_of_lt (Nat.lt_of_lt_of_le V129.lt sz135)
        have KK139 := KK125.trans K133 (allS (Or.inr sz92) (fun x q => nomatch q))
        have Arv_140 := V129.keep K133 (ninS (Ne.symm ne105) nin0)
        have sz141 : T0.heap.size ≤ t134 := Nat.le_trans KK125.1 sz135
        show EndW p e below s Z _ _ _ T130 (mkF m 58 #[.val (.int n), .val (.int c0), .val (.int c1), .val (.int c2)] [(.ref b87)])
        exact F_areturn X131 (t := (.object "java/lang/String")) d_make_58 rfl rfl rfl rfl (by decide) (by decide) (⟨b87, t134, rfl, KK139, sz92, by rw [mkL, if_neg h1, if_neg h17, if_pos h37]; exact S136⟩)
      · skip
        refine F_icT X0 d_make_37 (XT.ii_ne_t h37) (pc' := 59) (by decide) rfl ?_
        refine F_new X0 d_make_59 (hw _ (List.mem_of_getElem? (i := 4) rfl)) (hw _ (List.mem_of_getElem? (i := 5) rfl)) (hw _ (List.mem_of_getElem? (i := 6) rfl)) (by decide) (by decide) (pc' := 62) rfl ?_
        intro T142 b144 X143 hb145 K146 E147 D148
        have sz149 : T0.heap.size ≤ b144 := Nat.le_trans K00.1 (Nat.le_of_eq hb145.symm)
        have KK150 := K00.trans K146 (fun x q => nomatch q)
        have g151 : Z.heap.size ≤ b144 := Nat.le_trans X0.le (Nat.le_of_eq hb145.symm)
        have F152 : Fld Z T142.heap b144 "java/lang/String" "value" "[B" .null := D148 (Or.inr (hw _ (List.mem_of_getElem? (i := 20) rfl))) (ty := (.array .byte)) (by decide)
        have F153 : Fld Z T142.heap b144 "java/lang/String" "coder" "B" (.int (0 : Int32)) := D148 (Or.inr (hw _ (List.mem_of_getElem? (i := 21) rfl))) (ty := .byte) (by decide)
        refine F_dup X143 d_make_62 rfl (pc' := 63) rfl ?_
        refine F_iconst X143 (v := (3 : Int32)) d_make_63 rfl (pc' := 64) rfl ?_
        refine F_newarray X143 3 d_make_64 (hw _ (List.mem_of_getElem? (i := 7) rfl)) (by decide) (by decide) (by decide) (by decide) (by decide) (pc' := 66) rfl ?_
        intro T154 b156 k160 X155 hb157 K158 V159
        have sz161 : T0.heap.size ≤ b156 := Nat.le_trans KK150.1 (Nat.le_of_eq hb157.symm)
        have ne162 : b144 ≠ b156 := Nat.ne_of_lt (Nat.lt_of_lt_of_eq E147.lt hb157.symm)
        have KK163 := KK150.trans K158 (fun x q => nomatch q)
        have Exa_164 := E147.keep K158
        have Fld_165 := F152.keep K158 nin0
        have Fld_166 := F153.keep K158 nin0
        have g167 : Z.heap.size ≤ b156 := Nat.le_trans X143.le (Nat.le_of_eq hb157.symm)
        have V168 : Arv Z T154.heap b156 k160 .char (3 : Int32) [(.int (0 : Int32)), (.int (0 : Int32)), (.int (0 : Int32))] (.int (0 : Int32)) := V159.pad (pad_rep [] (.int (0 : Int32)) 3)
        refine F_dup X155 d_make_66 rfl (pc' := 67) rfl ?_
        refine F_iconst X155 (v := (0 : Int32)) d_make_67 rfl (pc' := 68) rfl ?_
        refine F_iloadN X155 d_make_68 rfl (pc' := 69) rfl ?_
        refine F_castore X155 0 (y := c0) d_make_69 (c8_nar bc0) V168 ⟨by decide, by decide⟩ rfl (Nat.le_of_ble_eq_true rfl) g167 (pc' := 70) rfl ?_
        intro T169 X170 K171 V172
        have KK173 := KK163.trans K171 (allS (Or.inr sz161) (fun x q => nomatch q))
        have Exa_174 := Exa_164.keep K171
        have Fld_175 := Fld_165.keep K171 (ninS ne162 nin0)
        have Fld_176 := Fld_166.keep K171 (ninS ne162 nin0)
        have V177 : Arv Z T169.heap b156 k160 .char (3 : Int32) [(.int c0), (.int (0 : Int32)), (.int (0 : Int32))] (.int (0 : Int32)) := V172
        refine F_dup X170 d_make_70 rfl (pc' := 71) rfl ?_
        refine F_iconst X170 (v := (1 : Int32)) d_make_71 rfl (pc' := 72) rfl ?_
        refine F_iloadN X170 d_make_72 rfl (pc' := 73) rfl ?_
        refine F_castore X170 1 (y := c1) d_make_73 (c8_nar bc1) V177 ⟨by decide, by decide⟩ rfl (Nat.le_of_ble_eq_true rfl) g167 (pc' := 74) rfl ?_
        intro T178 X179 K180 V181
        have KK182 := KK173.trans K180 (allS (Or.inr sz161) (fun x q => nomatch q))
        have Exa_183 := Exa_174.keep K180
        have Fld_184 := Fld_175.keep K180 (ninS ne162 nin0)
        have Fld_185 := Fld_176.keep K180 (ninS ne162 nin0)
        have V186 : Arv Z T178.heap b156 k160 .char (3 : Int32) [(.int c0), (.int c1), (.int (0 : Int32))] (.int (0 : Int32)) := V181
        refine F_dup X179 d_make_74 rfl (pc' := 75) rfl ?_
        refine F_iconst X179 (v := (2 : Int32)) d_make_75 rfl (pc' := 76) rfl ?_
        refine F_iloadN X179 d_make_76 rfl (pc' := 77) rfl ?_
        refine F_castore X179 2 (y := c2) d_make_77 (c8_nar bc2) V186 ⟨by decide, by decide⟩ rfl (Nat.le_of_ble_eq_true rfl) g167 (pc' := 78) rfl ?_
        intro T187 X188 K189 V190
        have KK191 := KK182.trans K189 (allS (Or.inr sz161) (fun x q => nomatch q))
        have Exa_192 := Exa_183.keep K189
        have Fld_193 := Fld_184.keep K189 (ninS ne162 nin0)
        have Fld_194 := Fld_185.keep K189 (ninS ne162 nin0)
        have V195 : Arv Z T187.heap b156 k160 .char (3 : Int32) [(.int c0), (.int c1), (.int c2)] (.int (0 : Int32)) := V190
        refine F_special X188 (rm := rm_sinit) (a := b144) d_make_78 rfl rfl (hw _ (List.mem_of_getElem? (i := 8) rfl)) (hw _ (List.mem_of_getElem? (i := 9) rfl)) (hw _ (List.mem_of_getElem? (i := 10) rfl)) (by decide) (hw _ (List.mem_of_getElem? (i := 6) rfl)) (argsL := [(.ref b156)]) (st := [(.ref b144)]) rfl (ct_sinit l Z a0 hw G1 G3 OS hEL hSA b144 b156 k160 [c0, c1, c2] (.int (0 : Int32)) .null (.int (0 : Int32)) X188.old (Nat.le_of_ble_eq_true rfl) (Nat.le_of_ble_eq_true rfl) (allC bc0 (allC bc1 (allC bc2 allN))) Exa_192 Fld_193 Fld_194 g151 V195) (lenOf (pd_5) rfl) rfl (by decide) (by decide) (by decide) (Nat.le_of_ble_eq_true rfl) [b144] (fun _ _ q => q.2.1) (sfS (own_safe X188.al Exa_192 Fld_193 (hw _ (List.mem_of_getElem? (i := 5) rfl))) (sf0))  (pc' := 81) rfl ?_
        intro T196 _ X197 hQ198
        obtain ⟨rfl, K199, t200, sz201, S202⟩ := hQ198
        have ne203 : b144 ≠ t200 := Nat.ne_of_lt (Nat.lt_of_lt_of_le Exa_192.lt sz201)
        have ne204 : b156 ≠ t200 := Nat.ne_of_lt (Nat.lt_of_lt_of_le V195.lt sz201)
        have KK205 := KK191.trans K199 (allS (Or.inr sz149) (fun x q => nomatch q))
        have Arv_206 := V195.keep K199 (ninS (Ne.symm ne162) nin0)
        have sz207 : T0.heap.size ≤ t200 := Nat.le_trans KK191.1 sz201
        show EndW p e below s Z _ _ _ T196 (mkF m 81 #[.val (.int n), .val (.int c0), .val (.int c1), .val (.int c2)] [(.ref b144)])
        exact F_areturn X197 (t := (.object "java/lang/String")) d_make_81 rfl rfl rfl rfl (by decide) (by decide) (⟨b144, t200, rfl, KK205, sz149, by rw [mkL, if_neg h1, if_neg h17, if_neg h37]; exact S202⟩)
theorem d_place_0 : decode prog_53_method_5_code 0 = .ok (.aload_n 0, 1) := by decide +kernel
theorem d_place_1 : decode prog_53_method_5_code 1 = .ok (.ldc 80, 2) := by decide +kernel
theorem d_place_3 : decode prog_53_method_5_code 3 = .ok (.invokevirtual 82, 3) := by decide +kernel
theorem d_place_6 : decode prog_53_method_5_code 6 = .ok (.ifCond .eq 8, 3) := by decide +kernel
theorem d_place_9 : decode prog_53_method_5_code 9 = .ok (.ldc 111, 2) := by decide +kernel
theorem d_place_11 : decode prog_53_method_5_code 11 = .ok (.goto 4, 3) := by decide +kernel
theorem d_place_14 : decode prog_53_method_5_code 14 = .ok (.aload_n 0, 1) := by decide +kernel
theorem d_place_15 : decode prog_53_method_5_code 15 = .ok (.areturn, 1) := by decide +kernel
abbrev rm_place : Room := ({ frames := 2, cells := 4, slots := 68, locals := 28 } : Room)
def Q_place (Z : State) (x t : Addr) (cs : List Int32) (h0 : Heap) (v : Option Value) (h : Heap) : Prop := ∃ r t2, v = some (.ref r) ∧ Keep h0 h [] ∧ OStr Z h r t2 (if cs = [45] then SI else cs)
set_option maxRecDepth 65536 in
set_option maxHeartbeats 40000000 in
theorem ct_place (l : Launch) (Z : State) (a0 : Array Value) (hw : ∀ d ∈ tables_1, d.before a0 Z = true) (G1 : Int32) (G3 : Value) (OS : Sts Z G1 G3) (hEL : EW Z a0 EL) (hSA : ∀ a ∈ Bundle.stringAtoms, a.before a0 Z = true) (x t : Addr) (cs : List Int32) {h0 : Heap} (O : Ext Z.heap h0) (S0 : OStr Z h0 x t cs) : CtW l Z (⟨"com/example/sakimono/sakimono/Streams", "placeName", "(Ljava/lang/String;)Ljava/lang/String;"⟩ : MethodName) prog_53_method_5_code 1 (some (.object "java/lang/String")) rm_place #[(.ref x)] h0 (Q_place Z x t cs h0) := by
  refine CtW.of_body (Ls := #[.val (.ref x)]) (by decide +kernel) O hEL (fun m => by first | rfl | (simp [entryFrame, mkF, argsToLocals, Value.category]; done) | (rcases ref_cases (Sts.ref OS) with rfl | ⟨r, rfl⟩ <;> rfl)) ?_
  intro p e s m below meth c T0 X0 e0
  subst e0
  have K00 := Keep.refl T0.heap []
  refine F_aloadN X0 d_place_0 rfl rfl (pc' := 1) rfl ?_
  refine F_ldcS X0 (n := 4) (z := Int32.ofNat ([(45 : Int32)] : List Int32).length) (vs := ([(45 : Int32)] : List Int32).map lo8) d_place_1 (hw _ (List.mem_of_getElem? (i := 30) rfl)) hSA hEL (by simp [EL, consts_1]) lit_1 (by decide) rfl (by decide) (by decide) (by decide) (by decide) (pc' := 3) rfl ?_
  intro T1 la3 lb4 k5 X2 K6 E7 C8 F9 V10 hs11
  have KK12 := K00.trans K6 (fun x q => nomatch q)
  have Str_13 := OStr.keep S0 K6 nin0 nin0
  have S14 : OStr Z T1.heap la3 lb4 [(45 : Int32)] := own_lit E7 F9 C8 V10 (by decide) (by decide)
  refine F_virtual X2 (rm := rm_seq) (a := x) (D := "java/lang/String") d_place_3 (hw _ (List.mem_of_getElem? (i := 31) rfl)) (hw _ (List.mem_of_getElem? (i := 32) rfl)) (hw _ (List.mem_of_getElem? (i := 34) rfl)) (hw _ (List.mem_of_getElem? (i := 33) rfl)) (notFace_of_selects (args := #[]) (mvT X2.hZ (hw _ (List.mem_of_getElem? (i := 34) rfl)))) (by decide) (OStr.exa Str_13) (hw _ (List.mem_of_getElem? (i := 6) rfl)) (hw _ (List.mem_of_getElem? (i := 35) rfl)) (argsL := [(.ref la3)]) (st := []) rfl (ct_seq l Z a0 hw G1 G3 OS hEL hSA x la3 t lb4 cs [(45 : Int32)] X2.old Str_13 S14) (lenOf (pd_6) rfl) rfl (by decide) (by decide) (by decide) (Nat.le_of_ble_eq_true rfl) [] (fun _ _ q => by obtain ⟨_, _, e, _, _⟩ := q; exact own_ks e) (sf0)  (pc' := 6) rfl ?_
  intro T16 _ X17 hQ18
  obtain ⟨z15, rfl, e19, yz15, nz15⟩ := hQ18
  have KK20 := own_keq KK12 e19
  rw [← e19] at Str_13 S14 C8
  by_cases hcd : cs = [(45 : Int32)]
  · skip
    obtain rfl := yz15 hcd
    show EndW p e below s Z _ _ _ T16 (mkF m 6 #[.val (.ref x)] [(.int (1 : Int32))])
    refine F_ifF X17 d_place_6 (XT.i0_eq_f (by decide)) (pc' := 9) rfl ?_
    refine F_ldcS X17 (n := 56) (z := Int32.ofNat ([(115 : Int32), (116 : Int32), (97 : Int32), (110 : Int32), (100 : Int32), (97 : Int32), (114 : Int32), (100 : Int32), (32 : Int32), (105 : Int32), (110 : Int32), (112 : Int32), (117 : Int32), (116 : Int32)] : List Int32).length) (vs := ([(115 : Int32), (116 : Int32), (97 : Int32), (110 : Int32), (100 : Int32), (97 : Int32), (114 : Int32), (100 : Int32), (32 : Int32), (105 : Int32), (110 : Int32), (112 : Int32), (117 : Int32), (116 : Int32)] : List Int32).map lo8) d_place_9 (hw _ (List.mem_of_getElem? (i := 53) rfl)) hSA hEL (by simp [EL, consts_1]) lit_2 (by decide) rfl (by decide) (by decide) (by decide) (by decide) (pc' := 11) rfl ?_
    intro T21 la23 lb24 k25 X22 K26 E27 C28 F29 V30 hs31
    have KK32 := KK20.trans K26 (fun x q => nomatch q)
    have Str_33 := OStr.keep Str_13 K26 nin0 nin0
    have Str_34 := OStr.keep S14 K26 nin0 nin0
    have Fld_35 := C8.keep K26 nin0
    have S36 : OStr Z T21.heap la23 lb24 [(115 : Int32), (116 : Int32), (97 : Int32), (110 : Int32), (100 : Int32), (97 : Int32), (114 : Int32), (100 : Int32), (32 : Int32), (105 : Int32), (110 : Int32), (112 : Int32), (117 : Int32), (116 : Int32)] := own_lit E27 F29 C28 V30 (by decide) (by decide)
    refine F_goto X22 d_place_11 (pc' := 15) (by decide) rfl ?_
    exact F_areturn X22 (t := (.object "java/lang/String")) d_place_15 rfl rfl rfl rfl (by decide) (by decide) (⟨la23, lb24, rfl, KK32, by rw [if_pos hcd]; exact S36⟩)
  · skip
    obtain rfl := nz15 hcd
    show EndW p e below s Z _ _ _ T16 (mkF m 6 #[.val (.ref x)] [(.int (0 : Int32))])
    refine F_ifT X17 d_place_6 (XT.i0_eq_t (by decide)) (pc' := 14) (by decide) rfl ?_
    refine F_aloadN X17 d_place_14 rfl rfl (pc' := 15) rfl ?_
    exact F_areturn X17 (t := (.object "java/lang/String")) d_place_15 rfl rfl rfl rfl (by decide) (by decide) (⟨x, t, rfl, KK20, by rw [if_neg hcd]; exact Str_13⟩)
set_option maxRecDepth 65536 in
set_option maxHeartbeats 40000000 in
theorem ct_law (l : Launch) (Z : State) (a0 : Array Value) (hw : ∀ d ∈ tables_1, d.before a0 Z = true) (p0 p1 p2 p3 p4 : Int32) (G1 : Int32) (G3 : Value) (O : Ext Z.heap Z.heap) (OS : Sts Z G1 G3) (hEL : EW Z a0 EL) (hSA : ∀ a ∈ Bundle.stringAtoms, a.before a0 Z = true) : CtW l Z x code maxLocals ret room_1 #[(.int p0), (.int p1), (.int p2), (.int p3), (.int p4)] Z.heap (fun v _ => v = some (.int 1)) := by
  show CtW l Z (⟨"com/example/sakimono/sakimono/StreamsPlaceNamePinLaw", "law", "(IIIII)Z"⟩ : MethodName) code 12 (some .boolean) ({ frames := 8, cells := 24, slots := 4224, locals := 192 } : Room) _ _ _
  refine CtW.of_body (Ls := #[.val (.int p0), .val (.int p1), .val (.int p2), .val (.int p3), .val (.int p4), .unset, .unset, .unset, .unset, .unset, .unset, .unset]) (by decide +kernel) O hEL (fun m => by first | rfl | (simp [entryFrame, mkF, argsToLocals, Value.category]; done)) ?_
  intro p e s m below meth c T0 X0 e0
  obtain ⟨cA, hcA⟩ : ∃ z, z = (p1 &&& (255 : Int32)).toUInt32.toUInt16.toUInt32.toInt32 := ⟨_, rfl⟩
  have bcA : ¬ cA < 0 ∧ ¬ (255 : Int32) < cA := by rw [hcA]; exact c8_ok p1
  obtain ⟨cB, hcB⟩ : ∃ z, z = (p2 &&& (255 : Int32)).toUInt32.toUInt16.toUInt32.toInt32 := ⟨_, rfl⟩
  have bcB : ¬ cB < 0 ∧ ¬ (255 : Int32) < cB := by rw [hcB]; exact c8_ok p2
  obtain ⟨cC, hcC⟩ : ∃ z, z = (p3 &&& (255 : Int32)).toUInt32.toUInt16.toUInt32.toInt32 := ⟨_, rfl⟩
  have bcC : ¬ cC < 0 ∧ ¬ (255 : Int32) < cC := by rw [hcC]; exact c8_ok p3
  have b45 : ¬ (45 : Int32) < 0 ∧ ¬ (255 : Int32) < 45 := by decide
  obtain ⟨nn, hnn⟩ : ∃ z, z = p0 &&& (3 : Int32) := ⟨_, rfl⟩
  refine F_iloadN X0 at_0 rfl (pc' := 1) rfl ?_
  refine F_iconst X0 (v := (3 : Int32)) at_1 rfl (pc' := 2) rfl ?_
  refine F_iand X0 (v := nn) at_2 hnn.symm (pc' := 3) rfl ?_
  refine F_istore X0 at_3 (l' := #[.val (.int p0), .val (.int p1), .val (.int p2), .val (.int p3), .val (.int p4), .val (.int nn), .unset, .unset, .unset, .unset, .unset, .unset]) rfl (pc' := 5) rfl ?_
  refine F_iload X0 at_5 rfl (pc' := 7) rfl ?_
  refine F_iconst X0 (v := (1 : Int32)) at_7 rfl (pc' := 8) rfl ?_
  refine F_iand X0 at_8 rfl (pc' := 9) rfl ?_
  by_cases q1 : (p4 &&& (1 : Int32)) = 0
  · skip
    refine F_ifT X0 at_9 (XT.i0_eq_t q1) (pc' := 17) (by decide) rfl ?_
    refine F_iloadN X0 at_17 rfl (pc' := 18) rfl ?_
    refine F_sipush X0 (v := (255 : Int32)) at_18 rfl (pc' := 21) rfl ?_
    refine F_iand X0 at_21 rfl (pc' := 22) rfl ?_
    refine F_i2c X0 (v := cA) at_22 hcA.symm (pc' := 23) rfl ?_
    refine F_istore X0 at_23 (l' := #[.val (.int p0), .val (.int p1), .val (.int p2), .val (.int p3), .val (.int p4), .val (.int nn), .val (.int cA), .unset, .unset, .unset, .unset, .unset]) rfl (pc' := 25) rfl ?_
    refine F_iload X0 at_25 rfl (pc' := 27) rfl ?_
    refine F_iconst X0 (v := (2 : Int32)) at_27 rfl (pc' := 28) rfl ?_
    refine F_iand X0 at_28 rfl (pc' := 29) rfl ?_
    by_cases q2 : (p4 &&& (2 : Int32)) = 0
    · skip
      refine F_ifT X0 at_29 (XT.i0_eq_t q2) (pc' := 37) (by decide) rfl ?_
      refine F_iloadN X0 at_37 rfl (pc' := 38) rfl ?_
      refine F_sipush X0 (v := (255 : Int32)) at_38 rfl (pc' := 41) rfl ?_
      refine F_iand X0 at_41 rfl (pc' := 42) rfl ?_
      refine F_i2c X0 (v := cB) at_42 hcB.symm (pc' := 43) rfl ?_
      refine F_istore X0 at_43 (l' := #[.val (.int p0), .val (.int p1), .val (.int p2), .val (.int p3), .val (.int p4), .val (.int nn), .val (.int cA), .val (.int cB), .unset, .unset, .unset, .unset]) rfl (pc' := 45) rfl ?_
      refine F_iload X0 at_45 rfl (pc' := 47) rfl ?_
      refine F_iconst X0 (v := (4 : Int32)) at_47 rfl (pc' := 48) rfl ?_
      refine F_iand X0 at_48 rfl (pc' := 49) rfl ?_
      by_cases q3 : (p4 &&& (4 : Int32)) = 0
      · skip
        refine F_ifT X0 at_49 (XT.i0_eq_t q3) (pc' := 57) (by decide) rfl ?_
        refine F_iloadN X0 at_57 rfl (pc' := 58) rfl ?_
        refine F_sipush X0 (v := (255 : Int32)) at_58 rfl (pc' := 61) rfl ?_
        refine F_iand X0 at_61 rfl (pc' := 62) rfl ?_
        refine F_i2c X0 (v := cC) at_62 hcC.symm (pc' := 63) rfl ?_
        refine F_istore X0 at_63 (l' := #[.val (.int p0), .val (.int p1), .val (.int p2), .val (.int p3), .val (.int p4), .val (.int nn), .val (.int cA), .val (.int cB), .val (.int cC), .unset, .unset, .unset]) rfl (pc' := 65) rfl ?_
        refine F_iload X0 at_65 rfl (pc' := 67) rfl ?_
        refine F_iload X0 at_67 rfl (pc' := 69) rfl ?_
        refine F_iload X0 at_69 rfl (pc' := 71) rfl ?_
        refine F_iload X0 at_71 rfl (pc' := 73) rfl ?_
        refine G_static X0 (rm := rm_make) at_73 (hw _ (List.mem_of_getElem? (i := 0) rfl)) (hw _ (List.mem_of_getElem? (i := 1) rfl)) (hw _ (List.mem_of_getElem? (i := 2) rfl)) (hw _ (List.mem_of_getElem? (i := 3) rfl)) (by decide) (argsL := [(.int nn), (.int cA), (.int cB), (.int cC)]) (st := []) rfl (ct_make l Z a0 hw G1 G3 OS hEL hSA nn cA cB cC X0.old bcA bcB bcC) (lenOf (pd_7) rfl) rfl (by decide) (by decide) (by decide) (Nat.le_of_ble_eq_true rfl)  (pc' := 76) rfl ?_
        intro T1 _ X2 hQ3 hsf4
        obtain ⟨fx, ft, rfl, K5, szf, S6⟩ := hQ3
        show EndW p e below s Z _ _ _ T1 (mkF m 76 #[.val (.int p0), .val (.int p1), .val (.int p2), .val (.int p3), .val (.int p4), .val (.int nn), .val (.int cA), .val (.int cB), .val (.int cC), .unset, .unset, .unset] [(.ref fx)])
        refine F_astore X2 at_76 rfl (l' := #[.val (.int p0), .val (.int p1), .val (.int p2), .val (.int p3), .val (.int p4), .val (.int nn), .val (.int cA), .val (.int cB), .val (.int cC), .val (.ref fx), .unset, .unset]) rfl (pc' := 78) rfl ?_
        refine F_aload X2 at_78 rfl rfl (pc' := 80) rfl ?_
        refine G_static X2 (rm := rm_place) at_80 (hw _ (List.mem_of_getElem? (i := 26) rfl)) (hw _ (List.mem_of_getElem? (i := 27) rfl)) (hw _ (List.mem_of_getElem? (i := 28) rfl)) (hw _ (List.mem_of_getElem? (i := 29) rfl)) (by decide) (argsL := [(.ref fx)]) (st := []) rfl (ct_place l Z a0 hw G1 G3 OS hEL hSA fx ft (mkL nn cA cB cC) X2.old S6) (lenOf (pd_8) rfl) rfl (by decide) (by decide) (by decide) (Nat.le_of_ble_eq_true rfl)  (pc' := 83) rfl ?_
        intro T7 _ X8 hQ9 hsf10
        obtain ⟨rx, rt, rfl, K11, S12⟩ := hQ9
        have Str_13 := OStr.keep S6 K11 nin0 nin0
        show EndW p e below s Z _ _ _ T7 (mkF m 83 #[.val (.int p0), .val (.int p1), .val (.int p2), .val (.int p3), .val (.int p4), .val (.int nn), .val (.int cA), .val (.int cB), .val (.int cC), .val (.ref fx), .unset, .unset] [(.ref rx)])
        refine F_astore X8 at_83 rfl (l' := #[.val (.int p0), .val (.int p1), .val (.int p2), .val (.int p3), .val (.int p4), .val (.int nn), .val (.int cA), .val (.int cB), .val (.int cC), .val (.ref fx), .val (.ref rx), .unset]) rfl (pc' := 85) rfl ?_
        refine F_aload X8 at_85 rfl rfl (pc' := 87) rfl ?_
        refine F_nonnullT X8 at_87 (pc' := 92) (by decide) rfl ?_
        refine F_iload X8 at_92 rfl (pc' := 94) rfl ?_
        refine F_iconst X8 (v := (1 : Int32)) at_94 rfl (pc' := 95) rfl ?_
        by_cases hn : nn = (1 : Int32)
        · skip
          refine F_icF X8 at_95 (XT.ii_ne_f hn) (pc' := 98) rfl ?_
          refine F_iload X8 at_98 rfl (pc' := 100) rfl ?_
          refine F_bipush X8 (v := (45 : Int32)) at_100 rfl (pc' := 102) rfl ?_
          by_cases hd : cA = (45 : Int32)
          · skip
            refine F_icF X8 at_102 (XT.ii_ne_f hd) (pc' := 105) rfl ?_
            refine F_iconst X8 (v := (1 : Int32)) at_105 rfl (pc' := 106) rfl ?_
            refine F_goto X8 at_106 (pc' := 110) (by decide) rfl ?_
            refine F_istore X8 at_110 (l' := #[.val (.int p0), .val (.int p1), .val (.int p2), .val (.int p3), .val (.int p4), .val (.int nn), .val (.int cA), .val (.int cB), .val (.int cC), .val (.ref fx), .val (.ref rx), .val (.int (1 : Int32))]) rfl (pc' := 112) rfl ?_
            refine F_iload X8 at_112 rfl (pc' := 114) rfl ?_
            refine F_ifF X8 at_114 (XT.i0_eq_f (by decide)) (pc' := 117) rfl ?_
            refine F_aload X8 at_117 rfl rfl (pc' := 119) rfl ?_
            refine F_ldcS X8 (n := 56) (z := Int32.ofNat ([(115 : Int32), (116 : Int32), (97 : Int32), (110 : Int32), (100 : Int32), (97 : Int32), (114 : Int32), (100 : Int32), (32 : Int32), (105 : Int32), (110 : Int32), (112 : Int32), (117 : Int32), (116 : Int32)] : List Int32).length) (vs := ([(115 : Int32), (116 : Int32), (97 : Int32), (110 : Int32), (100 : Int32), (97 : Int32), (114 : Int32), (100 : Int32), (32 : Int32), (105 : Int32), (110 : Int32), (112 : Int32), (117 : Int32), (116 : Int32)] : List Int32).map lo8) at_119 (hw _ (List.mem_of_getElem? (i := 54) rfl)) hSA hEL (by simp [EL, consts_1]) lit_2 (by decide) rfl (by decide) (by decide) (by decide) (by decide) (pc' := 121) rfl ?_
            intro T14 la16 lb17 k18 X15 K19 E20 C21 F22 V23 hs24
            have Str_25 := OStr.keep Str_13 K19 nin0 nin0
            have Str_26 := OStr.keep S12 K19 nin0 nin0
            have S27 : OStr Z T14.heap la16 lb17 [(115 : Int32), (116 : Int32), (97 : Int32), (110 : Int32), (100 : Int32), (97 : Int32), (114 : Int32), (100 : Int32), (32 : Int32), (105 : Int32), (110 : Int32), (112 : Int32), (117 : Int32), (116 : Int32)] := own_lit E20 F22 C21 V23 (by decide) (by decide)
            refine F_virtual X15 (rm := rm_seq) (a := rx) (D := "java/lang/String") at_121 (hw _ (List.mem_of_getElem? (i := 42) rfl)) (hw _ (List.mem_of_getElem? (i := 32) rfl)) (hw _ (List.mem_of_getElem? (i := 34) rfl)) (hw _ (List.mem_of_getElem? (i := 33) rfl)) (notFace_of_selects (args := #[]) (mvT X15.hZ (hw _ (List.mem_of_getElem? (i := 34) rfl)))) (by decide) (OStr.exa Str_26) (hw _ (List.mem_of_getElem? (i := 6) rfl)) (hw _ (List.mem_of_getElem? (i := 35) rfl)) (argsL := [(.ref la16)]) (st := []) rfl (ct_seq l Z a0 hw G1 G3 OS hEL hSA rx la16 rt lb17 (if (mkL nn cA cB cC) = [45] then SI else (mkL nn cA cB cC)) [(115 : Int32), (116 : Int32), (97 : Int32), (110 : Int32), (100 : Int32), (97 : Int32), (114 : Int32), (100 : Int32), (32 : Int32), (105 : Int32), (110 : Int32), (112 : Int32), (117 : Int32), (116 : Int32)] X15.old Str_26 S27) (lenOf (pd_6) rfl) rfl (by decide) (by decide) (by decide) (Nat.le_of_ble_eq_true rfl) [] (fun _ _ q => by obtain ⟨_, _, e, _, _⟩ := q; exact own_ks e) (sf0)  (pc' := 124) rfl ?_
            intro T29 _ X30 hQ31
            obtain ⟨z28, rfl, e32, yz28, nz28⟩ := hQ31
            rw [← e32] at Str_25 Str_26 S27 C21
            obtain rfl := yz28 (by rw [if_pos (by rw [mkL, if_neg (by rw [hn]; decide), if_pos hn, hd])]; rfl)
            show EndW p e below s Z _ _ _ T29 (mkF m 124 #[.val (.int p0), .val (.int p1), .val (.int p2), .val (.int p3), .val (.int p4), .val (.int nn), .val (.int cA), .val (.int cB), .val (.int cC), .val (.ref fx), .val (.ref rx), .val (.int (1 : Int32))] [(.int (1 : Int32))])
            exact F_ireturnN X30 (t := .boolean) at_124 rfl (by simp) (by decide) (by decide) (rfl)
          · skip
            refine F_icT X8 at_102 (XT.ii_ne_t hd) (pc' := 109) (by decide) rfl ?_
            refine F_iconst X8 (v := (0 : Int32)) at_109 rfl (pc' := 110) rfl ?_
            refine F_istore X8 at_110 (l' := #[.val (.int p0), .val (.int p1), .val (.int p2), .val (.int p3), .val (.int p4), .val (.int nn), .val (.int cA), .val (.int cB), .val (.int cC), .val (.ref fx), .val (.ref rx), .val (.int (0 : Int32))]) rfl (pc' := 112) rfl ?_
            refine F_iload X8 at_112 rfl (pc' := 114) rfl ?_
            refine F_ifT X8 at_114 (XT.i0_eq_t (by decide)) (pc' := 125) (by decide) rfl ?_
            refine F_aload X8 at_125 rfl rfl (pc' := 127) rfl ?_
            refine F_aload X8 at_127 rfl rfl (pc' := 129) rfl ?_
            refine F_virtual X8 (rm := rm_seq) (a := rx) (D := "java/lang/String") at_129 (hw _ (List.mem_of_getElem? (i := 42) rfl)) (hw _ (List.mem_of_getElem? (i := 32) rfl)) (hw _ (List.mem_of_getElem? (i := 34) rfl)) (hw _ (List.mem_of_getElem? (i := 33) rfl)) (notFace_of_selects (args := #[]) (mvT X8.hZ (hw _ (List.mem_of_getElem? (i := 34) rfl)))) (by decide) (OStr.exa S12) (hw _ (List.mem_of_getElem? (i := 6) rfl)) (hw _ (List.mem_of_getElem? (i := 35) rfl)) (argsL := [(.ref fx)]) (st := []) rfl (ct_seq l Z a0 hw G1 G3 OS hEL hSA rx fx rt ft (if (mkL nn cA cB cC) = [45] then SI else (mkL nn cA cB cC)) (mkL nn cA cB cC) X8.old S12 Str_13) (lenOf (pd_6) rfl) rfl (by decide) (by decide) (by decide) (Nat.le_of_ble_eq_true rfl) [] (fun _ _ q => by obtain ⟨_, _, e, _, _⟩ := q; exact own_ks e) (sf0)  (pc' := 132) rfl ?_
            intro T34 _ X35 hQ36
            obtain ⟨z33, rfl, e37, yz33, nz33⟩ := hQ36
            rw [← e37] at Str_13 S12
            obtain rfl := yz33 (if_neg (mk_dash (fun q => absurd q.2 hd)))
            show EndW p e below s Z _ _ _ T34 (mkF m 132 #[.val (.int p0), .val (.int p1), .val (.int p2), .val (.int p3), .val (.int p4), .val (.int nn), .val (.int cA), .val (.int cB), .val (.int cC), .val (.ref fx), .val (.ref rx), .val (.int (0 : Int32))] [(.int (1 : Int32))])
            exact F_ireturnN X35 (t := .boolean) at_132 rfl (by simp) (by decide) (by decide) (rfl)
        · skip
          refine F_icT X8 at_95 (XT.ii_ne_t hn) (pc' := 109) (by decide) rfl ?_
          refine F_iconst X8 (v := (0 : Int32)) at_109 rfl (pc' := 110) rfl ?_
          refine F_istore X8 at_110 (l' := #[.val (.int p0), .val (.int p1), .val (.int p2), .val (.int p3), .val (.int p4), .val (.int nn), .val (.int cA), .val (.int cB), .val (.int cC), .val (.ref fx), .val (.ref rx), .val (.int (0 : Int32))]) rfl (pc' := 112) rfl ?_
          refine F_iload X8 at_112 rfl (pc' := 114) rfl ?_
          refine F_ifT X8 at_114 (XT.i0_eq_t (by decide)) (pc' := 125) (by decide) rfl ?_
          refine F_aload X8 at_125 rfl rfl (pc' := 127) rfl ?_
          refine F_aload X8 at_127 rfl rfl (pc' := 129) rfl ?_
          refine F_virtual X8 (rm := rm_seq) (a := rx) (D := "java/lang/String") at_129 (hw _ (List.mem_of_getElem? (i := 42) rfl)) (hw _ (List.mem_of_getElem? (i := 32) rfl)) (hw _ (List.mem_of_getElem? (i := 34) rfl)) (hw _ (List.mem_of_getElem? (i := 33) rfl)) (notFace_of_selects (args := #[]) (mvT X8.hZ (hw _ (List.mem_of_getElem? (i := 34) rfl)))) (by decide) (OStr.exa S12) (hw _ (List.mem_of_getElem? (i := 6) rfl)) (hw _ (List.mem_of_getElem? (i := 35) rfl)) (argsL := [(.ref fx)]) (st := []) rfl (ct_seq l Z a0 hw G1 G3 OS hEL hSA rx fx rt ft (if (mkL nn cA cB cC) = [45] then SI else (mkL nn cA cB cC)) (mkL nn cA cB cC) X8.old S12 Str_13) (lenOf (pd_6) rfl) rfl (by decide) (by decide) (by decide) (Nat.le_of_ble_eq_true rfl) [] (fun _ _ q => by obtain ⟨_, _, e, _, _⟩ := q; exact own_ks e) (sf0)  (pc' := 132) rfl ?_
          intro T39 _ X40 hQ41
          obtain ⟨z38, rfl, e42, yz38, nz38⟩ := hQ41
          rw [← e42] at Str_13 S12
          obtain rfl := yz38 (if_neg (mk_dash (fun q => hn q.1)))
          show EndW p e below s Z _ _ _ T39 (mkF m 132 #[.val (.int p0), .val (.int p1), .val (.int p2), .val (.int p3), .val (.int p4), .val (.int nn), .val (.int cA), .val (.int cB), .val (.int cC), .val (.ref fx), .val (.ref rx), .val (.int (0 : Int32))] [(.int (1 : Int32))])
          exact F_ireturnN X40 (t := .boolean) at_132 rfl (by simp) (by decide) (by decide) (rfl)
      · skip
        refine F_ifF X0 at_49 (XT.i0_eq_f q3) (pc' := 52) rfl ?_
        refine F_bipush X0 (v := (45 : Int32)) at_52 rfl (pc' := 54) rfl ?_
        refine F_goto X0 at_54 (pc' := 63) (by decide) rfl ?_
        refine F_istore X0 at_63 (l' := #[.val (.int p0), .val (.int p1), .val (.int p2), .val (.int p3), .val (.int p4), .val (.int nn), .val (.int cA), .val (.int cB), .val (.int (45 : Int32)), .unset, .unset, .unset]) rfl (pc' := 65) rfl ?_
        refine F_iload X0 at_65 rfl (pc' := 67) rfl ?_
        refine F_iload X0 at_67 rfl (pc' := 69) rfl ?_
        refine F_iload X0 at_69 rfl (pc' := 71) rfl ?_
        refine F_iload X0 at_71 rfl (pc' := 73) rfl ?_
        refine G_static X0 (rm := rm_make) at_73 (hw _ (List.mem_of_getElem? (i := 0) rfl)) (hw _ (List.mem_of_getElem? (i := 1) rfl)) (hw _ (List.mem_of_getElem? (i := 2) rfl)) (hw _ (List.mem_of_getElem? (i := 3) rfl)) (by decide) (argsL := [(.int nn), (.int cA), (.int cB), (.int (45 : Int32))]) (st := []) rfl (ct_make l Z a0 hw G1 G3 OS hEL hSA nn cA cB (45 : Int32) X0.old bcA bcB b45) (lenOf (pd_7) rfl) rfl (by decide) (by decide) (by decide) (Nat.le_of_ble_eq_true rfl)  (pc' := 76) rfl ?_
        intro T43 _ X44 hQ45 hsf46
        obtain ⟨fx, ft, rfl, K47, szf, S48⟩ := hQ45
        show EndW p e below s Z _ _ _ T43 (mkF m 76 #[.val (.int p0), .val (.int p1), .val (.int p2), .val (.int p3), .val (.int p4), .val (.int nn), .val (.int cA), .val (.int cB), .val (.int (45 : Int32)), .unset, .unset, .unset] [(.ref fx)])
        refine F_astore X44 at_76 rfl (l' := #[.val (.int p0), .val (.int p1), .val (.int p2), .val (.int p3), .val (.int p4), .val (.int nn), .val (.int cA), .val (.int cB), .val (.int (45 : Int32)), .val (.ref fx), .unset, .unset]) rfl (pc' := 78) rfl ?_
        refine F_aload X44 at_78 rfl rfl (pc' := 80) rfl ?_
        refine G_static X44 (rm := rm_place) at_80 (hw _ (List.mem_of_getElem? (i := 26) rfl)) (hw _ (List.mem_of_getElem? (i := 27) rfl)) (hw _ (List.mem_of_getElem? (i := 28) rfl)) (hw _ (List.mem_of_getElem? (i := 29) rfl)) (by decide) (argsL := [(.ref fx)]) (st := []) rfl (ct_place l Z a0 hw G1 G3 OS hEL hSA fx ft (mkL nn cA cB (45 : Int32)) X44.old S48) (lenOf (pd_8) rfl) rfl (by decide) (by decide) (by decide) (Nat.le_of_ble_eq_true rfl)  (pc' := 83) rfl ?_
        intro T49 _ X50 hQ51 hsf52
        obtain ⟨rx, rt, rfl, K53, S54⟩ := hQ51
        have Str_55 := OStr.keep S48 K53 nin0 nin0
        show EndW p e below s Z _ _ _ T49 (mkF m 83 #[.val (.int p0), .val (.int p1), .val (.int p2), .val (.int p3), .val (.int p4), .val (.int nn), .val (.int cA), .val (.int cB), .val (.int (45 : Int32)), .val (.ref fx), .unset, .unset] [(.ref rx)])
        refine F_astore X50 at_83 rfl (l' := #[.val (.int p0), .val (.int p1), .val (.int p2), .val (.int p3), .val (.int p4), .val (.int nn), .val (.int cA), .val (.int cB), .val (.int (45 : Int32)), .val (.ref fx), .val (.ref rx), .unset]) rfl (pc' := 85) rfl ?_
        refine F_aload X50 at_85 rfl rfl (pc' := 87) rfl ?_
        refine F_nonnullT X50 at_87 (pc' := 92) (by decide) rfl ?_
        refine F_iload X50 at_92 rfl (pc' := 94) rfl ?_
        refine F_iconst X50 (v := (1 : Int32)) at_94 rfl (pc' := 95) rfl ?_
        by_cases hn : nn = (1 : Int32)
        · skip
          refine F_icF X50 at_95 (XT.ii_ne_f hn) (pc' := 98) rfl ?_
          refine F_iload X50 at_98 rfl (pc' := 100) rfl ?_
          refine F_bipush X50 (v := (45 : Int32)) at_100 rfl (pc' := 102) rfl ?_
          by_cases hd : cA = (45 : Int32)
          · skip
            refine F_icF X50 at_102 (XT.ii_ne_f hd) (pc' := 105) rfl ?_
            refine F_iconst X50 (v := (1 : Int32)) at_105 rfl (pc' := 106) rfl ?_
            refine F_goto X50 at_106 (pc' := 110) (by decide) rfl ?_
            refine F_istore X50 at_110 (l' := #[.val (.int p0), .val (.int p1), .val (.int p2), .val (.int p3), .val (.int p4), .val (.int nn), .val (.int cA), .val (.int cB), .val (.int (45 : Int32)), .val (.ref fx), .val (.ref rx), .val (.int (1 : Int32))]) rfl (pc' := 112) rfl ?_
            refine F_iload X50 at_112 rfl (pc' := 114) rfl ?_
            refine F_ifF X50 at_114 (XT.i0_eq_f (by decide)) (pc' := 117) rfl ?_
            refine F_aload X50 at_117 rfl rfl (pc' := 119) rfl ?_
            refine F_ldcS X50 (n := 56) (z := Int32.ofNat ([(115 : Int32), (116 : Int32), (97 : Int32), (110 : Int32), (100 : Int32), (97 : Int32), (114 : Int32), (100 : Int32), (32 : Int32), (105 : Int32), (110 : Int32), (112 : Int32), (117 : Int32), (116 : Int32)] : List Int32).length) (vs := ([(115 : Int32), (116 : Int32), (97 : Int32), (110 : Int32), (100 : Int32), (97 : Int32), (114 : Int32), (100 : Int32), (32 : Int32), (105 : Int32), (110 : Int32), (112 : Int32), (117 : Int32), (116 : Int32)] : List Int32).map lo8) at_119 (hw _ (List.mem_of_getElem? (i := 54) rfl)) hSA hEL (by simp [EL, consts_1]) lit_2 (by decide) rfl (by decide) (by decide) (by decide) (by decide) (pc' := 121) rfl ?_
            intro T56 la58 lb59 k60 X57 K61 E62 C63 F64 V65 hs66
            have Str_67 := OStr.keep Str_55 K61 nin0 nin0
            have Str_68 := OStr.keep S54 K61 nin0 nin0
            have S69 : OStr Z T56.heap la58 lb59 [(115 : Int32), (116 : Int32), (97 : Int32), (110 : Int32), (100 : Int32), (97 : Int32), (114 : Int32), (100 : Int32), (32 : Int32), (105 : Int32), (110 : Int32), (112 : Int32), (117 : Int32), (116 : Int32)] := own_lit E62 F64 C63 V65 (by decide) (by decide)
            refine F_virtual X57 (rm := rm_seq) (a := rx) (D := "java/lang/String") at_121 (hw _ (List.mem_of_getElem? (i := 42) rfl)) (hw _ (List.mem_of_getElem? (i := 32) rfl)) (hw _ (List.mem_of_getElem? (i := 34) rfl)) (hw _ (List.mem_of_getElem? (i := 33) rfl)) (notFace_of_selects (args := #[]) (mvT X57.hZ (hw _ (List.mem_of_getElem? (i := 34) rfl)))) (by decide) (OStr.exa Str_68) (hw _ (List.mem_of_getElem? (i := 6) rfl)) (hw _ (List.mem_of_getElem? (i := 35) rfl)) (argsL := [(.ref la58)]) (st := []) rfl (ct_seq l Z a0 hw G1 G3 OS hEL hSA rx la58 rt lb59 (if (mkL nn cA cB (45 : Int32)) = [45] then SI else (mkL nn cA cB (45 : Int32))) [(115 : Int32), (116 : Int32), (97 : Int32), (110 : Int32), (100 : Int32), (97 : Int32), (114 : Int32), (100 : Int32), (32 : Int32), (105 : Int32), (110 : Int32), (112 : Int32), (117 : Int32), (116 : Int32)] X57.old Str_68 S69) (lenOf (pd_6) rfl) rfl (by decide) (by decide) (by decide) (Nat.le_of_ble_eq_true rfl) [] (fun _ _ q => by obtain ⟨_, _, e, _, _⟩ := q; exact own_ks e) (sf0)  (pc' := 124) rfl ?_
            intro T71 _ X72 hQ73
            obtain ⟨z70, rfl, e74, yz70, nz70⟩ := hQ73
            rw [← e74] at Str_67 Str_68 S69 C63
            obtain rfl := yz70 (by rw [if_pos (by rw [mkL, if_neg (by rw [hn]; decide), if_pos hn, hd])]; rfl)
            show EndW p e below s Z _ _ _ T71 (mkF m 124 #[.val (.int p0), .val (.int p1), .val (.int p2), .val (.int p3), .val (.int p4), .val (.int nn), .val (.int cA), .val (.int cB), .val (.int (45 : Int32)), .val (.ref fx), .val (.ref rx), .val (.int (1 : Int32))] [(.int (1 : Int32))])
            exact F_ireturnN X72 (t := .boolean) at_124 rfl (by simp) (by decide) (by decide) (rfl)
          · skip
            refine F_icT X50 at_102 (XT.ii_ne_t hd) (pc' := 109) (by decide) rfl ?_
            refine F_iconst X50 (v := (0 : Int32)) at_109 rfl (pc' := 110) rfl ?_
            refine F_istore X50 at_110 (l' := #[.val (.int p0), .val (.int p1), .val (.int p2), .val (.int p3), .val (.int p4), .val (.int nn), .val (.int cA), .val (.int cB), .val (.int (45 : Int32)), .val (.ref fx), .val (.ref rx), .val (.int (0 : Int32))]) rfl (pc' := 112) rfl ?_
            refine F_iload X50 at_112 rfl (pc' := 114) rfl ?_
            refine F_ifT X50 at_114 (XT.i0_eq_t (by decide)) (pc' := 125) (by decide) rfl ?_
            refine F_aload X50 at_125 rfl rfl (pc' := 127) rfl ?_
            refine F_aload X50 at_127 rfl rfl (pc' := 129) rfl ?_
            refine F_virtual X50 (rm := rm_seq) (a := rx) (D := "java/lang/String") at_129 (hw _ (List.mem_of_getElem? (i := 42) rfl)) (hw _ (List.mem_of_getElem? (i := 32) rfl)) (hw _ (List.mem_of_getElem? (i := 34) rfl)) (hw _ (List.mem_of_getElem? (i := 33) rfl)) (notFace_of_selects (args := #[]) (mvT X50.hZ (hw _ (List.mem_of_getElem? (i := 34) rfl)))) (by decide) (OStr.exa S54) (hw _ (List.mem_of_getElem? (i := 6) rfl)) (hw _ (List.mem_of_getElem? (i := 35) rfl)) (argsL := [(.ref fx)]) (st := []) rfl (ct_seq l Z a0 hw G1 G3 OS hEL hSA rx fx rt ft (if (mkL nn cA cB (45 : Int32)) = [45] then SI else (mkL nn cA cB (45 : Int32))) (mkL nn cA cB (45 : Int32)) X50.old S54 Str_55) (lenOf (pd_6) rfl) rfl (by decide) (by decide) (by decide) (Nat.le_of_ble_eq_true rfl) [] (fun _ _ q => by obtain ⟨_, _, e, _, _⟩ := q; exact own_ks e) (sf0)  (pc' := 132) rfl ?_
            intro T76 _ X77 hQ78
            obtain ⟨z75, rfl, e79, yz75, nz75⟩ := hQ78
            rw [← e79] at Str_55 S54
            obtain rfl := yz75 (if_neg (mk_dash (fun q => absurd q.2 hd)))
            show EndW p e below s Z _ _ _ T76 (mkF m 132 #[.val (.int p0), .val (.int p1), .val (.int p2), .val (.int p3), .val (.int p4), .val (.int nn), .val (.int cA), .val (.int cB), .val (.int (45 : Int32)), .val (.ref fx), .val (.ref rx), .val (.int (0 : Int32))] [(.int (1 : Int32))])
            exact F_ireturnN X77 (t := .boolean) at_132 rfl (by simp) (by decide) (by decide) (rfl)
        · skip
          refine F_icT X50 at_95 (XT.ii_ne_t hn) (pc' := 109) (by decide) rfl ?_
          refine F_iconst X50 (v := (0 : Int32)) at_109 rfl (pc' := 110) rfl ?_
          refine F_istore X50 at_110 (l' := #[.val (.int p0), .val (.int p1), .val (.int p2), .val (.int p3), .val (.int p4), .val (.int nn), .val (.int cA), .val (.int cB), .val (.int (45 : Int32)), .val (.ref fx), .val (.ref rx), .val (.int (0 : Int32))]) rfl (pc' := 112) rfl ?_
          refine F_iload X50 at_112 rfl (pc' := 114) rfl ?_
          refine F_ifT X50 at_114 (XT.i0_eq_t (by decide)) (pc' := 125) (by decide) rfl ?_
          refine F_aload X50 at_125 rfl rfl (pc' := 127) rfl ?_
          refine F_aload X50 at_127 rfl rfl (pc' := 129) rfl ?_
          refine F_virtual X50 (rm := rm_seq) (a := rx) (D := "java/lang/String") at_129 (hw _ (List.mem_of_getElem? (i := 42) rfl)) (hw _ (List.mem_of_getElem? (i := 32) rfl)) (hw _ (List.mem_of_getElem? (i := 34) rfl)) (hw _ (List.mem_of_getElem? (i := 33) rfl)) (notFace_of_selects (args := #[]) (mvT X50.hZ (hw _ (List.mem_of_getElem? (i := 34) rfl)))) (by decide) (OStr.exa S54) (hw _ (List.mem_of_getElem? (i := 6) rfl)) (hw _ (List.mem_of_getElem? (i := 35) rfl)) (argsL := [(.ref fx)]) (st := []) rfl (ct_seq l Z a0 hw G1 G3 OS hEL hSA rx fx rt ft (if (mkL nn cA cB (45 : Int32)) = [45] then SI else (mkL nn cA cB (45 : Int32))) (mkL nn cA cB (45 : Int32)) X50.old S54 Str_55) (lenOf (pd_6) rfl) rfl (by decide) (by decide) (by decide) (Nat.le_of_ble_eq_true rfl) [] (fun _ _ q => by obtain ⟨_, _, e, _, _⟩ := q; exact own_ks e) (sf0)  (pc' := 132) rfl ?_
          intro T81 _ X82 hQ83
          obtain ⟨z80, rfl, e84, yz80, nz80⟩ := hQ83
          rw [← e84] at Str_55 S54
          obtain rfl := yz80 (if_neg (mk_dash (fun q => hn q.1)))
          show EndW p e below s Z _ _ _ T81 (mkF m 132 #[.val (.int p0), .val (.int p1), .val (.int p2), .val (.int p3), .val (.int p4), .val (.int nn), .val (.int cA), .val (.int cB), .val (.int (45 : Int32)), .val (.ref fx), .val (.ref rx), .val (.int (0 : Int32))] [(.int (1 : Int32))])
          exact F_ireturnN X82 (t := .boolean) at_132 rfl (by simp) (by decide) (by decide) (rfl)
    · skip
      refine F_ifF X0 at_29 (XT.i0_eq_f q2) (pc' := 32) rfl ?_
      refine F_bipush X0 (v := (45 : Int32)) at_32 rfl (pc' := 34) rfl ?_
      refine F_goto X0 at_34 (pc' := 43) (by decide) rfl ?_
      refine F_istore X0 at_43 (l' := #[.val (.int p0), .val (.int p1), .val (.int p2), .val (.int p3), .val (.int p4), .val (.int nn), .val (.int cA), .val (.int (45 : Int32)), .unset, .unset, .unset, .unset]) rfl (pc' := 45) rfl ?_
      refine F_iload X0 at_45 rfl (pc' := 47) rfl ?_
      refine F_iconst X0 (v := (4 : Int32)) at_47 rfl (pc' := 48) rfl ?_
      refine F_iand X0 at_48 rfl (pc' := 49) rfl ?_
      by_cases q3 : (p4 &&& (4 : Int32)) = 0
      · skip
        refine F_ifT X0 at_49 (XT.i0_eq_t q3) (pc' := 57) (by decide) rfl ?_
        refine F_iloadN X0 at_57 rfl (pc' := 58) rfl ?_
        refine F_sipush X0 (v := (255 : Int32)) at_58 rfl (pc' := 61) rfl ?_
        refine F_iand X0 at_61 rfl (pc' := 62) rfl ?_
        refine F_i2c X0 (v := cC) at_62 hcC.symm (pc' := 63) rfl ?_
        refine F_istore X0 at_63 (l' := #[.val (.int p0), .val (.int p1), .val (.int p2), .val (.int p3), .val (.int p4), .val (.int nn), .val (.int cA), .val (.int (45 : Int32)), .val (.int cC), .unset, .unset, .unset]) rfl (pc' := 65) rfl ?_
        refine F_iload X0 at_65 rfl (pc' := 67) rfl ?_
        refine F_iload X0 at_67 rfl (pc' := 69) rfl ?_
        refine F_iload X0 at_69 rfl (pc' := 71) rfl ?_
        refine F_iload X0 at_71 rfl (pc' := 73) rfl ?_
        refine G_static X0 (rm := rm_make) at_73 (hw _ (List.mem_of_getElem? (i := 0) rfl)) (hw _ (List.mem_of_getElem? (i := 1) rfl)) (hw _ (List.mem_of_getElem? (i := 2) rfl)) (hw _ (List.mem_of_getElem? (i := 3) rfl)) (by decide) (argsL := [(.int nn), (.int cA), (.int (45 : Int32)), (.int cC)]) (st := []) rfl (ct_make l Z a0 hw G1 G3 OS hEL hSA nn cA (45 : Int32) cC X0.old bcA b45 bcC) (lenOf (pd_7) rfl) rfl (by decide) (by decide) (by decide) (Nat.le_of_ble_eq_true rfl)  (pc' := 76) rfl ?_
        intro T85 _ X86 hQ87 hsf88
        obtain ⟨fx, ft, rfl, K89, szf, S90⟩ := hQ87
        show EndW p e below s Z _ _ _ T85 (mkF m 76 #[.val (.int p0), .val (.int p1), .val (.int p2), .val (.int p3), .val (.int p4), .val (.int nn), .val (.int cA), .val (.int (45 : Int32)), .val (.int cC), .unset, .unset, .unset] [(.ref fx)])
        refine F_astore X86 at_76 rfl (l' := #[.val (.int p0), .val (.int p1), .val (.int p2), .val (.int p3), .val (.int p4), .val (.int nn), .val (.int cA), .val (.int (45 : Int32)), .val (.int cC), .val (.ref fx), .unset, .unset]) rfl (pc' := 78) rfl ?_
        refine F_aload X86 at_78 rfl rfl (pc' := 80) rfl ?_
        refine G_static X86 (rm := rm_place) at_80 (hw _ (List.mem_of_getElem? (i := 26) rfl)) (hw _ (List.mem_of_getElem? (i := 27) rfl)) (hw _ (List.mem_of_getElem? (i := 28) rfl)) (hw _ (List.mem_of_getElem? (i := 29) rfl)) (by decide) (argsL := [(.ref fx)]) (st := []) rfl (ct_place l Z a0 hw G1 G3 OS hEL hSA fx ft (mkL nn cA (45 : Int32) cC) X86.old S90) (lenOf (pd_8) rfl) rfl (by decide) (by decide) (by decide) (Nat.le_of_ble_eq_true rfl)  (pc' := 83) rfl ?_
        intro T91 _ X92 hQ93 hsf94
        obtain ⟨rx, rt, rfl, K95, S96⟩ := hQ93
        have Str_97 := OStr.keep S90 K95 nin0 nin0
        show EndW p e below s Z _ _ _ T91 (mkF m 83 #[.val (.int p0), .val (.int p1), .val (.int p2), .val (.int p3), .val (.int p4), .val (.int nn), .val (.int cA), .val (.int (45 : Int32)), .val (.int cC), .val (.ref fx), .unset, .unset] [(.ref rx)])
        refine F_astore X92 at_83 rfl (l' := #[.val (.int p0), .val (.int p1), .val (.int p2), .val (.int p3), .val (.int p4), .val (.int nn), .val (.int cA), .val (.int (45 : Int32)), .val (.int cC), .val (.ref fx), .val (.ref rx), .unset]) rfl (pc' := 85) rfl ?_
        refine F_aload X92 at_85 rfl rfl (pc' := 87) rfl ?_
        refine F_nonnullT X92 at_87 (pc' := 92) (by decide) rfl ?_
        refine F_iload X92 at_92 rfl (pc' := 94) rfl ?_
        refine F_iconst X92 (v := (1 : Int32)) at_94 rfl (pc' := 95) rfl ?_
        by_cases hn : nn = (1 : Int32)
        · skip
          refine F_icF X92 at_95 (XT.ii_ne_f hn) (pc' := 98) rfl ?_
          refine F_iload X92 at_98 rfl (pc' := 100) rfl ?_
          refine F_bipush X92 (v := (45 : Int32)) at_100 rfl (pc' := 102) rfl ?_
          by_cases hd : cA = (45 : Int32)
          · skip
            refine F_icF X92 at_102 (XT.ii_ne_f hd) (pc' := 105) rfl ?_
            refine F_iconst X92 (v := (1 : Int32)) at_105 rfl (pc' := 106) rfl ?_
            refine F_goto X92 at_106 (pc' := 110) (by decide) rfl ?_
            refine F_istore X92 at_110 (l' := #[.val (.int p0), .val (.int p1), .val (.int p2), .val (.int p3), .val (.int p4), .val (.int nn), .val (.int cA), .val (.int (45 : Int32)), .val (.int cC), .val (.ref fx), .val (.ref rx), .val (.int (1 : Int32))]) rfl (pc' := 112) rfl ?_
            refine F_iload X92 at_112 rfl (pc' := 114) rfl ?_
            refine F_ifF X92 at_114 (XT.i0_eq_f (by decide)) (pc' := 117) rfl ?_
            refine F_aload X92 at_117 rfl rfl (pc' := 119) rfl ?_
            refine F_ldcS X92 (n := 56) (z := Int32.ofNat ([(115 : Int32), (116 : Int32), (97 : Int32), (110 : Int32), (100 : Int32), (97 : Int32), (114 : Int32), (100 : Int32), (32 : Int32), (105 : Int32), (110 : Int32), (112 : Int32), (117 : Int32), (116 : Int32)] : List Int32).length) (vs := ([(115 : Int32), (116 : Int32), (97 : Int32), (110 : Int32), (100 : Int32), (97 : Int32), (114 : Int32), (100 : Int32), (32 : Int32), (105 : Int32), (110 : Int32), (112 : Int32), (117 : Int32), (116 : Int32)] : List Int32).map lo8) at_119 (hw _ (List.mem_of_getElem? (i := 54) rfl)) hSA hEL (by simp [EL, consts_1]) lit_2 (by decide) rfl (by decide) (by decide) (by decide) (by decide) (pc' := 121) rfl ?_
            intro T98 la100 lb101 k102 X99 K103 E104 C105 F106 V107 hs108
            have Str_109 := OStr.keep Str_97 K103 nin0 nin0
            have Str_110 := OStr.keep S96 K103 nin0 nin0
            have S111 : OStr Z T98.heap la100 lb101 [(115 : Int32), (116 : Int32), (97 : Int32), (110 : Int32), (100 : Int32), (97 : Int32), (114 : Int32), (100 : Int32), (32 : Int32), (105 : Int32), (110 : Int32), (112 : Int32), (117 : Int32), (116 : Int32)] := own_lit E104 F106 C105 V107 (by decide) (by decide)
            refine F_virtual X99 (rm := rm_seq) (a := rx) (D := "java/lang/String") at_121 (hw _ (List.mem_of_getElem? (i := 42) rfl)) (hw _ (List.mem_of_getElem? (i := 32) rfl)) (hw _ (List.mem_of_getElem? (i := 34) rfl)) (hw _ (List.mem_of_getElem? (i := 33) rfl)) (notFace_of_selects (args := #[]) (mvT X99.hZ (hw _ (List.mem_of_getElem? (i := 34) rfl)))) (by decide) (OStr.exa Str_110) (hw _ (List.mem_of_getElem? (i := 6) rfl)) (hw _ (List.mem_of_getElem? (i := 35) rfl)) (argsL := [(.ref la100)]) (st := []) rfl (ct_seq l Z a0 hw G1 G3 OS hEL hSA rx la100 rt lb101 (if (mkL nn cA (45 : Int32) cC) = [45] then SI else (mkL nn cA (45 : Int32) cC)) [(115 : Int32), (116 : Int32), (97 : Int32), (110 : Int32), (100 : Int32), (97 : Int32), (114 : Int32), (100 : Int32), (32 : Int32), (105 : Int32), (110 : Int32), (112 : Int32), (117 : Int32), (116 : Int32)] X99.old Str_110 S111) (lenOf (pd_6) rfl) rfl (by decide) (by decide) (by decide) (Nat.le_of_ble_eq_true rfl) [] (fun _ _ q => by obtain ⟨_, _, e, _, _⟩ := q; exact own_ks e) (sf0)  (pc' := 124) rfl ?_
            intro T113 _ X114 hQ115
            obtain ⟨z112, rfl, e116, yz112, nz112⟩ := hQ115
            rw [← e116] at Str_109 Str_110 S111 C105
            obtain rfl := yz112 (by rw [if_pos (by rw [mkL, if_neg (by rw [hn]; decide), if_pos hn, hd])]; rfl)
            show EndW p e below s Z _ _ _ T113 (mkF m 124 #[.val (.int p0), .val (.int p1), .val (.int p2), .val (.int p3), .val (.int p4), .val (.int nn), .val (.int cA), .val (.int (45 : Int32)), .val (.int cC), .val (.ref fx), .val (.ref rx), .val (.int (1 : Int32))] [(.int (1 : Int32))])
            exact F_ireturnN X114 (t := .boolean) at_124 rfl (by simp) (by decide) (by decide) (rfl)
          · skip
            refine F_icT X92 at_102 (XT.ii_ne_t hd) (pc' := 109) (by decide) rfl ?_
            refine F_iconst X92 (v := (0 : Int32)) at_109 rfl (pc' := 110) rfl ?_
            refine F_istore X92 at_110 (l' := #[.val (.int p0), .val (.int p1), .val (.int p2), .val (.int p3), .val (.int p4), .val (.int nn), .val (.int cA), .val (.int (45 : Int32)), .val (.int cC), .val (.ref fx), .val (.ref rx), .val (.int (0 : Int32))]) rfl (pc' := 112) rfl ?_
            refine F_iload X92 at_112 rfl (pc' := 114) rfl ?_
            refine F_ifT X92 at_114 (XT.i0_eq_t (by decide)) (pc' := 125) (by decide) rfl ?_
            refine F_aload X92 at_125 rfl rfl (pc' := 127) rfl ?_
            refine F_aload X92 at_127 rfl rfl (pc' := 129) rfl ?_
            refine F_virtual X92 (rm := rm_seq) (a := rx) (D := "java/lang/String") at_129 (hw _ (List.mem_of_getElem? (i := 42) rfl)) (hw _ (List.mem_of_getElem? (i := 32) rfl)) (hw _ (List.mem_of_getElem? (i := 34) rfl)) (hw _ (List.mem_of_getElem? (i := 33) rfl)) (notFace_of_selects (args := #[]) (mvT X92.hZ (hw _ (List.mem_of_getElem? (i := 34) rfl)))) (by decide) (OStr.exa S96) (hw _ (List.mem_of_getElem? (i := 6) rfl)) (hw _ (List.mem_of_getElem? (i := 35) rfl)) (argsL := [(.ref fx)]) (st := []) rfl (ct_seq l Z a0 hw G1 G3 OS hEL hSA rx fx rt ft (if (mkL nn cA (45 : Int32) cC) = [45] then SI else (mkL nn cA (45 : Int32) cC)) (mkL nn cA (45 : Int32) cC) X92.old S96 Str_97) (lenOf (pd_6) rfl) rfl (by decide) (by decide) (by decide) (Nat.le_of_ble_eq_true rfl) [] (fun _ _ q => by obtain ⟨_, _, e, _, _⟩ := q; exact own_ks e) (sf0)  (pc' := 132) rfl ?_
            intro T118 _ X119 hQ120
            obtain ⟨z117, rfl, e121, yz117, nz117⟩ := hQ120
            rw [← e121] at Str_97 S96
            obtain rfl := yz117 (if_neg (mk_dash (fun q => absurd q.2 hd)))
            show EndW p e below s Z _ _ _ T118 (mkF m 132 #[.val (.int p0), .val (.int p1), .val (.int p2), .val (.int p3), .val (.int p4), .val (.int nn), .val (.int cA), .val (.int (45 : Int32)), .val (.int cC), .val (.ref fx), .val (.ref rx), .val (.int (0 : Int32))] [(.int (1 : Int32))])
            exact F_ireturnN X119 (t := .boolean) at_132 rfl (by simp) (by decide) (by decide) (rfl)
        · skip
          refine F_icT X92 at_95 (XT.ii_ne_t hn) (pc' := 109) (by decide) rfl ?_
          refine F_iconst X92 (v := (0 : Int32)) at_109 rfl (pc' := 110) rfl ?_
          refine F_istore X92 at_110 (l' := #[.val (.int p0), .val (.int p1), .val (.int p2), .val (.int p3), .val (.int p4), .val (.int nn), .val (.int cA), .val (.int (45 : Int32)), .val (.int cC), .val (.ref fx), .val (.ref rx), .val (.int (0 : Int32))]) rfl (pc' := 112) rfl ?_
          refine F_iload X92 at_112 rfl (pc' := 114) rfl ?_
          refine F_ifT X92 at_114 (XT.i0_eq_t (by decide)) (pc' := 125) (by decide) rfl ?_
          refine F_aload X92 at_125 rfl rfl (pc' := 127) rfl ?_
          refine F_aload X92 at_127 rfl rfl (pc' := 129) rfl ?_
          refine F_virtual X92 (rm := rm_seq) (a := rx) (D := "java/lang/String") at_129 (hw _ (List.mem_of_getElem? (i := 42) rfl)) (hw _ (List.mem_of_getElem? (i := 32) rfl)) (hw _ (List.mem_of_getElem? (i := 34) rfl)) (hw _ (List.mem_of_getElem? (i := 33) rfl)) (notFace_of_selects (args := #[]) (mvT X92.hZ (hw _ (List.mem_of_getElem? (i := 34) rfl)))) (by decide) (OStr.exa S96) (hw _ (List.mem_of_getElem? (i := 6) rfl)) (hw _ (List.mem_of_getElem? (i := 35) rfl)) (argsL := [(.ref fx)]) (st := []) rfl (ct_seq l Z a0 hw G1 G3 OS hEL hSA rx fx rt ft (if (mkL nn cA (45 : Int32) cC) = [45] then SI else (mkL nn cA (45 : Int32) cC)) (mkL nn cA (45 : Int32) cC) X92.old S96 Str_97) (lenOf (pd_6) rfl) rfl (by decide) (by decide) (by decide) (Nat.le_of_ble_eq_true rfl) [] (fun _ _ q => by obtain ⟨_, _, e, _, _⟩ := q; exact own_ks e) (sf0)  (pc' := 132) rfl ?_
          intro T123 _ X124 hQ125
          obtain ⟨z122, rfl, e126, yz122, nz122⟩ := hQ125
          rw [← e126] at Str_97 S96
          obtain rfl := yz122 (if_neg (mk_dash (fun q => hn q.1)))
          show EndW p e below s Z _ _ _ T123 (mkF m 132 #[.val (.int p0), .val (.int p1), .val (.int p2), .val (.int p3), .val (.int p4), .val (.int nn), .val (.int cA), .val (.int (45 : Int32)), .val (.int cC), .val (.ref fx), .val (.ref rx), .val (.int (0 : Int32))] [(.int (1 : Int32))])
          exact F_ireturnN X124 (t := .boolean) at_132 rfl (by simp) (by decide) (by decide) (rfl)
      · skip
        refine F_ifF X0 at_49 (XT.i0_eq_f q3) (pc' := 52) rfl ?_
        refine F_bipush X0 (v := (45 : Int32)) at_52 rfl (pc' := 54) rfl ?_
        refine F_goto X0 at_54 (pc' := 63) (by decide) rfl ?_
        refine F_istore X0 at_63 (l' := #[.val (.int p0), .val (.int p1), .val (.int p2), .val (.int p3), .val (.int p4), .val (.int nn), .val (.int cA), .val (.int (45 : Int32)), .val (.int (45 : Int32)), .unset, .unset, .unset]) rfl (pc' := 65) rfl ?_
        refine F_iload X0 at_65 rfl (pc' := 67) rfl ?_
        refine F_iload X0 at_67 rfl (pc' := 69) rfl ?_
        refine F_iload X0 at_69 rfl (pc' := 71) rfl ?_
        refine F_iload X0 at_71 rfl (pc' := 73) rfl ?_
        refine G_static X0 (rm := rm_make) at_73 (hw _ (List.mem_of_getElem? (i := 0) rfl)) (hw _ (List.mem_of_getElem? (i := 1) rfl)) (hw _ (List.mem_of_getElem? (i := 2) rfl)) (hw _ (List.mem_of_getElem? (i := 3) rfl)) (by decide) (argsL := [(.int nn), (.int cA), (.int (45 : Int32)), (.int (45 : Int32))]) (st := []) rfl (ct_make l Z a0 hw G1 G3 OS hEL hSA nn cA (45 : Int32) (45 : Int32) X0.old bcA b45 b45) (lenOf (pd_7) rfl) rfl (by decide) (by decide) (by decide) (Nat.le_of_ble_eq_true rfl)  (pc' := 76) rfl ?_
        intro T127 _ X128 hQ129 hsf130
        obtain ⟨fx, ft, rfl, K131, szf, S132⟩ := hQ129
        show EndW p e below s Z _ _ _ T127 (mkF m 76 #[.val (.int p0), .val (.int p1), .val (.int p2), .val (.int p3), .val (.int p4), .val (.int nn), .val (.int cA), .val (.int (45 : Int32)), .val (.int (45 : Int32)), .unset, .unset, .unset] [(.ref fx)])
        refine F_astore X128 at_76 rfl (l' := #[.val (.int p0), .val (.int p1), .val (.int p2), .val (.int p3), .val (.int p4), .val (.int nn), .val (.int cA), .val (.int (45 : Int32)), .val (.int (45 : Int32)), .val (.ref fx), .unset, .unset]) rfl (pc' := 78) rfl ?_
        refine F_aload X128 at_78 rfl rfl (pc' := 80) rfl ?_
        refine G_static X128 (rm := rm_place) at_80 (hw _ (List.mem_of_getElem? (i := 26) rfl)) (hw _ (List.mem_of_getElem? (i := 27) rfl)) (hw _ (List.mem_of_getElem? (i := 28) rfl)) (hw _ (List.mem_of_getElem? (i := 29) rfl)) (by decide) (argsL := [(.ref fx)]) (st := []) rfl (ct_place l Z a0 hw G1 G3 OS hEL hSA fx ft (mkL nn cA (45 : Int32) (45 : Int32)) X128.old S132) (lenOf (pd_8) rfl) rfl (by decide) (by decide) (by decide) (Nat.le_of_ble_eq_true rfl)  (pc' := 83) rfl ?_
        intro T133 _ X134 hQ135 hsf136
        obtain ⟨rx, rt, rfl, K137, S138⟩ := hQ135
        have Str_139 := OStr.keep S132 K137 nin0 nin0
        show EndW p e below s Z _ _ _ T133 (mkF m 83 #[.val (.int p0), .val (.int p1), .val (.int p2), .val (.int p3), .val (.int p4), .val (.int nn), .val (.int cA), .val (.int (45 : Int32)), .val (.int (45 : Int32)), .val (.ref fx), .unset, .unset] [(.ref rx)])
        refine F_astore X134 at_83 rfl (l' := #[.val (.int p0), .val (.int p1), .val (.int p2), .val (.int p3), .val (.int p4), .val (.int nn), .val (.int cA), .val (.int (45 : Int32)), .val (.int (45 : Int32)), .val (.ref fx), .val (.ref rx), .unset]) rfl (pc' := 85) rfl ?_
        refine F_aload X134 at_85 rfl rfl (pc' := 87) rfl ?_
        refine F_nonnullT X134 at_87 (pc' := 92) (by decide) rfl ?_
        refine F_iload X134 at_92 rfl (pc' := 94) rfl ?_
        refine F_iconst X134 (v := (1 : Int32)) at_94 rfl (pc' := 95) rfl ?_
        by_cases hn : nn = (1 : Int32)
        · skip
          refine F_icF X134 at_95 (XT.ii_ne_f hn) (pc' := 98) rfl ?_
          refine F_iload X134 at_98 rfl (pc' := 100) rfl ?_
          refine F_bipush X134 (v := (45 : Int32)) at_100 rfl (pc' := 102) rfl ?_
          by_cases hd : cA = (45 : Int32)
          · skip
            refine F_icF X134 at_102 (XT.ii_ne_f hd) (pc' := 105) rfl ?_
            refine F_iconst X134 (v := (1 : Int32)) at_105 rfl (pc' := 106) rfl ?_
            refine F_goto X134 at_106 (pc' := 110) (by decide) rfl ?_
            refine F_istore X134 at_110 (l' := #[.val (.int p0), .val (.int p1), .val (.int p2), .val (.int p3), .val (.int p4), .val (.int nn), .val (.int cA), .val (.int (45 : Int32)), .val (.int (45 : Int32)), .val (.ref fx), .val (.ref rx), .val (.int (1 : Int32))]) rfl (pc' := 112) rfl ?_
            refine F_iload X134 at_112 rfl (pc' := 114) rfl ?_
            refine F_ifF X134 at_114 (XT.i0_eq_f (by decide)) (pc' := 117) rfl ?_
            refine F_aload X134 at_117 rfl rfl (pc' := 119) rfl ?_
            refine F_ldcS X134 (n := 56) (z := Int32.ofNat ([(115 : Int32), (116 : Int32), (97 : Int32), (110 : Int32), (100 : Int32), (97 : Int32), (114 : Int32), (100 : Int32), (32 : Int32), (105 : Int32), (110 : Int32), (112 : Int32), (117 : Int32), (116 : Int32)] : List Int32).length) (vs := ([(115 : Int32), (116 : Int32), (97 : Int32), (110 : Int32), (100 : Int32), (97 : Int32), (114 : Int32), (100 : Int32), (32 : Int32), (105 : Int32), (110 : Int32), (112 : Int32), (117 : Int32), (116 : Int32)] : List Int32).map lo8) at_119 (hw _ (List.mem_of_getElem? (i := 54) rfl)) hSA hEL (by simp [EL, consts_1]) lit_2 (by decide) rfl (by decide) (by decide) (by decide) (by decide) (pc' := 121) rfl ?_
            intro T140 la142 lb143 k144 X141 K145 E146 C147 F148 V149 hs150
            have Str_151 := OStr.keep Str_139 K145 nin0 nin0
            have Str_152 := OStr.keep S138 K145 nin0 nin0
            have S153 : OStr Z T140.heap la142 lb143 [(115 : Int32), (116 : Int32), (97 : Int32), (110 : Int32), (100 : Int32), (97 : Int32), (114 : Int32), (100 : Int32), (32 : Int32), (105 : Int32), (110 : Int32), (112 : Int32), (117 : Int32), (116 : Int32)] := own_lit E146 F148 C147 V149 (by decide) (by decide)
            refine F_virtual X141 (rm := rm_seq) (a := rx) (D := "java/lang/String") at_121 (hw _ (List.mem_of_getElem? (i := 42) rfl)) (hw _ (List.mem_of_getElem? (i := 32) rfl)) (hw _ (List.mem_of_getElem? (i := 34) rfl)) (hw _ (List.mem_of_getElem? (i := 33) rfl)) (notFace_of_selects (args := #[]) (mvT X141.hZ (hw _ (List.mem_of_getElem? (i := 34) rfl)))) (by decide) (OStr.exa Str_152) (hw _ (List.mem_of_getElem? (i := 6) rfl)) (hw _ (List.mem_of_getElem? (i := 35) rfl)) (argsL := [(.ref la142)]) (st := []) rfl (ct_seq l Z a0 hw G1 G3 OS hEL hSA rx la142 rt lb143 (if (mkL nn cA (45 : Int32) (45 : Int32)) = [45] then SI else (mkL nn cA (45 : Int32) (45 : Int32))) [(115 : Int32), (116 : Int32), (97 : Int32), (110 : Int32), (100 : Int32), (97 : Int32), (114 : Int32), (100 : Int32), (32 : Int32), (105 : Int32), (110 : Int32), (112 : Int32), (117 : Int32), (116 : Int32)] X141.old Str_152 S153) (lenOf (pd_6) rfl) rfl (by decide) (by decide) (by decide) (Nat.le_of_ble_eq_true rfl) [] (fun _ _ q => by obtain ⟨_, _, e, _, _⟩ := q; exact own_ks e) (sf0)  (pc' := 124) rfl ?_
            intro T155 _ X156 hQ157
            obtain ⟨z154, rfl, e158, yz154, nz154⟩ := hQ157
            rw [← e158] at Str_151 Str_152 S153 C147
            obtain rfl := yz154 (by rw [if_pos (by rw [mkL, if_neg (by rw [hn]; decide), if_pos hn, hd])]; rfl)
            show EndW p e below s Z _ _ _ T155 (mkF m 124 #[.val (.int p0), .val (.int p1), .val (.int p2), .val (.int p3), .val (.int p4), .val (.int nn), .val (.int cA), .val (.int (45 : Int32)), .val (.int (45 : Int32)), .val (.ref fx), .val (.ref rx), .val (.int (1 : Int32))] [(.int (1 : Int32))])
            exact F_ireturnN X156 (t := .boolean) at_124 rfl (by simp) (by decide) (by decide) (rfl)
          · skip
            refine F_icT X134 at_102 (XT.ii_ne_t hd) (pc' := 109) (by decide) rfl ?_
            refine F_iconst X134 (v := (0 : Int32)) at_109 rfl (pc' := 110) rfl ?_
            refine F_istore X134 at_110 (l' := #[.val (.int p0), .val (.int p1), .val (.int p2), .val (.int p3), .val (.int p4), .val (.int nn), .val (.int cA), .val (.int (45 : Int32)), .val (.int (45 : Int32)), .val (.ref fx), .val (.ref rx), .val (.int (0 : Int32))]) rfl (pc' := 112) rfl ?_
            refine F_iload X134 at_112 rfl (pc' := 114) rfl ?_
            refine F_ifT X134 at_114 (XT.i0_eq_t (by decide)) (pc' := 125) (by decide) rfl ?_
            refine F_aload X134 at_125 rfl rfl (pc' := 127) rfl ?_
            refine F_aload X134 at_127 rfl rfl (pc' := 129) rfl ?_
            refine F_virtual X134 (rm := rm_seq) (a := rx) (D := "java/lang/String") at_129 (hw _ (List.mem_of_getElem? (i := 42) rfl)) (hw _ (List.mem_of_getElem? (i := 32) rfl)) (hw _ (List.mem_of_getElem? (i := 34) rfl)) (hw _ (List.mem_of_getElem? (i := 33) rfl)) (notFace_of_selects (args := #[]) (mvT X134.hZ (hw _ (List.mem_of_getElem? (i := 34) rfl)))) (by decide) (OStr.exa S138) (hw _ (List.mem_of_getElem? (i := 6) rfl)) (hw _ (List.mem_of_getElem? (i := 35) rfl)) (argsL := [(.ref fx)]) (st := []) rfl (ct_seq l Z a0 hw G1 G3 OS hEL hSA rx fx rt ft (if (mkL nn cA (45 : Int32) (45 : Int32)) = [45] then SI else (mkL nn cA (45 : Int32) (45 : Int32))) (mkL nn cA (45 : Int32) (45 : Int32)) X134.old S138 Str_139) (lenOf (pd_6) rfl) rfl (by decide) (by decide) (by decide) (Nat.le_of_ble_eq_true rfl) [] (fun _ _ q => by obtain ⟨_, _, e, _, _⟩ := q; exact own_ks e) (sf0)  (pc' := 132) rfl ?_
            intro T160 _ X161 hQ162
            obtain ⟨z159, rfl, e163, yz159, nz159⟩ := hQ162
            rw [← e163] at Str_139 S138
            obtain rfl := yz159 (if_neg (mk_dash (fun q => absurd q.2 hd)))
            show EndW p e below s Z _ _ _ T160 (mkF m 132 #[.val (.int p0), .val (.int p1), .val (.int p2), .val (.int p3), .val (.int p4), .val (.int nn), .val (.int cA), .val (.int (45 : Int32)), .val (.int (45 : Int32)), .val (.ref fx), .val (.ref rx), .val (.int (0 : Int32))] [(.int (1 : Int32))])
            exact F_ireturnN X161 (t := .boolean) at_132 rfl (by simp) (by decide) (by decide) (rfl)
        · skip
          refine F_icT X134 at_95 (XT.ii_ne_t hn) (pc' := 109) (by decide) rfl ?_
          refine F_iconst X134 (v := (0 : Int32)) at_109 rfl (pc' := 110) rfl ?_
          refine F_istore X134 at_110 (l' := #[.val (.int p0), .val (.int p1), .val (.int p2), .val (.int p3), .val (.int p4), .val (.int nn), .val (.int cA), .val (.int (45 : Int32)), .val (.int (45 : Int32)), .val (.ref fx), .val (.ref rx), .val (.int (0 : Int32))]) rfl (pc' := 112) rfl ?_
          refine F_iload X134 at_112 rfl (pc' := 114) rfl ?_
          refine F_ifT X134 at_114 (XT.i0_eq_t (by decide)) (pc' := 125) (by decide) rfl ?_
          refine F_aload X134 at_125 rfl rfl (pc' := 127) rfl ?_
          refine F_aload X134 at_127 rfl rfl (pc' := 129) rfl ?_
          refine F_virtual X134 (rm := rm_seq) (a := rx) (D := "java/lang/String") at_129 (hw _ (List.mem_of_getElem? (i := 42) rfl)) (hw _ (List.mem_of_getElem? (i := 32) rfl)) (hw _ (List.mem_of_getElem? (i := 34) rfl)) (hw _ (List.mem_of_getElem? (i := 33) rfl)) (notFace_of_selects (args := #[]) (mvT X134.hZ (hw _ (List.mem_of_getElem? (i := 34) rfl)))) (by decide) (OStr.exa S138) (hw _ (List.mem_of_getElem? (i := 6) rfl)) (hw _ (List.mem_of_getElem? (i := 35) rfl)) (argsL := [(.ref fx)]) (st := []) rfl (ct_seq l Z a0 hw G1 G3 OS hEL hSA rx fx rt ft (if (mkL nn cA (45 : Int32) (45 : Int32)) = [45] then SI else (mkL nn cA (45 : Int32) (45 : Int32))) (mkL nn cA (45 : Int32) (45 : Int32)) X134.old S138 Str_139) (lenOf (pd_6) rfl) rfl (by decide) (by decide) (by decide) (Nat.le_of_ble_eq_true rfl) [] (fun _ _ q => by obtain ⟨_, _, e, _, _⟩ := q; exact own_ks e) (sf0)  (pc' := 132) rfl ?_
          intro T165 _ X166 hQ167
          obtain ⟨z164, rfl, e168, yz164, nz164⟩ := hQ167
          rw [← e168] at Str_139 S138
          obtain rfl := yz164 (if_neg (mk_dash (fun q => hn q.1)))
          show EndW p e below s Z _ _ _ T165 (mkF m 132 #[.val (.int p0), .val (.int p1), .val (.int p2), .val (.int p3), .val (.int p4), .val (.int nn), .val (.int cA), .val (.int (45 : Int32)), .val (.int (45 : Int32)), .val (.ref fx), .val (.ref rx), .val (.int (0 : Int32))] [(.int (1 : Int32))])
          exact F_ireturnN X166 (t := .boolean) at_132 rfl (by simp) (by decide) (by decide) (rfl)
  · skip
    refine F_ifF X0 at_9 (XT.i0_eq_f q1) (pc' := 12) rfl ?_
    refine F_bipush X0 (v := (45 : Int32)) at_12 rfl (pc' := 14) rfl ?_
    refine F_goto X0 at_14 (pc' := 23) (by decide) rfl ?_
    refine F_istore X0 at_23 (l' := #[.val (.int p0), .val (.int p1), .val (.int p2), .val (.int p3), .val (.int p4), .val (.int nn), .val (.int (45 : Int32)), .unset, .unset, .unset, .unset, .unset]) rfl (pc' := 25) rfl ?_
    refine F_iload X0 at_25 rfl (pc' := 27) rfl ?_
    refine F_iconst X0 (v := (2 : Int32)) at_27 rfl (pc' := 28) rfl ?_
    refine F_iand X0 at_28 rfl (pc' := 29) rfl ?_
    by_cases q2 : (p4 &&& (2 : Int32)) = 0
    · skip
      refine F_ifT X0 at_29 (XT.i0_eq_t q2) (pc' := 37) (by decide) rfl ?_
      refine F_iloadN X0 at_37 rfl (pc' := 38) rfl ?_
      refine F_sipush X0 (v := (255 : Int32)) at_38 rfl (pc' := 41) rfl ?_
      refine F_iand X0 at_41 rfl (pc' := 42) rfl ?_
      refine F_i2c X0 (v := cB) at_42 hcB.symm (pc' := 43) rfl ?_
      refine F_istore X0 at_43 (l' := #[.val (.int p0), .val (.int p1), .val (.int p2), .val (.int p3), .val (.int p4), .val (.int nn), .val (.int (45 : Int32)), .val (.int cB), .unset, .unset, .unset, .unset]) rfl (pc' := 45) rfl ?_
      refine F_iload X0 at_45 rfl (pc' := 47) rfl ?_
      refine F_iconst X0 (v := (4 : Int32)) at_47 rfl (pc' := 48) rfl ?_
      refine F_iand X0 at_48 rfl (pc' := 49) rfl ?_
      by_cases q3 : (p4 &&& (4 : Int32)) = 0
      · skip
        refine F_ifT X0 at_49 (XT.i0_eq_t q3) (pc' := 57) (by decide) rfl ?_
        refine F_iloadN X0 at_57 rfl (pc' := 58) rfl ?_
        refine F_sipush X0 (v := (255 : Int32)) at_58 rfl (pc' := 61) rfl ?_
        refine F_iand X0 at_61 rfl (pc' := 62) rfl ?_
        refine F_i2c X0 (v := cC) at_62 hcC.symm (pc' := 63) rfl ?_
        refine F_istore X0 at_63 (l' := #[.val (.int p0), .val (.int p1), .val (.int p2), .val (.int p3), .val (.int p4), .val (.int nn), .val (.int (45 : Int32)), .val (.int cB), .val (.int cC), .unset, .unset, .unset]) rfl (pc' := 65) rfl ?_
        refine F_iload X0 at_65 rfl (pc' := 67) rfl ?_
        refine F_iload X0 at_67 rfl (pc' := 69) rfl ?_
        refine F_iload X0 at_69 rfl (pc' := 71) rfl ?_
        refine F_iload X0 at_71 rfl (pc' := 73) rfl ?_
        refine G_static X0 (rm := rm_make) at_73 (hw _ (List.mem_of_getElem? (i := 0) rfl)) (hw _ (List.mem_of_getElem? (i := 1) rfl)) (hw _ (List.mem_of_getElem? (i := 2) rfl)) (hw _ (List.mem_of_getElem? (i := 3) rfl)) (by decide) (argsL := [(.int nn), (.int (45 : Int32)), (.int cB), (.int cC)]) (st := []) rfl (ct_make l Z a0 hw G1 G3 OS hEL hSA nn (45 : Int32) cB cC X0.old b45 bcB bcC) (lenOf (pd_7) rfl) rfl (by decide) (by decide) (by decide) (Nat.le_of_ble_eq_true rfl)  (pc' := 76) rfl ?_
        intro T169 _ X170 hQ171 hsf172
        obtain ⟨fx, ft, rfl, K173, szf, S174⟩ := hQ171
        show EndW p e below s Z _ _ _ T169 (mkF m 76 #[.val (.int p0), .val (.int p1), .val (.int p2), .val (.int p3), .val (.int p4), .val (.int nn), .val (.int (45 : Int32)), .val (.int cB), .val (.int cC), .unset, .unset, .unset] [(.ref fx)])
        refine F_astore X170 at_76 rfl (l' := #[.val (.int p0), .val (.int p1), .val (.int p2), .val (.int p3), .val (.int p4), .val (.int nn), .val (.int (45 : Int32)), .val (.int cB), .val (.int cC), .val (.ref fx), .unset, .unset]) rfl (pc' := 78) rfl ?_
        refine F_aload X170 at_78 rfl rfl (pc' := 80) rfl ?_
        refine G_static X170 (rm := rm_place) at_80 (hw _ (List.mem_of_getElem? (i := 26) rfl)) (hw _ (List.mem_of_getElem? (i := 27) rfl)) (hw _ (List.mem_of_getElem? (i := 28) rfl)) (hw _ (List.mem_of_getElem? (i := 29) rfl)) (by decide) (argsL := [(.ref fx)]) (st := []) rfl (ct_place l Z a0 hw G1 G3 OS hEL hSA fx ft (mkL nn (45 : Int32) cB cC) X170.old S174) (lenOf (pd_8) rfl) rfl (by decide) (by decide) (by decide) (Nat.le_of_ble_eq_true rfl)  (pc' := 83) rfl ?_
        intro T175 _ X176 hQ177 hsf178
        obtain ⟨rx, rt, rfl, K179, S180⟩ := hQ177
        have Str_181 := OStr.keep S174 K179 nin0 nin0
        show EndW p e below s Z _ _ _ T175 (mkF m 83 #[.val (.int p0), .val (.int p1), .val (.int p2), .val (.int p3), .val (.int p4), .val (.int nn), .val (.int (45 : Int32)), .val (.int cB), .val (.int cC), .val (.ref fx), .unset, .unset] [(.ref rx)])
        refine F_astore X176 at_83 rfl (l' := #[.val (.int p0), .val (.int p1), .val (.int p2), .val (.int p3), .val (.int p4), .val (.int nn), .val (.int (45 : Int32)), .val (.int cB), .val (.int cC), .val (.ref fx), .val (.ref rx), .unset]) rfl (pc' := 85) rfl ?_
        refine F_aload X176 at_85 rfl rfl (pc' := 87) rfl ?_
        refine F_nonnullT X176 at_87 (pc' := 92) (by decide) rfl ?_
        refine F_iload X176 at_92 rfl (pc' := 94) rfl ?_
        refine F_iconst X176 (v := (1 : Int32)) at_94 rfl (pc' := 95) rfl ?_
        by_cases hn : nn = (1 : Int32)
        · skip
          refine F_icF X176 at_95 (XT.ii_ne_f hn) (pc' := 98) rfl ?_
          refine F_iload X176 at_98 rfl (pc' := 100) rfl ?_
          refine F_bipush X176 (v := (45 : Int32)) at_100 rfl (pc' := 102) rfl ?_
          refine F_icF X176 at_102 (XT.ii_ne_f (by decide)) (pc' := 105) rfl ?_
          refine F_iconst X176 (v := (1 : Int32)) at_105 rfl (pc' := 106) rfl ?_
          refine F_goto X176 at_106 (pc' := 110) (by decide) rfl ?_
          refine F_istore X176 at_110 (l' := #[.val (.int p0), .val (.int p1), .val (.int p2), .val (.int p3), .val (.int p4), .val (.int nn), .val (.int (45 : Int32)), .val (.int cB), .val (.int cC), .val (.ref fx), .val (.ref rx), .val (.int (1 : Int32))]) rfl (pc' := 112) rfl ?_
          refine F_iload X176 at_112 rfl (pc' := 114) rfl ?_
          refine F_ifF X176 at_114 (XT.i0_eq_f (by decide)) (pc' := 117) rfl ?_
          refine F_aload X176 at_117 rfl rfl (pc' := 119) rfl ?_
          refine F_ldcS X176 (n := 56) (z := Int32.ofNat ([(115 : Int32), (116 : Int32), (97 : Int32), (110 : Int32), (100 : Int32), (97 : Int32), (114 : Int32), (100 : Int32), (32 : Int32), (105 : Int32), (110 : Int32), (112 : Int32), (117 : Int32), (116 : Int32)] : List Int32).length) (vs := ([(115 : Int32), (116 : Int32), (97 : Int32), (110 : Int32), (100 : Int32), (97 : Int32), (114 : Int32), (100 : Int32), (32 : Int32), (105 : Int32), (110 : Int32), (112 : Int32), (117 : Int32), (116 : Int32)] : List Int32).map lo8) at_119 (hw _ (List.mem_of_getElem? (i := 54) rfl)) hSA hEL (by simp [EL, consts_1]) lit_2 (by decide) rfl (by decide) (by decide) (by decide) (by decide) (pc' := 121) rfl ?_
          intro T182 la184 lb185 k186 X183 K187 E188 C189 F190 V191 hs192
          have Str_193 := OStr.keep Str_181 K187 nin0 nin0
          have Str_194 := OStr.keep S180 K187 nin0 nin0
          have S195 : OStr Z T182.heap la184 lb185 [(115 : Int32), (116 : Int32), (97 : Int32), (110 : Int32), (100 : Int32), (97 : Int32), (114 : Int32), (100 : Int32), (32 : Int32), (105 : Int32), (110 : Int32), (112 : Int32), (117 : Int32), (116 : Int32)] := own_lit E188 F190 C189 V191 (by decide) (by decide)
          refine F_virtual X183 (rm := rm_seq) (a := rx) (D := "java/lang/String") at_121 (hw _ (List.mem_of_getElem? (i := 42) rfl)) (hw _ (List.mem_of_getElem? (i := 32) rfl)) (hw _ (List.mem_of_getElem? (i := 34) rfl)) (hw _ (List.mem_of_getElem? (i := 33) rfl)) (notFace_of_selects (args := #[]) (mvT X183.hZ (hw _ (List.mem_of_getElem? (i := 34) rfl)))) (by decide) (OStr.exa Str_194) (hw _ (List.mem_of_getElem? (i := 6) rfl)) (hw _ (List.mem_of_getElem? (i := 35) rfl)) (argsL := [(.ref la184)]) (st := []) rfl (ct_seq l Z a0 hw G1 G3 OS hEL hSA rx la184 rt lb185 (if (mkL nn (45 : Int32) cB cC) = [45] then SI else (mkL nn (45 : Int32) cB cC)) [(115 : Int32), (116 : Int32), (97 : Int32), (110 : Int32), (100 : Int32), (97 : Int32), (114 : Int32), (100 : Int32), (32 : Int32), (105 : Int32), (110 : Int32), (112 : Int32), (117 : Int32), (116 : Int32)] X183.old Str_194 S195) (lenOf (pd_6) rfl) rfl (by decide) (by decide) (by decide) (Nat.le_of_ble_eq_true rfl) [] (fun _ _ q => by obtain ⟨_, _, e, _, _⟩ := q; exact own_ks e) (sf0)  (pc' := 124) rfl ?_
          intro T197 _ X198 hQ199
          obtain ⟨z196, rfl, e200, yz196, nz196⟩ := hQ199
          rw [← e200] at Str_193 Str_194 S195 C189
          obtain rfl := yz196 (by rw [if_pos (by rw [mkL, if_neg (by rw [hn]; decide), if_pos hn])]; rfl)
          show EndW p e below s Z _ _ _ T197 (mkF m 124 #[.val (.int p0), .val (.int p1), .val (.int p2), .val (.int p3), .val (.int p4), .val (.int nn), .val (.int (45 : Int32)), .val (.int cB), .val (.int cC), .val (.ref fx), .val (.ref rx), .val (.int (1 : Int32))] [(.int (1 : Int32))])
          exact F_ireturnN X198 (t := .boolean) at_124 rfl (by simp) (by decide) (by decide) (rfl)
        · skip
          refine F_icT X176 at_95 (XT.ii_ne_t hn) (pc' := 109) (by decide) rfl ?_
          refine F_iconst X176 (v := (0 : Int32)) at_109 rfl (pc' := 110) rfl ?_
          refine F_istore X176 at_110 (l' := #[.val (.int p0), .val (.int p1), .val (.int p2), .val (.int p3), .val (.int p4), .val (.int nn), .val (.int (45 : Int32)), .val (.int cB), .val (.int cC), .val (.ref fx), .val (.ref rx), .val (.int (0 : Int32))]) rfl (pc' := 112) rfl ?_
          refine F_iload X176 at_112 rfl (pc' := 114) rfl ?_
          refine F_ifT X176 at_114 (XT.i0_eq_t (by decide)) (pc' := 125) (by decide) rfl ?_
          refine F_aload X176 at_125 rfl rfl (pc' := 127) rfl ?_
          refine F_aload X176 at_127 rfl rfl (pc' := 129) rfl ?_
          refine F_virtual X176 (rm := rm_seq) (a := rx) (D := "java/lang/String") at_129 (hw _ (List.mem_of_getElem? (i := 42) rfl)) (hw _ (List.mem_of_getElem? (i := 32) rfl)) (hw _ (List.mem_of_getElem? (i := 34) rfl)) (hw _ (List.mem_of_getElem? (i := 33) rfl)) (notFace_of_selects (args := #[]) (mvT X176.hZ (hw _ (List.mem_of_getElem? (i := 34) rfl)))) (by decide) (OStr.exa S180) (hw _ (List.mem_of_getElem? (i := 6) rfl)) (hw _ (List.mem_of_getElem? (i := 35) rfl)) (argsL := [(.ref fx)]) (st := []) rfl (ct_seq l Z a0 hw G1 G3 OS hEL hSA rx fx rt ft (if (mkL nn (45 : Int32) cB cC) = [45] then SI else (mkL nn (45 : Int32) cB cC)) (mkL nn (45 : Int32) cB cC) X176.old S180 Str_181) (lenOf (pd_6) rfl) rfl (by decide) (by decide) (by decide) (Nat.le_of_ble_eq_true rfl) [] (fun _ _ q => by obtain ⟨_, _, e, _, _⟩ := q; exact own_ks e) (sf0)  (pc' := 132) rfl ?_
          intro T202 _ X203 hQ204
          obtain ⟨z201, rfl, e205, yz201, nz201⟩ := hQ204
          rw [← e205] at Str_181 S180
          obtain rfl := yz201 (if_neg (mk_dash (fun q => hn q.1)))
          show EndW p e below s Z _ _ _ T202 (mkF m 132 #[.val (.int p0), .val (.int p1), .val (.int p2), .val (.int p3), .val (.int p4), .val (.int nn), .val (.int (45 : Int32)), .val (.int cB), .val (.int cC), .val (.ref fx), .val (.ref rx), .val (.int (0 : Int32))] [(.int (1 : Int32))])
          exact F_ireturnN X203 (t := .boolean) at_132 rfl (by simp) (by decide) (by decide) (rfl)
      · skip
        refine F_ifF X0 at_49 (XT.i0_eq_f q3) (pc' := 52) rfl ?_
        refine F_bipush X0 (v := (45 : Int32)) at_52 rfl (pc' := 54) rfl ?_
        refine F_goto X0 at_54 (pc' := 63) (by decide) rfl ?_
        refine F_istore X0 at_63 (l' := #[.val (.int p0), .val (.int p1), .val (.int p2), .val (.int p3), .val (.int p4), .val (.int nn), .val (.int (45 : Int32)), .val (.int cB), .val (.int (45 : Int32)), .unset, .unset, .unset]) rfl (pc' := 65) rfl ?_
        refine F_iload X0 at_65 rfl (pc' := 67) rfl ?_
        refine F_iload X0 at_67 rfl (pc' := 69) rfl ?_
        refine F_iload X0 at_69 rfl (pc' := 71) rfl ?_
        refine F_iload X0 at_71 rfl (pc' := 73) rfl ?_
        refine G_static X0 (rm := rm_make) at_73 (hw _ (List.mem_of_getElem? (i := 0) rfl)) (hw _ (List.mem_of_getElem? (i := 1) rfl)) (hw _ (List.mem_of_getElem? (i := 2) rfl)) (hw _ (List.mem_of_getElem? (i := 3) rfl)) (by decide) (argsL := [(.int nn), (.int (45 : Int32)), (.int cB), (.int (45 : Int32))]) (st := []) rfl (ct_make l Z a0 hw G1 G3 OS hEL hSA nn (45 : Int32) cB (45 : Int32) X0.old b45 bcB b45) (lenOf (pd_7) rfl) rfl (by decide) (by decide) (by decide) (Nat.le_of_ble_eq_true rfl)  (pc' := 76) rfl ?_
        intro T206 _ X207 hQ208 hsf209
        obtain ⟨fx, ft, rfl, K210, szf, S211⟩ := hQ208
        show EndW p e below s Z _ _ _ T206 (mkF m 76 #[.val (.int p0), .val (.int p1), .val (.int p2), .val (.int p3), .val (.int p4), .val (.int nn), .val (.int (45 : Int32)), .val (.int cB), .val (.int (45 : Int32)), .unset, .unset, .unset] [(.ref fx)])
        refine F_astore X207 at_76 rfl (l' := #[.val (.int p0), .val (.int p1), .val (.int p2), .val (.int p3), .val (.int p4), .val (.int nn), .val (.int (45 : Int32)), .val (.int cB), .val (.int (45 : Int32)), .val (.ref fx), .unset, .unset]) rfl (pc' := 78) rfl ?_
        refine F_aload X207 at_78 rfl rfl (pc' := 80) rfl ?_
        refine G_static X207 (rm := rm_place) at_80 (hw _ (List.mem_of_getElem? (i := 26) rfl)) (hw _ (List.mem_of_getElem? (i := 27) rfl)) (hw _ (List.mem_of_getElem? (i := 28) rfl)) (hw _ (List.mem_of_getElem? (i := 29) rfl)) (by decide) (argsL := [(.ref fx)]) (st := []) rfl (ct_place l Z a0 hw G1 G3 OS hEL hSA fx ft (mkL nn (45 : Int32) cB (45 : Int32)) X207.old S211) (lenOf (pd_8) rfl) rfl (by decide) (by decide) (by decide) (Nat.le_of_ble_eq_true rfl)  (pc' := 83) rfl ?_
        intro T212 _ X213 hQ214 hsf215
        obtain ⟨rx, rt, rfl, K216, S217⟩ := hQ214
        have Str_218 := OStr.keep S211 K216 nin0 nin0
        show EndW p e below s Z _ _ _ T212 (mkF m 83 #[.val (.int p0), .val (.int p1), .val (.int p2), .val (.int p3), .val (.int p4), .val (.int nn), .val (.int (45 : Int32)), .val (.int cB), .val (.int (45 : Int32)), .val (.ref fx), .unset, .unset] [(.ref rx)])
        refine F_astore X213 at_83 rfl (l' := #[.val (.int p0), .val (.int p1), .val (.int p2), .val (.int p3), .val (.int p4), .val (.int nn), .val (.int (45 : Int32)), .val (.int cB), .val (.int (45 : Int32)), .val (.ref fx), .val (.ref rx), .unset]) rfl (pc' := 85) rfl ?_
        refine F_aload X213 at_85 rfl rfl (pc' := 87) rfl ?_
        refine F_nonnullT X213 at_87 (pc' := 92) (by decide) rfl ?_
        refine F_iload X213 at_92 rfl (pc' := 94) rfl ?_
        refine F_iconst X213 (v := (1 : Int32)) at_94 rfl (pc' := 95) rfl ?_
        by_cases hn : nn = (1 : Int32)
        · skip
          refine F_icF X213 at_95 (XT.ii_ne_f hn) (pc' := 98) rfl ?_
          refine F_iload X213 at_98 rfl (pc' := 100) rfl ?_
          refine F_bipush X213 (v := (45 : Int32)) at_100 rfl (pc' := 102) rfl ?_
          refine F_icF X213 at_102 (XT.ii_ne_f (by decide)) (pc' := 105) rfl ?_
          refine F_iconst X213 (v := (1 : Int32)) at_105 rfl (pc' := 106) rfl ?_
          refine F_goto X213 at_106 (pc' := 110) (by decide) rfl ?_
          refine F_istore X213 at_110 (l' := #[.val (.int p0), .val (.int p1), .val (.int p2), .val (.int p3), .val (.int p4), .val (.int nn), .val (.int (45 : Int32)), .val (.int cB), .val (.int (45 : Int32)), .val (.ref fx), .val (.ref rx), .val (.int (1 : Int32))]) rfl (pc' := 112) rfl ?_
          refine F_iload X213 at_112 rfl (pc' := 114) rfl ?_
          refine F_ifF X213 at_114 (XT.i0_eq_f (by decide)) (pc' := 117) rfl ?_
          refine F_aload X213 at_117 rfl rfl (pc' := 119) rfl ?_
          refine F_ldcS X213 (n := 56) (z := Int32.ofNat ([(115 : Int32), (116 : Int32), (97 : Int32), (110 : Int32), (100 : Int32), (97 : Int32), (114 : Int32), (100 : Int32), (32 : Int32), (105 : Int32), (110 : Int32), (112 : Int32), (117 : Int32), (116 : Int32)] : List Int32).length) (vs := ([(115 : Int32), (116 : Int32), (97 : Int32), (110 : Int32), (100 : Int32), (97 : Int32), (114 : Int32), (100 : Int32), (32 : Int32), (105 : Int32), (110 : Int32), (112 : Int32), (117 : Int32), (116 : Int32)] : List Int32).map lo8) at_119 (hw _ (List.mem_of_getElem? (i := 54) rfl)) hSA hEL (by simp [EL, consts_1]) lit_2 (by decide) rfl (by decide) (by decide) (by decide) (by decide) (pc' := 121) rfl ?_
          intro T219 la221 lb222 k223 X220 K224 E225 C226 F227 V228 hs229
          have Str_230 := OStr.keep Str_218 K224 nin0 nin0
          have Str_231 := OStr.keep S217 K224 nin0 nin0
          have S232 : OStr Z T219.heap la221 lb222 [(115 : Int32), (116 : Int32), (97 : Int32), (110 : Int32), (100 : Int32), (97 : Int32), (114 : Int32), (100 : Int32), (32 : Int32), (105 : Int32), (110 : Int32), (112 : Int32), (117 : Int32), (116 : Int32)] := own_lit E225 F227 C226 V228 (by decide) (by decide)
          refine F_virtual X220 (rm := rm_seq) (a := rx) (D := "java/lang/String") at_121 (hw _ (List.mem_of_getElem? (i := 42) rfl)) (hw _ (List.mem_of_getElem? (i := 32) rfl)) (hw _ (List.mem_of_getElem? (i := 34) rfl)) (hw _ (List.mem_of_getElem? (i := 33) rfl)) (notFace_of_selects (args := #[]) (mvT X220.hZ (hw _ (List.mem_of_getElem? (i := 34) rfl)))) (by decide) (OStr.exa Str_231) (hw _ (List.mem_of_getElem? (i := 6) rfl)) (hw _ (List.mem_of_getElem? (i := 35) rfl)) (argsL := [(.ref la221)]) (st := []) rfl (ct_seq l Z a0 hw G1 G3 OS hEL hSA rx la221 rt lb222 (if (mkL nn (45 : Int32) cB (45 : Int32)) = [45] then SI else (mkL nn (45 : Int32) cB (45 : Int32))) [(115 : Int32), (116 : Int32), (97 : Int32), (110 : Int32), (100 : Int32), (97 : Int32), (114 : Int32), (100 : Int32), (32 : Int32), (105 : Int32), (110 : Int32), (112 : Int32), (117 : Int32), (116 : Int32)] X220.old Str_231 S232) (lenOf (pd_6) rfl) rfl (by decide) (by decide) (by decide) (Nat.le_of_ble_eq_true rfl) [] (fun _ _ q => by obtain ⟨_, _, e, _, _⟩ := q; exact own_ks e) (sf0)  (pc' := 124) rfl ?_
          intro T234 _ X235 hQ236
          obtain ⟨z233, rfl, e237, yz233, nz233⟩ := hQ236
          rw [← e237] at Str_230 Str_231 S232 C226
          obtain rfl := yz233 (by rw [if_pos (by rw [mkL, if_neg (by rw [hn]; decide), if_pos hn])]; rfl)
          show EndW p e below s Z _ _ _ T234 (mkF m 124 #[.val (.int p0), .val (.int p1), .val (.int p2), .val (.int p3), .val (.int p4), .val (.int nn), .val (.int (45 : Int32)), .val (.int cB), .val (.int (45 : Int32)), .val (.ref fx), .val (.ref rx), .val (.int (1 : Int32))] [(.int (1 : Int32))])
          exact F_ireturnN X235 (t := .boolean) at_124 rfl (by simp) (by decide) (by decide) (rfl)
        · skip
          refine F_icT X213 at_95 (XT.ii_ne_t hn) (pc' := 109) (by decide) rfl ?_
          refine F_iconst X213 (v := (0 : Int32)) at_109 rfl (pc' := 110) rfl ?_
          refine F_istore X213 at_110 (l' := #[.val (.int p0), .val (.int p1), .val (.int p2), .val (.int p3), .val (.int p4), .val (.int nn), .val (.int (45 : Int32)), .val (.int cB), .val (.int (45 : Int32)), .val (.ref fx), .val (.ref rx), .val (.int (0 : Int32))]) rfl (pc' := 112) rfl ?_
          refine F_iload X213 at_112 rfl (pc' := 114) rfl ?_
          refine F_ifT X213 at_114 (XT.i0_eq_t (by decide)) (pc' := 125) (by decide) rfl ?_
          refine F_aload X213 at_125 rfl rfl (pc' := 127) rfl ?_
          refine F_aload X213 at_127 rfl rfl (pc' := 129) rfl ?_
          refine F_virtual X213 (rm := rm_seq) (a := rx) (D := "java/lang/String") at_129 (hw _ (List.mem_of_getElem? (i := 42) rfl)) (hw _ (List.mem_of_getElem? (i := 32) rfl)) (hw _ (List.mem_of_getElem? (i := 34) rfl)) (hw _ (List.mem_of_getElem? (i := 33) rfl)) (notFace_of_selects (args := #[]) (mvT X213.hZ (hw _ (List.mem_of_getElem? (i := 34) rfl)))) (by decide) (OStr.exa S217) (hw _ (List.mem_of_getElem? (i := 6) rfl)) (hw _ (List.mem_of_getElem? (i := 35) rfl)) (argsL := [(.ref fx)]) (st := []) rfl (ct_seq l Z a0 hw G1 G3 OS hEL hSA rx fx rt ft (if (mkL nn (45 : Int32) cB (45 : Int32)) = [45] then SI else (mkL nn (45 : Int32) cB (45 : Int32))) (mkL nn (45 : Int32) cB (45 : Int32)) X213.old S217 Str_218) (lenOf (pd_6) rfl) rfl (by decide) (by decide) (by decide) (Nat.le_of_ble_eq_true rfl) [] (fun _ _ q => by obtain ⟨_, _, e, _, _⟩ := q; exact own_ks e) (sf0)  (pc' := 132) rfl ?_
          intro T239 _ X240 hQ241
          obtain ⟨z238, rfl, e242, yz238, nz238⟩ := hQ241
          rw [← e242] at Str_218 S217
          obtain rfl := yz238 (if_neg (mk_dash (fun q => hn q.1)))
          show EndW p e below s Z _ _ _ T239 (mkF m 132 #[.val (.int p0), .val (.int p1), .val (.int p2), .val (.int p3), .val (.int p4), .val (.int nn), .val (.int (45 : Int32)), .val (.int cB), .val (.int (45 : Int32)), .val (.ref fx), .val (.ref rx), .val (.int (0 : Int32))] [(.int (1 : Int32))])
          exact F_ireturnN X240 (t := .boolean) at_132 rfl (by simp) (by decide) (by decide) (rfl)
    · skip
      refine F_ifF X0 at_29 (XT.i0_eq_f q2) (pc' := 32) rfl ?_
      refine F_bipush X0 (v := (45 : Int32)) at_32 rfl (pc' := 34) rfl ?_
      refine F_goto X0 at_34 (pc' := 43) (by decide) rfl ?_
      refine F_istore X0 at_43 (l' := #[.val (.int p0), .val (.int p1), .val (.int p2), .val (.int p3), .val (.int p4), .val (.int nn), .val (.int (45 : Int32)), .val (.int (45 : Int32)), .unset, .unset, .unset, .unset]) rfl (pc' := 45) rfl ?_
      refine F_iload X0 at_45 rfl (pc' := 47) rfl ?_
      refine F_iconst X0 (v := (4 : Int32)) at_47 rfl (pc' := 48) rfl ?_
      refine F_iand X0 at_48 rfl (pc' := 49) rfl ?_
      by_cases q3 : (p4 &&& (4 : Int32)) = 0
      · skip
        refine F_ifT X0 at_49 (XT.i0_eq_t q3) (pc' := 57) (by decide) rfl ?_
        refine F_iloadN X0 at_57 rfl (pc' := 58) rfl ?_
        refine F_sipush X0 (v := (255 : Int32)) at_58 rfl (pc' := 61) rfl ?_
        refine F_iand X0 at_61 rfl (pc' := 62) rfl ?_
        refine F_i2c X0 (v := cC) at_62 hcC.symm (pc' := 63) rfl ?_
        refine F_istore X0 at_63 (l' := #[.val (.int p0), .val (.int p1), .val (.int p2), .val (.int p3), .val (.int p4), .val (.int nn), .val (.int (45 : Int32)), .val (.int (45 : Int32)), .val (.int cC), .unset, .unset, .unset]) rfl (pc' := 65) rfl ?_
        refine F_iload X0 at_65 rfl (pc' := 67) rfl ?_
        refine F_iload X0 at_67 rfl (pc' := 69) rfl ?_
        refine F_iload X0 at_69 rfl (pc' := 71) rfl ?_
        refine F_iload X0 at_71 rfl (pc' := 73) rfl ?_
        refine G_static X0 (rm := rm_make) at_73 (hw _ (List.mem_of_getElem? (i := 0) rfl)) (hw _ (List.mem_of_getElem? (i := 1) rfl)) (hw _ (List.mem_of_getElem? (i := 2) rfl)) (hw _ (List.mem_of_getElem? (i := 3) rfl)) (by decide) (argsL := [(.int nn), (.int (45 : Int32)), (.int (45 : Int32)), (.int cC)]) (st := []) rfl (ct_make l Z a0 hw G1 G3 OS hEL hSA nn (45 : Int32) (45 : Int32) cC X0.old b45 b45 bcC) (lenOf (pd_7) rfl) rfl (by decide) (by decide) (by decide) (Nat.le_of_ble_eq_true rfl)  (pc' := 76) rfl ?_
        intro T243 _ X244 hQ245 hsf246
        obtain ⟨fx, ft, rfl, K247, szf, S248⟩ := hQ245
        show EndW p e below s Z _ _ _ T243 (mkF m 76 #[.val (.int p0), .val (.int p1), .val (.int p2), .val (.int p3), .val (.int p4), .val (.int nn), .val (.int (45 : Int32)), .val (.int (45 : Int32)), .val (.int cC), .unset, .unset, .unset] [(.ref fx)])
        refine F_astore X244 at_76 rfl (l' := #[.val (.int p0), .val (.int p1), .val (.int p2), .val (.int p3), .val (.int p4), .val (.int nn), .val (.int (45 : Int32)), .val (.int (45 : Int32)), .val (.int cC), .val (.ref fx), .unset, .unset]) rfl (pc' := 78) rfl ?_
        refine F_aload X244 at_78 rfl rfl (pc' := 80) rfl ?_
        refine G_static X244 (rm := rm_place) at_80 (hw _ (List.mem_of_getElem? (i := 26) rfl)) (hw _ (List.mem_of_getElem? (i := 27) rfl)) (hw _ (List.mem_of_getElem? (i := 28) rfl)) (hw _ (List.mem_of_getElem? (i := 29) rfl)) (by decide) (argsL := [(.ref fx)]) (st := []) rfl (ct_place l Z a0 hw G1 G3 OS hEL hSA fx ft (mkL nn (45 : Int32) (45 : Int32) cC) X244.old S248) (lenOf (pd_8) rfl) rfl (by decide) (by decide) (by decide) (Nat.le_of_ble_eq_true rfl)  (pc' := 83) rfl ?_
        intro T249 _ X250 hQ251 hsf252
        obtain ⟨rx, rt, rfl, K253, S254⟩ := hQ251
        have Str_255 := OStr.keep S248 K253 nin0 nin0
        show EndW p e below s Z _ _ _ T249 (mkF m 83 #[.val (.int p0), .val (.int p1), .val (.int p2), .val (.int p3), .val (.int p4), .val (.int nn), .val (.int (45 : Int32)), .val (.int (45 : Int32)), .val (.int cC), .val (.ref fx), .unset, .unset] [(.ref rx)])
        refine F_astore X250 at_83 rfl (l' := #[.val (.int p0), .val (.int p1), .val (.int p2), .val (.int p3), .val (.int p4), .val (.int nn), .val (.int (45 : Int32)), .val (.int (45 : Int32)), .val (.int cC), .val (.ref fx), .val (.ref rx), .unset]) rfl (pc' := 85) rfl ?_
        refine F_aload X250 at_85 rfl rfl (pc' := 87) rfl ?_
        refine F_nonnullT X250 at_87 (pc' := 92) (by decide) rfl ?_
        refine F_iload X250 at_92 rfl (pc' := 94) rfl ?_
        refine F_iconst X250 (v := (1 : Int32)) at_94 rfl (pc' := 95) rfl ?_
        by_cases hn : nn = (1 : Int32)
        · skip
          refine F_icF X250 at_95 (XT.ii_ne_f hn) (pc' := 98) rfl ?_
          refine F_iload X250 at_98 rfl (pc' := 100) rfl ?_
          refine F_bipush X250 (v := (45 : Int32)) at_100 rfl (pc' := 102) rfl ?_
          refine F_icF X250 at_102 (XT.ii_ne_f (by decide)) (pc' := 105) rfl ?_
          refine F_iconst X250 (v := (1 : Int32)) at_105 rfl (pc' := 106) rfl ?_
          refine F_goto X250 at_106 (pc' := 110) (by decide) rfl ?_
          refine F_istore X250 at_110 (l' := #[.val (.int p0), .val (.int p1), .val (.int p2), .val (.int p3), .val (.int p4), .val (.int nn), .val (.int (45 : Int32)), .val (.int (45 : Int32)), .val (.int cC), .val (.ref fx), .val (.ref rx), .val (.int (1 : Int32))]) rfl (pc' := 112) rfl ?_
          refine F_iload X250 at_112 rfl (pc' := 114) rfl ?_
          refine F_ifF X250 at_114 (XT.i0_eq_f (by decide)) (pc' := 117) rfl ?_
          refine F_aload X250 at_117 rfl rfl (pc' := 119) rfl ?_
          refine F_ldcS X250 (n := 56) (z := Int32.ofNat ([(115 : Int32), (116 : Int32), (97 : Int32), (110 : Int32), (100 : Int32), (97 : Int32), (114 : Int32), (100 : Int32), (32 : Int32), (105 : Int32), (110 : Int32), (112 : Int32), (117 : Int32), (116 : Int32)] : List Int32).length) (vs := ([(115 : Int32), (116 : Int32), (97 : Int32), (110 : Int32), (100 : Int32), (97 : Int32), (114 : Int32), (100 : Int32), (32 : Int32), (105 : Int32), (110 : Int32), (112 : Int32), (117 : Int32), (116 : Int32)] : List Int32).map lo8) at_119 (hw _ (List.mem_of_getElem? (i := 54) rfl)) hSA hEL (by simp [EL, consts_1]) lit_2 (by decide) rfl (by decide) (by decide) (by decide) (by decide) (pc' := 121) rfl ?_
          intro T256 la258 lb259 k260 X257 K261 E262 C263 F264 V265 hs266
          have Str_267 := OStr.keep Str_255 K261 nin0 nin0
          have Str_268 := OStr.keep S254 K261 nin0 nin0
          have S269 : OStr Z T256.heap la258 lb259 [(115 : Int32), (116 : Int32), (97 : Int32), (110 : Int32), (100 : Int32), (97 : Int32), (114 : Int32), (100 : Int32), (32 : Int32), (105 : Int32), (110 : Int32), (112 : Int32), (117 : Int32), (116 : Int32)] := own_lit E262 F264 C263 V265 (by decide) (by decide)
          refine F_virtual X257 (rm := rm_seq) (a := rx) (D := "java/lang/String") at_121 (hw _ (List.mem_of_getElem? (i := 42) rfl)) (hw _ (List.mem_of_getElem? (i := 32) rfl)) (hw _ (List.mem_of_getElem? (i := 34) rfl)) (hw _ (List.mem_of_getElem? (i := 33) rfl)) (notFace_of_selects (args := #[]) (mvT X257.hZ (hw _ (List.mem_of_getElem? (i := 34) rfl)))) (by decide) (OStr.exa Str_268) (hw _ (List.mem_of_getElem? (i := 6) rfl)) (hw _ (List.mem_of_getElem? (i := 35) rfl)) (argsL := [(.ref la258)]) (st := []) rfl (ct_seq l Z a0 hw G1 G3 OS hEL hSA rx la258 rt lb259 (if (mkL nn (45 : Int32) (45 : Int32) cC) = [45] then SI else (mkL nn (45 : Int32) (45 : Int32) cC)) [(115 : Int32), (116 : Int32), (97 : Int32), (110 : Int32), (100 : Int32), (97 : Int32), (114 : Int32), (100 : Int32), (32 : Int32), (105 : Int32), (110 : Int32), (112 : Int32), (117 : Int32), (116 : Int32)] X257.old Str_268 S269) (lenOf (pd_6) rfl) rfl (by decide) (by decide) (by decide) (Nat.le_of_ble_eq_true rfl) [] (fun _ _ q => by obtain ⟨_, _, e, _, _⟩ := q; exact own_ks e) (sf0)  (pc' := 124) rfl ?_
          intro T271 _ X272 hQ273
          obtain ⟨z270, rfl, e274, yz270, nz270⟩ := hQ273
          rw [← e274] at Str_267 Str_268 S269 C263
          obtain rfl := yz270 (by rw [if_pos (by rw [mkL, if_neg (by rw [hn]; decide), if_pos hn])]; rfl)
          show EndW p e below s Z _ _ _ T271 (mkF m 124 #[.val (.int p0), .val (.int p1), .val (.int p2), .val (.int p3), .val (.int p4), .val (.int nn), .val (.int (45 : Int32)), .val (.int (45 : Int32)), .val (.int cC), .val (.ref fx), .val (.ref rx), .val (.int (1 : Int32))] [(.int (1 : Int32))])
          exact F_ireturnN X272 (t := .boolean) at_124 rfl (by simp) (by decide) (by decide) (rfl)
        · skip
          refine F_icT X250 at_95 (XT.ii_ne_t hn) (pc' := 109) (by decide) rfl ?_
          refine F_iconst X250 (v := (0 : Int32)) at_109 rfl (pc' := 110) rfl ?_
          refine F_istore X250 at_110 (l' := #[.val (.int p0), .val (.int p1), .val (.int p2), .val (.int p3), .val (.int p4), .val (.int nn), .val (.int (45 : Int32)), .val (.int (45 : Int32)), .val (.int cC), .val (.ref fx), .val (.ref rx), .val (.int (0 : Int32))]) rfl (pc' := 112) rfl ?_
          refine F_iload X250 at_112 rfl (pc' := 114) rfl ?_
          refine F_ifT X250 at_114 (XT.i0_eq_t (by decide)) (pc' := 125) (by decide) rfl ?_
          refine F_aload X250 at_125 rfl rfl (pc' := 127) rfl ?_
          refine F_aload X250 at_127 rfl rfl (pc' := 129) rfl ?_
          refine F_virtual X250 (rm := rm_seq) (a := rx) (D := "java/lang/String") at_129 (hw _ (List.mem_of_getElem? (i := 42) rfl)) (hw _ (List.mem_of_getElem? (i := 32) rfl)) (hw _ (List.mem_of_getElem? (i := 34) rfl)) (hw _ (List.mem_of_getElem? (i := 33) rfl)) (notFace_of_selects (args := #[]) (mvT X250.hZ (hw _ (List.mem_of_getElem? (i := 34) rfl)))) (by decide) (OStr.exa S254) (hw _ (List.mem_of_getElem? (i := 6) rfl)) (hw _ (List.mem_of_getElem? (i := 35) rfl)) (argsL := [(.ref fx)]) (st := []) rfl (ct_seq l Z a0 hw G1 G3 OS hEL hSA rx fx rt ft (if (mkL nn (45 : Int32) (45 : Int32) cC) = [45] then SI else (mkL nn (45 : Int32) (45 : Int32) cC)) (mkL nn (45 : Int32) (45 : Int32) cC) X250.old S254 Str_255) (lenOf (pd_6) rfl) rfl (by decide) (by decide) (by decide) (Nat.le_of_ble_eq_true rfl) [] (fun _ _ q => by obtain ⟨_, _, e, _, _⟩ := q; exact own_ks e) (sf0)  (pc' := 132) rfl ?_
          intro T276 _ X277 hQ278
          obtain ⟨z275, rfl, e279, yz275, nz275⟩ := hQ278
          rw [← e279] at Str_255 S254
          obtain rfl := yz275 (if_neg (mk_dash (fun q => hn q.1)))
          show EndW p e below s Z _ _ _ T276 (mkF m 132 #[.val (.int p0), .val (.int p1), .val (.int p2), .val (.int p3), .val (.int p4), .val (.int nn), .val (.int (45 : Int32)), .val (.int (45 : Int32)), .val (.int cC), .val (.ref fx), .val (.ref rx), .val (.int (0 : Int32))] [(.int (1 : Int32))])
          exact F_ireturnN X277 (t := .boolean) at_132 rfl (by simp) (by decide) (by decide) (rfl)
      · skip
        refine F_ifF X0 at_49 (XT.i0_eq_f q3) (pc' := 52) rfl ?_
        refine F_bipush X0 (v := (45 : Int32)) at_52 rfl (pc' := 54) rfl ?_
        refine F_goto X0 at_54 (pc' := 63) (by decide) rfl ?_
        refine F_istore X0 at_63 (l' := #[.val (.int p0), .val (.int p1), .val (.int p2), .val (.int p3), .val (.int p4), .val (.int nn), .val (.int (45 : Int32)), .val (.int (45 : Int32)), .val (.int (45 : Int32)), .unset, .unset, .unset]) rfl (pc' := 65) rfl ?_
        refine F_iload X0 at_65 rfl (pc' := 67) rfl ?_
        refine F_iload X0 at_67 rfl (pc' := 69) rfl ?_
        refine F_iload X0 at_69 rfl (pc' := 71) rfl ?_
        refine F_iload X0 at_71 rfl (pc' := 73) rfl ?_
        refine G_static X0 (rm := rm_make) at_73 (hw _ (List.mem_of_getElem? (i := 0) rfl)) (hw _ (List.mem_of_getElem? (i := 1) rfl)) (hw _ (List.mem_of_getElem? (i := 2) rfl)) (hw _ (List.mem_of_getElem? (i := 3) rfl)) (by decide) (argsL := [(.int nn), (.int (45 : Int32)), (.int (45 : Int32)), (.int (45 : Int32))]) (st := []) rfl (ct_make l Z a0 hw G1 G3 OS hEL hSA nn (45 : Int32) (45 : Int32) (45 : Int32) X0.old b45 b45 b45) (lenOf (pd_7) rfl) rfl (by decide) (by decide) (by decide) (Nat.le_of_ble_eq_true rfl)  (pc' := 76) rfl ?_
        intro T280 _ X281 hQ282 hsf283
        obtain ⟨fx, ft, rfl, K284, szf, S285⟩ := hQ282
        show EndW p e below s Z _ _ _ T280 (mkF m 76 #[.val (.int p0), .val (.int p1), .val (.int p2), .val (.int p3), .val (.int p4), .val (.int nn), .val (.int (45 : Int32)), .val (.int (45 : Int32)), .val (.int (45 : Int32)), .unset, .unset, .unset] [(.ref fx)])
        refine F_astore X281 at_76 rfl (l' := #[.val (.int p0), .val (.int p1), .val (.int p2), .val (.int p3), .val (.int p4), .val (.int nn), .val (.int (45 : Int32)), .val (.int (45 : Int32)), .val (.int (45 : Int32)), .val (.ref fx), .unset, .unset]) rfl (pc' := 78) rfl ?_
        refine F_aload X281 at_78 rfl rfl (pc' := 80) rfl ?_
        refine G_static X281 (rm := rm_place) at_80 (hw _ (List.mem_of_getElem? (i := 26) rfl)) (hw _ (List.mem_of_getElem? (i := 27) rfl)) (hw _ (List.mem_of_getElem? (i := 28) rfl)) (hw _ (List.mem_of_getElem? (i := 29) rfl)) (by decide) (argsL := [(.ref fx)]) (st := []) rfl (ct_place l Z a0 hw G1 G3 OS hEL hSA fx ft (mkL nn (45 : Int32) (45 : Int32) (45 : Int32)) X281.old S285) (lenOf (pd_8) rfl) rfl (by decide) (by decide) (by decide) (Nat.le_of_ble_eq_true rfl)  (pc' := 83) rfl ?_
        intro T286 _ X287 hQ288 hsf289
        obtain ⟨rx, rt, rfl, K290, S291⟩ := hQ288
        have Str_292 := OStr.keep S285 K290 nin0 nin0
        show EndW p e below s Z _ _ _ T286 (mkF m 83 #[.val (.int p0), .val (.int p1), .val (.int p2), .val (.int p3), .val (.int p4), .val (.int nn), .val (.int (45 : Int32)), .val (.int (45 : Int32)), .val (.int (45 : Int32)), .val (.ref fx), .unset, .unset] [(.ref rx)])
        refine F_astore X287 at_83 rfl (l' := #[.val (.int p0), .val (.int p1), .val (.int p2), .val (.int p3), .val (.int p4), .val (.int nn), .val (.int (45 : Int32)), .val (.int (45 : Int32)), .val (.int (45 : Int32)), .val (.ref fx), .val (.ref rx), .unset]) rfl (pc' := 85) rfl ?_
        refine F_aload X287 at_85 rfl rfl (pc' := 87) rfl ?_
        refine F_nonnullT X287 at_87 (pc' := 92) (by decide) rfl ?_
        refine F_iload X287 at_92 rfl (pc' := 94) rfl ?_
        refine F_iconst X287 (v := (1 : Int32)) at_94 rfl (pc' := 95) rfl ?_
        by_cases hn : nn = (1 : Int32)
        · skip
          refine F_icF X287 at_95 (XT.ii_ne_f hn) (pc' := 98) rfl ?_
          refine F_iload X287 at_98 rfl (pc' := 100) rfl ?_
          refine F_bipush X287 (v := (45 : Int32)) at_100 rfl (pc' := 102) rfl ?_
          refine F_icF X287 at_102 (XT.ii_ne_f (by decide)) (pc' := 105) rfl ?_
          refine F_iconst X287 (v := (1 : Int32)) at_105 rfl (pc' := 106) rfl ?_
          refine F_goto X287 at_106 (pc' := 110) (by decide) rfl ?_
          refine F_istore X287 at_110 (l' := #[.val (.int p0), .val (.int p1), .val (.int p2), .val (.int p3), .val (.int p4), .val (.int nn), .val (.int (45 : Int32)), .val (.int (45 : Int32)), .val (.int (45 : Int32)), .val (.ref fx), .val (.ref rx), .val (.int (1 : Int32))]) rfl (pc' := 112) rfl ?_
          refine F_iload X287 at_112 rfl (pc' := 114) rfl ?_
          refine F_ifF X287 at_114 (XT.i0_eq_f (by decide)) (pc' := 117) rfl ?_
          refine F_aload X287 at_117 rfl rfl (pc' := 119) rfl ?_
          refine F_ldcS X287 (n := 56) (z := Int32.ofNat ([(115 : Int32), (116 : Int32), (97 : Int32), (110 : Int32), (100 : Int32), (97 : Int32), (114 : Int32), (100 : Int32), (32 : Int32), (105 : Int32), (110 : Int32), (112 : Int32), (117 : Int32), (116 : Int32)] : List Int32).length) (vs := ([(115 : Int32), (116 : Int32), (97 : Int32), (110 : Int32), (100 : Int32), (97 : Int32), (114 : Int32), (100 : Int32), (32 : Int32), (105 : Int32), (110 : Int32), (112 : Int32), (117 : Int32), (116 : Int32)] : List Int32).map lo8) at_119 (hw _ (List.mem_of_getElem? (i := 54) rfl)) hSA hEL (by simp [EL, consts_1]) lit_2 (by decide) rfl (by decide) (by decide) (by decide) (by decide) (pc' := 121) rfl ?_
          intro T293 la295 lb296 k297 X294 K298 E299 C300 F301 V302 hs303
          have Str_304 := OStr.keep Str_292 K298 nin0 nin0
          have Str_305 := OStr.keep S291 K298 nin0 nin0
          have S306 : OStr Z T293.heap la295 lb296 [(115 : Int32), (116 : Int32), (97 : Int32), (110 : Int32), (100 : Int32), (97 : Int32), (114 : Int32), (100 : Int32), (32 : Int32), (105 : Int32), (110 : Int32), (112 : Int32), (117 : Int32), (116 : Int32)] := own_lit E299 F301 C300 V302 (by decide) (by decide)
          refine F_virtual X294 (rm := rm_seq) (a := rx) (D := "java/lang/String") at_121 (hw _ (List.mem_of_getElem? (i := 42) rfl)) (hw _ (List.mem_of_getElem? (i := 32) rfl)) (hw _ (List.mem_of_getElem? (i := 34) rfl)) (hw _ (List.mem_of_getElem? (i := 33) rfl)) (notFace_of_selects (args := #[]) (mvT X294.hZ (hw _ (List.mem_of_getElem? (i := 34) rfl)))) (by decide) (OStr.exa Str_305) (hw _ (List.mem_of_getElem? (i := 6) rfl)) (hw _ (List.mem_of_getElem? (i := 35) rfl)) (argsL := [(.ref la295)]) (st := []) rfl (ct_seq l Z a0 hw G1 G3 OS hEL hSA rx la295 rt lb296 (if (mkL nn (45 : Int32) (45 : Int32) (45 : Int32)) = [45] then SI else (mkL nn (45 : Int32) (45 : Int32) (45 : Int32))) [(115 : Int32), (116 : Int32), (97 : Int32), (110 : Int32), (100 : Int32), (97 : Int32), (114 : Int32), (100 : Int32), (32 : Int32), (105 : Int32), (110 : Int32), (112 : Int32), (117 : Int32), (116 : Int32)] X294.old Str_305 S306) (lenOf (pd_6) rfl) rfl (by decide) (by decide) (by decide) (Nat.le_of_ble_eq_true rfl) [] (fun _ _ q => by obtain ⟨_, _, e, _, _⟩ := q; exact own_ks e) (sf0)  (pc' := 124) rfl ?_
          intro T308 _ X309 hQ310
          obtain ⟨z307, rfl, e311, yz307, nz307⟩ := hQ310
          rw [← e311] at Str_304 Str_305 S306 C300
          obtain rfl := yz307 (by rw [if_pos (by rw [mkL, if_neg (by rw [hn]; decide), if_pos hn])]; rfl)
          show EndW p e below s Z _ _ _ T308 (mkF m 124 #[.val (.int p0), .val (.int p1), .val (.int p2), .val (.int p3), .val (.int p4), .val (.int nn), .val (.int (45 : Int32)), .val (.int (45 : Int32)), .val (.int (45 : Int32)), .val (.ref fx), .val (.ref rx), .val (.int (1 : Int32))] [(.int (1 : Int32))])
          exact F_ireturnN X309 (t := .boolean) at_124 rfl (by simp) (by decide) (by decide) (rfl)
        · skip
          refine F_icT X287 at_95 (XT.ii_ne_t hn) (pc' := 109) (by decide) rfl ?_
          refine F_iconst X287 (v := (0 : Int32)) at_109 rfl (pc' := 110) rfl ?_
          refine F_istore X287 at_110 (l' := #[.val (.int p0), .val (.int p1), .val (.int p2), .val (.int p3), .val (.int p4), .val (.int nn), .val (.int (45 : Int32)), .val (.int (45 : Int32)), .val (.int (45 : Int32)), .val (.ref fx), .val (.ref rx), .val (.int (0 : Int32))]) rfl (pc' := 112) rfl ?_
          refine F_iload X287 at_112 rfl (pc' := 114) rfl ?_
          refine F_ifT X287 at_114 (XT.i0_eq_t (by decide)) (pc' := 125) (by decide) rfl ?_
          refine F_aload X287 at_125 rfl rfl (pc' := 127) rfl ?_
          refine F_aload X287 at_127 rfl rfl (pc' := 129) rfl ?_
          refine F_virtual X287 (rm := rm_seq) (a := rx) (D := "java/lang/String") at_129 (hw _ (List.mem_of_getElem? (i := 42) rfl)) (hw _ (List.mem_of_getElem? (i := 32) rfl)) (hw _ (List.mem_of_getElem? (i := 34) rfl)) (hw _ (List.mem_of_getElem? (i := 33) rfl)) (notFace_of_selects (args := #[]) (mvT X287.hZ (hw _ (List.mem_of_getElem? (i := 34) rfl)))) (by decide) (OStr.exa S291) (hw _ (List.mem_of_getElem? (i := 6) rfl)) (hw _ (List.mem_of_getElem? (i := 35) rfl)) (argsL := [(.ref fx)]) (st := []) rfl (ct_seq l Z a0 hw G1 G3 OS hEL hSA rx fx rt ft (if (mkL nn (45 : Int32) (45 : Int32) (45 : Int32)) = [45] then SI else (mkL nn (45 : Int32) (45 : Int32) (45 : Int32))) (mkL nn (45 : Int32) (45 : Int32) (45 : Int32)) X287.old S291 Str_292) (lenOf (pd_6) rfl) rfl (by decide) (by decide) (by decide) (Nat.le_of_ble_eq_true rfl) [] (fun _ _ q => by obtain ⟨_, _, e, _, _⟩ := q; exact own_ks e) (sf0)  (pc' := 132) rfl ?_
          intro T313 _ X314 hQ315
          obtain ⟨z312, rfl, e316, yz312, nz312⟩ := hQ315
          rw [← e316] at Str_292 S291
          obtain rfl := yz312 (if_neg (mk_dash (fun q => hn q.1)))
          show EndW p e below s Z _ _ _ T313 (mkF m 132 #[.val (.int p0), .val (.int p1), .val (.int p2), .val (.int p3), .val (.int p4), .val (.int nn), .val (.int (45 : Int32)), .val (.int (45 : Int32)), .val (.int (45 : Int32)), .val (.ref fx), .val (.ref rx), .val (.int (0 : Int32))] [(.int (1 : Int32))])
          exact F_ireturnN X314 (t := .boolean) at_132 rfl (by simp) (by decide) (by decide) (rfl)
set_option maxRecDepth 65536 in
set_option maxHeartbeats 40000000 in
theorem comes_1 {Post : Tables → Env → Array Value → State → Outcome → State → Prop} (hpost : ∀ tb e args s v u, (limb_1_1.after args s (.returned v) u = true ∧ limb_1_2.after args s (.returned v) u = true ∧ True) → ReturnedEndW s (.returned v) u (Jvm.fieldLocs frame_1_writes args s ++ Jvm.arrayLocs frame_1_arrays args s ++ Jvm.staticLocs frame_1_statics s) 24 4224 → Post tb e args s (.returned v) u) :
    ArmFor flags0 classFile x code maxLocals ret World_1 tables_1 room_1 Calls_1 rest_1 Pre_1 Post := by
  intro l hfl _ _ p e ha hc hk s m args below hf hA hF happ hP
  obtain ⟨hcalls, hrest, hpre⟩ := hP
  obtain ⟨-, -, -, hnamed, -, -, -, hat⟩ := (Spec.applies_iff hf).mp happ
  obtain ⟨hg, hn⟩ := and_e (Cond.before_iff.mp (show (Jvm.Cond.and given_1 narrow_1).before args s = true from hpre))
  obtain ⟨hcnt, g0⟩ := and_e hg
  obtain ⟨i0, g1⟩ := and_e g0
  obtain ⟨i1, g2⟩ := and_e g1
  obtain ⟨i2, g3⟩ := and_e g2
  obtain ⟨i3, g4⟩ := and_e g3
  obtain ⟨w0, w1, w2, w3, w4, rfl⟩ : ∃ w0 w1 w2 w3 w4 : Value, args = #[w0, w1, w2, w3, w4] := by
    have hs : args.size = 5 := by simpa [Cond.value, given_1] using hcnt
    obtain ⟨L⟩ := args
    match L, hs with
    | [w0, w1, w2, w3, w4], _ => exact ⟨w0, w1, w2, w3, w4, rfl⟩
  have hw := fun d (hd : d ∈ tables_1) => atoms_spec (ws := Jvm.Cond.code x code maxLocals ret :: tables_1) hat d (List.mem_cons_of_mem _ hd)
  obtain ⟨hsets, hown0⟩ := atoms_of _ (rest_1_c_eq ▸ (show rest_1_c.before _ s = true from hrest))
  have hr0 := Cond.before_iff.mp hown0
  have hfit : Fit s := fun {y c} hc i hi => by
    obtain ⟨ha, rfl⟩ := Array.getElem?_eq_some_iff.mp hc
    have q := List.all_eq_true.mp ((Array.all_eq_true_iff_forall_mem.mp hF) _ (Array.getElem_mem ha)) i (List.mem_range.mpr hi)
    simpa [Array.getElem?_eq_getElem hi] using q
  obtain ⟨x0, ex0⟩ := is_v i0
  obtain rfl : w0 = (.int x0) := Option.some.inj ex0
  obtain ⟨x1, ex1⟩ := is_v i1
  obtain rfl : w1 = (.int x1) := Option.some.inj ex1
  obtain ⟨x2, ex2⟩ := is_v i2
  obtain rfl : w2 = (.int x2) := Option.some.inj ex2
  obtain ⟨x3, ex3⟩ := is_v i3
  obtain rfl : w3 = (.int x3) := Option.some.inj ex3
  obtain ⟨x4, ex4⟩ := is_v g4
  obtain rfl : w4 = (.int x4) := Option.some.inj ex4
  have n5 := not_v (Cond.before_iff.mp (hsets _ (List.mem_of_getElem? (i := 2) rfl)))
  obtain ⟨g1, eg1⟩ := is_v (Cond.before_iff.mp (hsets _ (List.mem_of_getElem? (i := 1) rfl)))
  have S12 : Sta s s.heap "java/lang/String" "COMPACT_STRINGS" "Z" (.int g1) := Sta.start eg1 (Or.inl (hsets _ (List.mem_of_getElem? (i := 0) rfl)))
  obtain ⟨g3, eg3, r15⟩ := isR_v (Cond.before_iff.mp (hsets _ (List.mem_of_getElem? (i := 8) rfl)))
  have S16 : Sta s s.heap "jdk/internal/util/Preconditions" "SIOOBE_FORMATTER" "Ljava/util/function/BiFunction;" g3 := Sta.start eg3 (Or.inl (hsets _ (List.mem_of_getElem? (i := 7) rfl)))
  have c17 : ¬ (g1 = (0 : Int32)) := gotF (Cond.eq_ints eg1 (Term.int_eval (0))) n5
  have hEL : EW s #[(.int x0), (.int x1), (.int x2), (.int x3), (.int x4)] EL := by
    exact (EW.cons (hw _ (List.mem_of_getElem? (i := 30) rfl)) (by decide +kernel) (EW.cons (hw _ (List.mem_of_getElem? (i := 53) rfl)) (by decide +kernel) (EW.cons (hw _ (List.mem_of_getElem? (i := 54) rfl)) (by decide +kernel) (EW.cons (hw _ (List.mem_of_getElem? (i := 18) rfl)) (by decide +kernel) EW.nil))))
  have hSA : ∀ d ∈ Bundle.stringAtoms, d.before #[(.int x0), (.int x1), (.int x2), (.int x3), (.int x4)] s = true := fun d hd => hw d ((by decide +kernel : ∀ d ∈ Bundle.stringAtoms, d ∈ tables_1) d hd)
  have hCH : CHv s EL s.vm s.heap := CHv.start hEL (fun p hp => hcalls.1 p hp) (hsets _ (List.mem_of_getElem? (i := 2) rfl)) (hw _ (List.mem_of_getElem? (i := 19) rfl)) (hw _ (List.mem_of_getElem? (i := 5) rfl))
  obtain ⟨n, o, h1, h2, h3, _, L, rfl, ⟨N, -, rfl⟩, -, hq⟩ := ct_law l s _ hw x0 x1 x2 x3 x4 g1 g3 ⟨Nat.le_refl _, fun _ _ q => q⟩ ⟨S12, c17, S16, r15⟩ hEL hSA tables_1 p e ha hc hk s m _ below hf ((Spec.applies_iff_loose hf).mp happ).1 ⟨rfl, State.Warmed39.refl s, rfl, hCH⟩ trivial
  refine ⟨n, _, h1, h2, h3, hpost _ _ _ _ _ _ ⟨Cond.after_iff.mpr rfl, Cond.after_iff.mpr (eq_i res_at (Term.int_eval (1)) rfl), trivial⟩ ⟨hq.1, hq.2.1, hq.2.2.1, (hq.2.2.2.sift fun y hy => Or.inr (N y hy)).mono (by decide) (by decide)⟩⟩
theorem main_1_1 : Claimed_1_1 := comes_1 fun _ _ _ _ _ _ h hF => ⟨h.1, hF⟩
theorem main_1_2 : Claimed_1_2 := comes_1 fun _ _ _ _ _ _ h hF => ⟨h.2.1, hF⟩
end Jvm.Pilot.@@N@@
namespace Jvm.Pilot.@@N@@
open Jvm Jvm.ClassFile Sem Op Lib Jvm.Free Jvm.Stand Jvm.Pilot.@@N@@.Jvm.D
/-! MADE BY PROGRAM (witnessworld.py) out of the Statement's table words and the real class files: 20 classes; the members and pool entries that the words name. The judged class is class 1, her method 1. -/
namespace start1
open Jvm.ClassFile
def u (s : String) : CpInfo := .utf8 (stringToUtf16 s)
/-- a pool by its gaps: so many unusable entries, then the entry; so many at the end -/
def gap : Nat → List CpInfo → List CpInfo
  | 0, r => r
  | n + 1, r => .unusable :: gap n r
def poolList (es : List (Nat × CpInfo)) (last : Nat) : List CpInfo := es.foldr (fun e r => gap e.1 (e.2 :: r)) (gap last [])
def pool (es : List (Nat × CpInfo)) (last : Nat) : Array CpInfo := ⟨poolList es last⟩
def fileOf (pool : Array CpInfo) (this : Nat) (attrs : Array Attribute := #[]) (ms : Array MethodInfo := #[]) (fl : Nat := 33) (sup : Nat := 0) (ifs : Array Nat := #[]) (fds : Array FieldInfo := #[]) : ClassFile where
  minorVersion := 0
  majorVersion := 65
  constantPool := pool
  accessFlags := fl
  thisClass := this
  superClass := sup
  interfaces := ifs
  fields := fds
  methods := ms
  attributes := attrs
def plain (name : String) (sup : Option ClassId) : Class where
  name := name
  kind := .ordinary
  loader := none
  accessFlags := 33
  super := sup
  interfaces := #[]
  cf := none
  fields := #[]
  methods := #[]
  instanceTypes := #[]
  staticTypes := #[]
  resolved := #[]
  callSites := []
  init := .initialized
  statics := none
  mirror := none

def pool0 : Array CpInfo := pool [(5, u "<init>"), (0, u "()V"), (1, .class_ 10), (1, u "java/lang/Object")] 113

def k0c0 : Code := { maxStack := 0, maxLocals := 1, code := object_method_1_code, exceptionTable := #[], attributes := #[] }
def k0m0 : Method := { name := "<init>", desc := "()V", sig := { parameters := [], returnType := none }, accessFlags := 1, code := some k0c0 }
/-- java/lang/Object -/
def k0 : Class := { plain "java/lang/Object" none with
  accessFlags := 33
  interfaces := #[]
  cf := some (fileOf pool0 8 #[] #[{ accessFlags := 1, nameIndex := 5, descriptorIndex := 6, attributes := #[] }] 33 0 #[] #[])
  fields := #[]
  methods := #[k0m0]
  instanceTypes := #[]
  staticTypes := #[]
  resolved := Array.replicate 124 none
  statics := none }

def pool1 : Array CpInfo := pool [(2, .class_ 4), (1, u "java/lang/Object"), (0, u "<init>"), (0, u "()V"), (0, .methodref 8 9), (0, .class_ 10), (0, .nameAndType 11 12), (0, u "com/example/sakimono/sakimono/StreamsPlaceNamePinLaw"), (0, u "make"), (0, u "(ICCC)Ljava/lang/String;"), (0, .methodref 14 15), (0, .class_ 16), (0, .nameAndType 17 18), (0, u "com/example/sakimono/sakimono/Streams"), (0, u "placeName"), (0, u "(Ljava/lang/String;)Ljava/lang/String;"), (0, .string 20), (0, u "standard input"), (0, .methodref 22 23), (0, .class_ 24), (0, .nameAndType 25 26), (0, u "java/lang/String"), (0, u "equals"), (0, u "(Ljava/lang/Object;)Z"), (0, .methodref 22 28), (0, .nameAndType 5 29), (0, u "([C)V"), (2, u "law"), (0, u "(IIIII)Z")] 3

def k1m0 : Method := { name := "<init>", desc := "()V", sig := { parameters := [], returnType := none }, accessFlags := 1, code := none }
def k1c1 : Code := { maxStack := 4, maxLocals := 12, code := code, exceptionTable := #[], attributes := #[] }
def k1m1 : Method := { name := "law", desc := "(IIIII)Z", sig := { parameters := [.int, .int, .int, .int, .int], returnType := some .boolean }, accessFlags := 9, code := some k1c1 }
def k1c2 : Code := { maxStack := 6, maxLocals := 4, code := method_3_code, exceptionTable := #[], attributes := #[] }
def k1m2 : Method := { name := "make", desc := "(ICCC)Ljava/lang/String;", sig := { parameters := [.int, .char, .char, .char], returnType := some (.object "java/lang/String") }, accessFlags := 10, code := some k1c2 }
/-- com/example/sakimono/sakimono/StreamsPlaceNamePinLaw -/
def k1 : Class := { plain "com/example/sakimono/sakimono/StreamsPlaceNamePinLaw" (some 0) with
  accessFlags := 49
  interfaces := #[]
  cf := some (fileOf pool1 8 #[] #[{ accessFlags := 1, nameIndex := 5, descriptorIndex := 6, attributes := #[] }, { accessFlags := 9, nameIndex := 32, descriptorIndex := 33, attributes := #[] }, { accessFlags := 10, nameIndex := 11, descriptorIndex := 12, attributes := #[] }] 49 2 #[] #[])
  fields := #[]
  methods := #[k1m0, k1m1, k1m2]
  instanceTypes := #[]
  staticTypes := #[]
  resolved := Array.replicate 37 none
  statics := none }

def pool2 : Array CpInfo := pool [(1, .class_ 2), (0, u "java/io/Serializable"), (0, .class_ 4), (0, u "java/lang/Object")] 2

/-- java/io/Serializable -/
def k2 : Class := { plain "java/io/Serializable" (some 0) with
  accessFlags := 1537
  interfaces := #[]
  cf := some (fileOf pool2 1 #[] #[] 1537 3 #[] #[])
  fields := #[]
  methods := #[]
  instanceTypes := #[]
  staticTypes := #[]
  resolved := Array.replicate 7 none
  statics := none }

def pool3 : Array CpInfo := pool [(1, .class_ 2), (0, u "java/lang/Comparable"), (0, .class_ 4), (0, u "java/lang/Object")] 7

/-- java/lang/Comparable -/
def k3 : Class := { plain "java/lang/Comparable" (some 0) with
  accessFlags := 1537
  interfaces := #[]
  cf := some (fileOf pool3 1 #[] #[] 1537 3 #[] #[])
  fields := #[]
  methods := #[]
  instanceTypes := #[]
  staticTypes := #[]
  resolved := Array.replicate 12 none
  statics := none }

def pool4 : Array CpInfo := pool [(2, .class_ 4), (1, u "java/lang/CharSequence"), (42, .class_ 48), (0, u "java/lang/CharSequence$1CodePointIterator"), (10, .class_ 60), (0, u "java/lang/CharSequence$1CharIterator"), (5, .class_ 67), (0, u "java/lang/Object")] 63

/-- java/lang/CharSequence -/
def k4 : Class := { plain "java/lang/CharSequence" (some 0) with
  accessFlags := 1537
  interfaces := #[]
  cf := some (fileOf pool4 2 #[.nestMembers #[47, 59]] #[] 1537 66 #[] #[])
  fields := #[]
  methods := #[]
  instanceTypes := #[]
  staticTypes := #[]
  resolved := Array.replicate 131 none
  statics := none }

def pool5 : Array CpInfo := pool [(1, .class_ 2), (0, u "java/lang/constant/Constable"), (0, .class_ 4), (0, u "java/lang/Object")] 6

/-- java/lang/constant/Constable -/
def k5 : Class := { plain "java/lang/constant/Constable" (some 0) with
  accessFlags := 1537
  interfaces := #[]
  cf := some (fileOf pool5 1 #[] #[] 1537 3 #[] #[])
  fields := #[]
  methods := #[]
  instanceTypes := #[]
  staticTypes := #[]
  resolved := Array.replicate 11 none
  statics := none }

def pool6 : Array CpInfo := pool [(1, .class_ 2), (0, u "java/lang/constant/ConstantDesc"), (0, .class_ 4), (0, u "java/lang/Object")] 32

/-- java/lang/constant/ConstantDesc -/
def k6 : Class := { plain "java/lang/constant/ConstantDesc" (some 0) with
  accessFlags := 1537
  interfaces := #[]
  cf := some (fileOf pool6 1 #[] #[] 1537 3 #[] #[])
  fields := #[]
  methods := #[]
  instanceTypes := #[]
  staticTypes := #[]
  resolved := Array.replicate 37 none
  statics := none }

def pool7 : Array CpInfo := pool [(1, .methodref 2 3), (0, .class_ 4), (0, .nameAndType 5 6), (0, u "java/lang/Object"), (0, u "<init>"), (0, u "()V"), (0, .string 8), (0, u ""), (0, .fieldref 10 11), (0, .class_ 12), (0, .nameAndType 13 14), (0, u "java/lang/String"), (0, u "value"), (0, u "[B"), (0, .fieldref 10 16), (0, .nameAndType 17 18), (0, u "coder"), (0, u "B"), (2, u "hash"), (0, u "I"), (2, u "hashIsZero"), (0, u "Z"), (0, .methodref 10 28), (0, .nameAndType 5 29), (0, u "([CIILjava/lang/Void;)V"), (8, .fieldref 10 39), (0, .nameAndType 40 26), (0, u "COMPACT_STRINGS"), (1, .class_ 44), (1, u "java/lang/StringUTF16"), (0, u "compress"), (1, .methodref 42 48), (0, .nameAndType 49 50), (0, u "coderFromArrayLen"), (0, u "([BI)B"), (56, .class_ 109), (1, u "java/lang/StringLatin1"), (67, .methodref 42 178), (0, .nameAndType 45 179), (0, u "([CII)[B"), (361, .methodref 107 542), (0, .nameAndType 543 544), (0, u "equals"), (0, u "([B[B)Z"), (28, u "(Ljava/lang/Object;)Z"), (1, .class_ 576), (0, u "java/lang/CharSequence"), (22, u "CASE_INSENSITIVE_ORDER"), (0, u "Ljava/util/Comparator;"), (409, u "([C)V"), (90, u "serialPersistentFields"), (0, u "[Ljava/io/ObjectStreamField;"), (0, .class_ 1104), (0, u "java/lang/String$CaseInsensitiveComparator"), (1, .class_ 1107), (0, u "java/io/Serializable"), (0, .class_ 1109), (0, u "java/lang/Comparable"), (0, .class_ 1111), (0, u "java/lang/constant/Constable"), (0, .class_ 1113), (0, u "java/lang/constant/ConstantDesc"), (2, u "serialVersionUID"), (0, u "J"), (3, u "REPL"), (0, u "C"), (2, u "LATIN1"), (1, u "UTF16")] 323

def k7m0 : Method := { name := "<init>", desc := "()V", sig := { parameters := [], returnType := none }, accessFlags := 1, code := none }
def k7c1 : Code := { maxStack := 5, maxLocals := 2, code := jdk_42_method_3_code, exceptionTable := #[], attributes := #[] }
def k7m1 : Method := { name := "<init>", desc := "([C)V", sig := { parameters := [(.array .char)], returnType := none }, accessFlags := 1, code := some k7c1 }
def k7c2 : Code := { maxStack := 2, maxLocals := 3, code := jdk_42_method_66_code, exceptionTable := #[], attributes := #[] }
def k7m2 : Method := { name := "equals", desc := "(Ljava/lang/Object;)Z", sig := { parameters := [(.object "java/lang/Object")], returnType := some .boolean }, accessFlags := 1, code := some k7c2 }
def k7c3 : Code := { maxStack := 4, maxLocals := 6, code := jdk_42_method_149_code, exceptionTable := #[], attributes := #[] }
def k7m3 : Method := { name := "<init>", desc := "([CIILjava/lang/Void;)V", sig := { parameters := [(.array .char), .int, .int, (.object "java/lang/Void")], returnType := none }, accessFlags := 2, code := some k7c3 }
/-- java/lang/String -/
def k7 : Class := { plain "java/lang/String" (some 0) with
  accessFlags := 49
  interfaces := #[2, 3, 4, 5, 6]
  cf := some (fileOf pool7 10 #[.nestMembers #[1103]] #[{ accessFlags := 1, nameIndex := 5, descriptorIndex := 6, attributes := #[] }, { accessFlags := 1, nameIndex := 5, descriptorIndex := 1010, attributes := #[] }, { accessFlags := 1, nameIndex := 543, descriptorIndex := 573, attributes := #[] }, { accessFlags := 2, nameIndex := 5, descriptorIndex := 29, attributes := #[] }] 49 2 #[1106, 1108, 575, 1110, 1112] #[{ accessFlags := 18, nameIndex := 13, descriptorIndex := 14, attributes := #[] }, { accessFlags := 18, nameIndex := 17, descriptorIndex := 18, attributes := #[] }, { accessFlags := 2, nameIndex := 21, descriptorIndex := 22, attributes := #[] }, { accessFlags := 2, nameIndex := 25, descriptorIndex := 26, attributes := #[] }, { accessFlags := 26, nameIndex := 1116, descriptorIndex := 1117, attributes := #[] }, { accessFlags := 24, nameIndex := 40, descriptorIndex := 26, attributes := #[] }, { accessFlags := 26, nameIndex := 1101, descriptorIndex := 1102, attributes := #[] }, { accessFlags := 26, nameIndex := 1121, descriptorIndex := 1122, attributes := #[] }, { accessFlags := 25, nameIndex := 599, descriptorIndex := 600, attributes := #[] }, { accessFlags := 24, nameIndex := 1125, descriptorIndex := 18, attributes := #[] }, { accessFlags := 24, nameIndex := 1127, descriptorIndex := 18, attributes := #[] }])
  fields := #[{ name := "value", type := (.array .byte), accessFlags := 18, slot := 0, constantValue := 0 }, { name := "coder", type := .byte, accessFlags := 18, slot := 1, constantValue := 0 }, { name := "hash", type := .int, accessFlags := 2, slot := 2, constantValue := 0 }, { name := "hashIsZero", type := .boolean, accessFlags := 2, slot := 3, constantValue := 0 }, { name := "serialVersionUID", type := .long, accessFlags := 26, slot := 0, constantValue := 0 }, { name := "COMPACT_STRINGS", type := .boolean, accessFlags := 24, slot := 1, constantValue := 0 }, { name := "serialPersistentFields", type := (.array (.object "java/io/ObjectStreamField")), accessFlags := 26, slot := 2, constantValue := 0 }, { name := "REPL", type := .char, accessFlags := 26, slot := 3, constantValue := 0 }, { name := "CASE_INSENSITIVE_ORDER", type := (.object "java/util/Comparator"), accessFlags := 25, slot := 4, constantValue := 0 }, { name := "LATIN1", type := .byte, accessFlags := 24, slot := 5, constantValue := 0 }, { name := "UTF16", type := .byte, accessFlags := 24, slot := 6, constantValue := 0 }]
  methods := #[k7m0, k7m1, k7m2, k7m3]
  instanceTypes := #[(.array .byte), .byte, .int, .boolean]
  staticTypes := #[.long, .boolean, (.array (.object "java/io/ObjectStreamField")), .char, (.object "java/util/Comparator"), .byte, .byte]
  resolved := Array.replicate 1451 none
  statics := some 0 }

def pool8 : Array CpInfo := pool [(2, .class_ 4), (1, u "java/lang/Object"), (3, .class_ 10), (1, u "com/example/sakimono/sakimono/Streams"), (0, u "in"), (0, u "Ljava/io/InputStream;"), (2, u "out"), (0, u "Ljava/io/PrintStream;"), (2, u "err"), (8, .class_ 30), (1, u "java/lang/String"), (43, u "(Ljava/lang/String;)Ljava/lang/String;"), (5, .string 81), (0, u "-"), (0, .methodref 28 83), (0, .nameAndType 84 85), (0, u "equals"), (0, u "(Ljava/lang/Object;)Z"), (25, .string 112), (0, u "standard input"), (18, u "MESSAGE_PREFIX"), (0, u "Ljava/lang/String;"), (1, u "STANDARD_INPUT"), (9, u "placeName")] 19

def k8c0 : Code := { maxStack := 2, maxLocals := 1, code := prog_53_method_5_code, exceptionTable := #[], attributes := #[] }
def k8m0 : Method := { name := "placeName", desc := "(Ljava/lang/String;)Ljava/lang/String;", sig := { parameters := [(.object "java/lang/String")], returnType := some (.object "java/lang/String") }, accessFlags := 8, code := some k8c0 }
/-- com/example/sakimono/sakimono/Streams -/
def k8 : Class := { plain "com/example/sakimono/sakimono/Streams" (some 0) with
  accessFlags := 48
  interfaces := #[]
  cf := some (fileOf pool8 8 #[] #[{ accessFlags := 8, nameIndex := 144, descriptorIndex := 74, attributes := #[] }] 48 2 #[] #[{ accessFlags := 24, nameIndex := 131, descriptorIndex := 132, attributes := #[] }, { accessFlags := 24, nameIndex := 134, descriptorIndex := 132, attributes := #[] }, { accessFlags := 16, nameIndex := 11, descriptorIndex := 12, attributes := #[] }, { accessFlags := 16, nameIndex := 15, descriptorIndex := 16, attributes := #[] }, { accessFlags := 18, nameIndex := 19, descriptorIndex := 16, attributes := #[] }])
  fields := #[{ name := "MESSAGE_PREFIX", type := (.object "java/lang/String"), accessFlags := 24, slot := 0, constantValue := 0 }, { name := "STANDARD_INPUT", type := (.object "java/lang/String"), accessFlags := 24, slot := 1, constantValue := 0 }, { name := "in", type := (.object "java/io/InputStream"), accessFlags := 16, slot := 0, constantValue := 0 }, { name := "out", type := (.object "java/io/PrintStream"), accessFlags := 16, slot := 1, constantValue := 0 }, { name := "err", type := (.object "java/io/PrintStream"), accessFlags := 18, slot := 2, constantValue := 0 }]
  methods := #[k8m0]
  instanceTypes := #[(.object "java/io/InputStream"), (.object "java/io/PrintStream"), (.object "java/io/PrintStream")]
  staticTypes := #[(.object "java/lang/String"), (.object "java/lang/String")]
  resolved := Array.replicate 164 none
  statics := none }

def pool9 : Array CpInfo := pool [(4, .class_ 6), (1, u "java/lang/Object"), (0, u "<init>"), (0, u "()V"), (5, .class_ 16), (1, u "java/lang/StringLatin1"), (104, u "$assertionsDisabled"), (0, u "Z"), (98, .class_ 223), (1, u "java/lang/StringLatin1$LinesSpliterator"), (57, u "equals"), (0, u "([B[B)Z"), (107, .class_ 391), (0, u "java/lang/StringLatin1$CharsSpliterator")] 3

def k9m0 : Method := { name := "<init>", desc := "()V", sig := { parameters := [], returnType := none }, accessFlags := 0, code := none }
def k9c1 : Code := { maxStack := 3, maxLocals := 3, code := jdk_43_method_13_code, exceptionTable := #[], attributes := #[] }
def k9m1 : Method := { name := "equals", desc := "([B[B)Z", sig := { parameters := [(.array .byte), (.array .byte)], returnType := some .boolean }, accessFlags := 9, code := some k9c1 }
/-- java/lang/StringLatin1 -/
def k9 : Class := { plain "java/lang/StringLatin1" (some 0) with
  accessFlags := 48
  interfaces := #[]
  cf := some (fileOf pool9 14 #[.nestMembers #[390, 221]] #[{ accessFlags := 0, nameIndex := 7, descriptorIndex := 8, attributes := #[] }, { accessFlags := 9, nameIndex := 281, descriptorIndex := 282, attributes := #[] }] 48 4 #[] #[{ accessFlags := 4120, nameIndex := 121, descriptorIndex := 122, attributes := #[] }])
  fields := #[{ name := "$assertionsDisabled", type := .boolean, accessFlags := 4120, slot := 0, constantValue := 0 }]
  methods := #[k9m0, k9m1]
  instanceTypes := #[]
  staticTypes := #[.boolean]
  resolved := Array.replicate 395 none
  statics := none }

def pool10 : Array CpInfo := pool [(6, .class_ 8), (1, u "java/lang/Object"), (0, u "<init>"), (0, u "()V"), (1, .class_ 14), (1, u "java/lang/StringUTF16"), (31, u "$assertionsDisabled"), (0, u "Z"), (13, u "HI_BYTE_SHIFT"), (0, u "I"), (2, u "LO_BYTE_SHIFT"), (49, .methodref 12 116), (0, .nameAndType 117 118), (0, u "compress"), (0, u "([CI[BII)I"), (3, u "([CII)[B"), (138, u "coderFromArrayLen"), (0, u "([BI)B"), (106, .class_ 371), (1, u "java/lang/StringUTF16$LinesSpliterator"), (58, u "MAX_LENGTH"), (196, .class_ 628), (0, u "java/lang/StringUTF16$CodePointsSpliterator"), (0, .class_ 630), (0, u "java/lang/StringUTF16$CharsSpliterator")] 4

def k10m0 : Method := { name := "<init>", desc := "()V", sig := { parameters := [], returnType := none }, accessFlags := 0, code := none }
def k10c1 : Code := { maxStack := 2, maxLocals := 2, code := jdk_52_method_15_code, exceptionTable := #[], attributes := #[] }
def k10m1 : Method := { name := "coderFromArrayLen", desc := "([BI)B", sig := { parameters := [(.array .byte), .int], returnType := some .byte }, accessFlags := 8, code := some k10c1 }
def k10c2 : Code := { maxStack := 5, maxLocals := 6, code := jdk_52_method_16_code, exceptionTable := #[], attributes := #[] }
def k10m2 : Method := { name := "compress", desc := "([CII)[B", sig := { parameters := [(.array .char), .int, .int], returnType := some (.array .byte) }, accessFlags := 9, code := some k10c2 }
def k10c3 : Code := { maxStack := 3, maxLocals := 7, code := jdk_52_method_21_code, exceptionTable := #[], attributes := #[] }
def k10m3 : Method := { name := "compress", desc := "([CI[BII)I", sig := { parameters := [(.array .char), .int, (.array .byte), .int, .int], returnType := some .int }, accessFlags := 9, code := some k10c3 }
/-- java/lang/StringUTF16 -/
def k10 : Class := { plain "java/lang/StringUTF16" (some 0) with
  accessFlags := 48
  interfaces := #[]
  cf := some (fileOf pool10 12 #[.nestMembers #[627, 629, 369]] #[{ accessFlags := 0, nameIndex := 9, descriptorIndex := 10, attributes := #[] }, { accessFlags := 8, nameIndex := 261, descriptorIndex := 262, attributes := #[] }, { accessFlags := 9, nameIndex := 117, descriptorIndex := 122, attributes := #[] }, { accessFlags := 9, nameIndex := 117, descriptorIndex := 118, attributes := #[] }] 48 6 #[] #[{ accessFlags := 26, nameIndex := 61, descriptorIndex := 62, attributes := #[] }, { accessFlags := 26, nameIndex := 65, descriptorIndex := 62, attributes := #[] }, { accessFlags := 24, nameIndex := 430, descriptorIndex := 62, attributes := #[] }, { accessFlags := 4120, nameIndex := 46, descriptorIndex := 47, attributes := #[] }])
  fields := #[{ name := "HI_BYTE_SHIFT", type := .int, accessFlags := 26, slot := 0, constantValue := 0 }, { name := "LO_BYTE_SHIFT", type := .int, accessFlags := 26, slot := 1, constantValue := 0 }, { name := "MAX_LENGTH", type := .int, accessFlags := 24, slot := 2, constantValue := 0 }, { name := "$assertionsDisabled", type := .boolean, accessFlags := 4120, slot := 3, constantValue := 0 }]
  methods := #[k10m0, k10m1, k10m2, k10m3]
  instanceTypes := #[]
  staticTypes := #[.int, .int, .int, .boolean]
  resolved := Array.replicate 635 none
  statics := none }

def pool11 : Array CpInfo := pool [(2, .class_ 4), (1, u "java/lang/Object"), (0, u "<init>"), (0, u "()V"), (17, .class_ 26), (1, u "jdk/internal/util/Preconditions"), (28, .class_ 56), (0, u "jdk/internal/util/Preconditions$4"), (57, .class_ 115), (0, u "jdk/internal/util/Preconditions$1"), (7, u "SIOOBE_FORMATTER"), (0, u "Ljava/util/function/BiFunction;"), (0, .class_ 126), (0, u "jdk/internal/util/Preconditions$2"), (3, u "AIOOBE_FORMATTER"), (0, .class_ 132), (0, u "jdk/internal/util/Preconditions$3"), (3, u "IOOBE_FORMATTER")] 57

def k11m0 : Method := { name := "<init>", desc := "()V", sig := { parameters := [], returnType := none }, accessFlags := 1, code := none }
/-- jdk/internal/util/Preconditions -/
def k11 : Class := { plain "jdk/internal/util/Preconditions" (some 0) with
  accessFlags := 33
  interfaces := #[]
  cf := some (fileOf pool11 24 #[.nestMembers #[55, 131, 125, 114]] #[{ accessFlags := 1, nameIndex := 5, descriptorIndex := 6, attributes := #[] }] 33 2 #[] #[{ accessFlags := 25, nameIndex := 123, descriptorIndex := 124, attributes := #[] }, { accessFlags := 25, nameIndex := 130, descriptorIndex := 124, attributes := #[] }, { accessFlags := 25, nameIndex := 136, descriptorIndex := 124, attributes := #[] }])
  fields := #[{ name := "SIOOBE_FORMATTER", type := (.object "java/util/function/BiFunction"), accessFlags := 25, slot := 0, constantValue := 0 }, { name := "AIOOBE_FORMATTER", type := (.object "java/util/function/BiFunction"), accessFlags := 25, slot := 1, constantValue := 0 }, { name := "IOOBE_FORMATTER", type := (.object "java/util/function/BiFunction"), accessFlags := 25, slot := 2, constantValue := 0 }]
  methods := #[k11m0]
  instanceTypes := #[]
  staticTypes := #[(.object "java/util/function/BiFunction"), (.object "java/util/function/BiFunction"), (.object "java/util/function/BiFunction")]
  resolved := Array.replicate 194 none
  statics := some 1 }

def pool12 : Array CpInfo := pool [(9, u "<init>"), (6, .class_ 18), (1, u "java/lang/Object"), (0, u "()V"), (1, .class_ 23), (1, u "jdk/internal/util/ArraysSupport"), (0, u "LOG2_ARRAY_LONG_INDEX_SCALE"), (0, u "I"), (2, u "U"), (0, u "Ljdk/internal/misc/Unsafe;"), (8, u "BIG_ENDIAN"), (0, u "Z"), (8, u "LOG2_BYTE_BIT_SIZE"), (4, u "LOG2_ARRAY_INT_INDEX_SCALE"), (54, u "JLA"), (0, u "Ljdk/internal/access/JavaLangAccess;"), (11, u "LOG2_ARRAY_BOOLEAN_INDEX_SCALE"), (9, u "LOG2_ARRAY_BYTE_INDEX_SCALE"), (5, u "LOG2_ARRAY_CHAR_INDEX_SCALE"), (5, u "LOG2_ARRAY_SHORT_INDEX_SCALE"), (18, u "LOG2_ARRAY_FLOAT_INDEX_SCALE"), (24, u "LOG2_ARRAY_DOUBLE_INDEX_SCALE"), (89, u "T_BOOLEAN"), (2, u "T_CHAR"), (1, u "T_FLOAT"), (1, u "T_DOUBLE"), (1, u "T_BYTE"), (1, u "T_SHORT"), (1, u "T_INT"), (1, u "T_LONG"), (1, u "SOFT_MAX_ARRAY_LENGTH")] 83

def k12m0 : Method := { name := "<init>", desc := "()V", sig := { parameters := [], returnType := none }, accessFlags := 2, code := none }
/-- jdk/internal/util/ArraysSupport -/
def k12 : Class := { plain "jdk/internal/util/ArraysSupport" (some 0) with
  accessFlags := 33
  interfaces := #[]
  cf := some (fileOf pool12 21 #[] #[{ accessFlags := 2, nameIndex := 9, descriptorIndex := 19, attributes := #[] }] 33 16 #[] #[{ accessFlags := 24, nameIndex := 28, descriptorIndex := 29, attributes := #[] }, { accessFlags := 26, nameIndex := 38, descriptorIndex := 39, attributes := #[] }, { accessFlags := 25, nameIndex := 121, descriptorIndex := 25, attributes := #[] }, { accessFlags := 25, nameIndex := 131, descriptorIndex := 25, attributes := #[] }, { accessFlags := 25, nameIndex := 137, descriptorIndex := 25, attributes := #[] }, { accessFlags := 25, nameIndex := 143, descriptorIndex := 25, attributes := #[] }, { accessFlags := 25, nameIndex := 53, descriptorIndex := 25, attributes := #[] }, { accessFlags := 25, nameIndex := 24, descriptorIndex := 25, attributes := #[] }, { accessFlags := 25, nameIndex := 162, descriptorIndex := 25, attributes := #[] }, { accessFlags := 25, nameIndex := 187, descriptorIndex := 25, attributes := #[] }, { accessFlags := 26, nameIndex := 48, descriptorIndex := 25, attributes := #[] }, { accessFlags := 25, nameIndex := 277, descriptorIndex := 25, attributes := #[] }, { accessFlags := 25, nameIndex := 280, descriptorIndex := 25, attributes := #[] }, { accessFlags := 25, nameIndex := 282, descriptorIndex := 25, attributes := #[] }, { accessFlags := 25, nameIndex := 284, descriptorIndex := 25, attributes := #[] }, { accessFlags := 25, nameIndex := 286, descriptorIndex := 25, attributes := #[] }, { accessFlags := 25, nameIndex := 288, descriptorIndex := 25, attributes := #[] }, { accessFlags := 25, nameIndex := 290, descriptorIndex := 25, attributes := #[] }, { accessFlags := 25, nameIndex := 292, descriptorIndex := 25, attributes := #[] }, { accessFlags := 26, nameIndex := 108, descriptorIndex := 109, attributes := #[] }, { accessFlags := 25, nameIndex := 294, descriptorIndex := 25, attributes := #[] }])
  fields := #[{ name := "U", type := (.object "jdk/internal/misc/Unsafe"), accessFlags := 24, slot := 0, constantValue := 0 }, { name := "BIG_ENDIAN", type := .boolean, accessFlags := 26, slot := 1, constantValue := 0 }, { name := "LOG2_ARRAY_BOOLEAN_INDEX_SCALE", type := .int, accessFlags := 25, slot := 2, constantValue := 0 }, { name := "LOG2_ARRAY_BYTE_INDEX_SCALE", type := .int, accessFlags := 25, slot := 3, constantValue := 0 }, { name := "LOG2_ARRAY_CHAR_INDEX_SCALE", type := .int, accessFlags := 25, slot := 4, constantValue := 0 }, { name := "LOG2_ARRAY_SHORT_INDEX_SCALE", type := .int, accessFlags := 25, slot := 5, constantValue := 0 }, { name := "LOG2_ARRAY_INT_INDEX_SCALE", type := .int, accessFlags := 25, slot := 6, constantValue := 0 }, { name := "LOG2_ARRAY_LONG_INDEX_SCALE", type := .int, accessFlags := 25, slot := 7, constantValue := 0 }, { name := "LOG2_ARRAY_FLOAT_INDEX_SCALE", type := .int, accessFlags := 25, slot := 8, constantValue := 0 }, { name := "LOG2_ARRAY_DOUBLE_INDEX_SCALE", type := .int, accessFlags := 25, slot := 9, constantValue := 0 }, { name := "LOG2_BYTE_BIT_SIZE", type := .int, accessFlags := 26, slot := 10, constantValue := 0 }, { name := "T_BOOLEAN", type := .int, accessFlags := 25, slot := 11, constantValue := 0 }, { name := "T_CHAR", type := .int, accessFlags := 25, slot := 12, constantValue := 0 }, { name := "T_FLOAT", type := .int, accessFlags := 25, slot := 13, constantValue := 0 }, { name := "T_DOUBLE", type := .int, accessFlags := 25, slot := 14, constantValue := 0 }, { name := "T_BYTE", type := .int, accessFlags := 25, slot := 15, constantValue := 0 }, { name := "T_SHORT", type := .int, accessFlags := 25, slot := 16, constantValue := 0 }, { name := "T_INT", type := .int, accessFlags := 25, slot := 17, constantValue := 0 }, { name := "T_LONG", type := .int, accessFlags := 25, slot := 18, constantValue := 0 }, { name := "JLA", type := (.object "jdk/internal/access/JavaLangAccess"), accessFlags := 26, slot := 19, constantValue := 0 }, { name := "SOFT_MAX_ARRAY_LENGTH", type := .int, accessFlags := 25, slot := 20, constantValue := 0 }]
  methods := #[k12m0]
  instanceTypes := #[]
  staticTypes := #[(.object "jdk/internal/misc/Unsafe"), .boolean, .int, .int, .int, .int, .int, .int, .int, .int, .int, .int, .int, .int, .int, .int, .int, .int, .int, (.object "jdk/internal/access/JavaLangAccess"), .int]
  resolved := Array.replicate 378 none
  statics := none }

def pool13 : Array CpInfo := pool [(1, u "java/lang/Cloneable"), (0, .class_ 1), (0, u "java/lang/Object"), (0, .class_ 3)] 3

/-- java/lang/Cloneable -/
def k13 : Class := { plain "java/lang/Cloneable" (some 0) with
  accessFlags := 1537
  interfaces := #[]
  cf := some (fileOf pool13 2 #[] #[] 1537 4 #[] #[])
  fields := #[]
  methods := #[]
  instanceTypes := #[]
  staticTypes := #[]
  resolved := Array.replicate 8 none
  statics := none }

/-- the primitive byte -/
def k14 : Class := { plain "byte" none with kind := .primitive 'B', accessFlags := 0x411 }
/-- [B -/
def k15 : Class := { plain "[B" (some 0) with kind := .array 14 .byte, interfaces := #[13, 2], accessFlags := 1041 }

/-- the primitive char -/
def k16 : Class := { plain "char" none with kind := .primitive 'C', accessFlags := 0x411 }
/-- [C -/
def k17 : Class := { plain "[C" (some 0) with kind := .array 16 .char, interfaces := #[13, 2], accessFlags := 1041 }

/-- the primitive int -/
def k18 : Class := { plain "int" none with kind := .primitive 'I', accessFlags := 0x411 }
/-- [I -/
def k19 : Class := { plain "[I" (some 0) with kind := .array 18 .int, interfaces := #[13, 2], accessFlags := 1041 }

def heap : Heap := #[{ cls := 7, slots := #[.long 0, .int 1, .null, .int 0, .null, .int 0, .int 0], vm := .statics 7 },
  { cls := 11, slots := #[.null, .null, .null], vm := .statics 11 }]
def classes : Array Class := #[k0, k1, k2, k3, k4, k5, k6, k7, k8, k9, k10, k11, k12, k13, k14, k15, k16, k17, k18, k19]
def interned : List (Array UInt16 × Addr) := []
def slotsUsed : Nat := 10
def theMethod : MethodId := ⟨1, 1⟩
def args0 : Array Value := #[.int 5, .int 6, .int 7, .int 8, .int 9]
def aboutOver (below : List Frame) : State where
  vm := { classes := classes, interned := interned.toArray }
  heap := heap
  slotsUsed := slotsUsed
  threads := #[{ frames := .invoking theMethod args0 :: below }]
def below0 : List Frame := [.native { method := ⟨0, 0⟩, args := #[] }]
def about1 : State := aboutOver below0
def p0 : Program := .bare "" "" ""
def e0 : Env := launch0.env 0 0 0
theorem w_frames : about1.frames = Frame.invoking theMethod args0 :: below0 := rfl
set_option maxRecDepth 65536 in
theorem w_args : argsFit about1.vm theMethod args0 = true := by decide +kernel
set_option maxRecDepth 65536 in
theorem w_heap : heapFits about1 = true := by decide +kernel
set_option maxRecDepth 65536 in
theorem w_runnable : about1.curStatus? = some .runnable := by decide +kernel
set_option maxRecDepth 65536 in
theorem w_alone : about1.alone = true := by decide +kernel
set_option maxRecDepth 65536 in
theorem w_named : about1.methodNamed? x = some theMethod := by decide +kernel
set_option maxRecDepth 65536 in
theorem w_hears : about1.hears theMethod below0 = true := by decide +kernel
set_option maxRecDepth 65536 in
theorem w_ripe : about1.ripe theMethod args0 below0 = true := by decide +kernel
theorem w_running : about1.status = .running := rfl
set_option maxRecDepth 65536 in
theorem w_room : about1.hasRoom e0.platform room_1 = true :=
  launch0.hasRoom_least _ room_1 (by decide +kernel) (by decide +kernel) (by decide +kernel) (by decide +kernel) (by decide +kernel) (by decide +kernel)
theorem allAtoms_all (ts : List Jvm.Cond) (a : Array Jvm.Value) (st : Jvm.State) : (allAtoms ts).before a st = ts.all (fun c => c.before a st) := by
  induction ts with
  | nil => rfl
  | cons c t ih =>
    show (Jvm.Cond.and c (allAtoms t)).before a st = _
    rw [Jvm.Cond.before_and, ih, List.all_cons]
def words1 : List Jvm.Cond := Jvm.Cond.code x code maxLocals ret :: tables_1
/-- a 'code' word, met by the world's own term for the bytes: nothing is compared byte by byte -/
theorem code_word {y : MethodName} {bytes : ByteArray} {mx : Nat} {rt : Option FieldType} {a : Array Value} {s : State} {m : MethodId} {meth : Method} {c : Code} (h1 : s.methodNamed? y = some m) (h2 : s.vm.method? m = some meth) (h3 : meth.code = some c) (h4 : c.code = bytes)
    (h5 : (c.maxLocals == mx && c.exceptionTable.isEmpty && decide (c.maxStack ≤ mostOperands) && decide (meth.sig.returnType = rt) && !meth.locks && decide (parseMethodDescriptor y.desc = some meth.sig)) = true) : (Jvm.Cond.code y bytes mx rt).before a s = true := by
  simp only [Bool.and_eq_true, beq_iff_eq, Bool.not_eq_true', decide_eq_true_eq] at h5
  obtain ⟨⟨⟨⟨⟨g1, g2⟩, g3⟩, g4⟩, g5⟩, g6⟩ := h5
  simp [Cond.before, Cond.holds, Cond.value, h1, h2, h3, h4, g1, g2, g3, g4, g5, g6]
def isCode : Jvm.Cond → Bool
  | .code _ _ _ _ => true
  | _ => false
theorem all_split {L : List Jvm.Cond} {P : Jvm.Cond → Bool} (h1 : L.all (fun c => isCode c || P c) = true) (h2 : ∀ c ∈ L.filter isCode, P c = true) : L.all P = true := by
  refine List.all_eq_true.mpr fun c hc => ?_
  have h := List.all_eq_true.mp h1 c hc
  rcases Bool.eq_false_or_eq_true (isCode c) with hi | hi
  · exact h2 c (List.mem_filter.mpr ⟨hc, hi⟩)
  · simpa [hi] using h
set_option maxRecDepth 65536 in
theorem w_c0 : (Jvm.Cond.code x code maxLocals ret).before args0 about1 = true := code_word (m := ⟨1, 1⟩) (meth := k1m1) (c := k1c1) (by decide +kernel) rfl rfl rfl (by decide +kernel)
set_option maxRecDepth 65536 in
theorem w_c1 : (Jvm.Cond.code ({ cls := "com/example/sakimono/sakimono/StreamsPlaceNamePinLaw", name := "make", desc := "(ICCC)Ljava/lang/String;" } : Jvm.MethodName) method_3_code (4 : Nat) (Option.some (Jvm.ClassFile.FieldType.object "java/lang/String"))).before args0 about1 = true := code_word (m := ⟨1, 2⟩) (meth := k1m2) (c := k1c2) (by decide +kernel) rfl rfl rfl (by decide +kernel)
set_option maxRecDepth 65536 in
theorem w_c2 : (Jvm.Cond.code ({ cls := "java/lang/String", name := "<init>", desc := "([C)V" } : Jvm.MethodName) jdk_42_method_3_code (2 : Nat) (Option.none : Option Jvm.ClassFile.FieldType)).before args0 about1 = true := code_word (m := ⟨7, 1⟩) (meth := k7m1) (c := k7c1) (by decide +kernel) rfl rfl rfl (by decide +kernel)
set_option maxRecDepth 65536 in
theorem w_c3 : (Jvm.Cond.code ({ cls := "java/lang/String", name := "<init>", desc := "([CIILjava/lang/Void;)V" } : Jvm.MethodName) jdk_42_method_149_code (6 : Nat) (Option.none : Option Jvm.ClassFile.FieldType)).before args0 about1 = true := code_word (m := ⟨7, 3⟩) (meth := k7m3) (c := k7c3) (by decide +kernel) rfl rfl rfl (by decide +kernel)
set_option maxRecDepth 65536 in
theorem w_c4 : (Jvm.Cond.code ({ cls := "java/lang/Object", name := "<init>", desc := "()V" } : Jvm.MethodName) object_method_1_code (1 : Nat) (Option.none : Option Jvm.ClassFile.FieldType)).before args0 about1 = true := code_word (m := ⟨0, 0⟩) (meth := k0m0) (c := k0c0) (by decide +kernel) rfl rfl rfl (by decide +kernel)
set_option maxRecDepth 65536 in
theorem w_c5 : (Jvm.Cond.code ({ cls := "com/example/sakimono/sakimono/Streams", name := "placeName", desc := "(Ljava/lang/String;)Ljava/lang/String;" } : Jvm.MethodName) prog_53_method_5_code (1 : Nat) (Option.some (Jvm.ClassFile.FieldType.object "java/lang/String"))).before args0 about1 = true := code_word (m := ⟨8, 0⟩) (meth := k8m0) (c := k8c0) (by decide +kernel) rfl rfl rfl (by decide +kernel)
set_option maxRecDepth 65536 in
theorem w_c6 : (Jvm.Cond.code ({ cls := "java/lang/String", name := "equals", desc := "(Ljava/lang/Object;)Z" } : Jvm.MethodName) jdk_42_method_66_code (3 : Nat) (Option.some Jvm.ClassFile.FieldType.boolean)).before args0 about1 = true := code_word (m := ⟨7, 2⟩) (meth := k7m2) (c := k7c2) (by decide +kernel) rfl rfl rfl (by decide +kernel)
set_option maxRecDepth 65536 in
theorem w_c7 : (Jvm.Cond.code ({ cls := "java/lang/StringLatin1", name := "equals", desc := "([B[B)Z" } : Jvm.MethodName) jdk_43_method_13_code (3 : Nat) (Option.some Jvm.ClassFile.FieldType.boolean)).before args0 about1 = true := code_word (m := ⟨9, 1⟩) (meth := k9m1) (c := k9c1) (by decide +kernel) rfl rfl rfl (by decide +kernel)
set_option maxRecDepth 65536 in
theorem w_c8 : (Jvm.Cond.code ({ cls := "java/lang/StringUTF16", name := "compress", desc := "([CII)[B" } : Jvm.MethodName) jdk_52_method_16_code (6 : Nat) (Option.some (Jvm.ClassFile.FieldType.array Jvm.ClassFile.FieldType.byte))).before args0 about1 = true := code_word (m := ⟨10, 2⟩) (meth := k10m2) (c := k10c2) (by decide +kernel) rfl rfl rfl (by decide +kernel)
set_option maxRecDepth 65536 in
theorem w_c9 : (Jvm.Cond.code ({ cls := "java/lang/StringUTF16", name := "compress", desc := "([CI[BII)I" } : Jvm.MethodName) jdk_52_method_21_code (7 : Nat) (Option.some Jvm.ClassFile.FieldType.int)).before args0 about1 = true := code_word (m := ⟨10, 3⟩) (meth := k10m3) (c := k10c3) (by decide +kernel) rfl rfl rfl (by decide +kernel)
set_option maxRecDepth 65536 in
theorem w_c10 : (Jvm.Cond.code ({ cls := "java/lang/StringUTF16", name := "coderFromArrayLen", desc := "([BI)B" } : Jvm.MethodName) jdk_52_method_15_code (2 : Nat) (Option.some Jvm.ClassFile.FieldType.byte)).before args0 about1 = true := code_word (m := ⟨10, 1⟩) (meth := k10m1) (c := k10c1) (by decide +kernel) rfl rfl rfl (by decide +kernel)
def codes1 : List Jvm.Cond := [Jvm.Cond.code x code maxLocals ret, Jvm.Cond.code ({ cls := "com/example/sakimono/sakimono/StreamsPlaceNamePinLaw", name := "make", desc := "(ICCC)Ljava/lang/String;" } : Jvm.MethodName) method_3_code (4 : Nat) (Option.some (Jvm.ClassFile.FieldType.object "java/lang/String")), Jvm.Cond.code ({ cls := "java/lang/String", name := "<init>", desc := "([C)V" } : Jvm.MethodName) jdk_42_method_3_code (2 : Nat) (Option.none : Option Jvm.ClassFile.FieldType), Jvm.Cond.code ({ cls := "java/lang/String", name := "<init>", desc := "([CIILjava/lang/Void;)V" } : Jvm.MethodName) jdk_42_method_149_code (6 : Nat) (Option.none : Option Jvm.ClassFile.FieldType), Jvm.Cond.code ({ cls := "java/lang/Object", name := "<init>", desc := "()V" } : Jvm.MethodName) object_method_1_code (1 : Nat) (Option.none : Option Jvm.ClassFile.FieldType), Jvm.Cond.code ({ cls := "com/example/sakimono/sakimono/Streams", name := "placeName", desc := "(Ljava/lang/String;)Ljava/lang/String;" } : Jvm.MethodName) prog_53_method_5_code (1 : Nat) (Option.some (Jvm.ClassFile.FieldType.object "java/lang/String")), Jvm.Cond.code ({ cls := "java/lang/String", name := "equals", desc := "(Ljava/lang/Object;)Z" } : Jvm.MethodName) jdk_42_method_66_code (3 : Nat) (Option.some Jvm.ClassFile.FieldType.boolean), Jvm.Cond.code ({ cls := "java/lang/StringLatin1", name := "equals", desc := "([B[B)Z" } : Jvm.MethodName) jdk_43_method_13_code (3 : Nat) (Option.some Jvm.ClassFile.FieldType.boolean), Jvm.Cond.code ({ cls := "java/lang/StringUTF16", name := "compress", desc := "([CII)[B" } : Jvm.MethodName) jdk_52_method_16_code (6 : Nat) (Option.some (Jvm.ClassFile.FieldType.array Jvm.ClassFile.FieldType.byte)), Jvm.Cond.code ({ cls := "java/lang/StringUTF16", name := "compress", desc := "([CI[BII)I" } : Jvm.MethodName) jdk_52_method_21_code (7 : Nat) (Option.some Jvm.ClassFile.FieldType.int), Jvm.Cond.code ({ cls := "java/lang/StringUTF16", name := "coderFromArrayLen", desc := "([BI)B" } : Jvm.MethodName) jdk_52_method_15_code (2 : Nat) (Option.some Jvm.ClassFile.FieldType.byte)]
set_option maxRecDepth 65536 in
theorem codes_eq : words1.filter isCode = codes1 := rfl
theorem w_codes : ∀ c ∈ words1.filter isCode, c.before args0 about1 = true := by
  rw [codes_eq]
  intro c hc
  simp only [codes1, List.mem_cons, List.not_mem_nil, or_false] at hc
  rcases hc with rfl | rfl | rfl | rfl | rfl | rfl | rfl | rfl | rfl | rfl | rfl
  · exact w_c0
  · exact w_c1
  · exact w_c2
  · exact w_c3
  · exact w_c4
  · exact w_c5
  · exact w_c6
  · exact w_c7
  · exact w_c8
  · exact w_c9
  · exact w_c10
set_option maxRecDepth 65536 in
theorem w_t1 : (words1.take 24).all (fun c => isCode c || c.before args0 about1) = true := by decide +kernel
set_option maxRecDepth 65536 in
theorem w_t2 : ((words1.drop 24).take 24).all (fun c => isCode c || c.before args0 about1) = true := by decide +kernel
set_option maxRecDepth 65536 in
theorem w_t3 : ((words1.drop 24).drop 24).all (fun c => isCode c || c.before args0 about1) = true := by decide +kernel
theorem w_tables : (allAtoms (Jvm.Cond.code x code maxLocals ret :: tables_1)).before args0 about1 = true := by
  rw [allAtoms_all]
  show words1.all (fun c => c.before args0 about1) = true
  refine all_split ?_ w_codes
  rw [← List.take_append_drop 24 words1, List.all_append, w_t1, ← List.take_append_drop 24 (words1.drop 24), List.all_append, w_t2, w_t3]
  rfl
set_option maxRecDepth 65536 in
theorem w_rest : rest_1_c.before args0 about1 = true := by decide +kernel
set_option maxRecDepth 65536 in
theorem w_case : (Jvm.Cond.and given_1 narrow_1).before args0 about1 = true := by decide +kernel
set_option maxRecDepth 65536 in
theorem w_consts : constsHeld consts_1 about1 := Jvm.Lit.constsHeldB_iff.mp (by decide +kernel)
theorem w_applies : (headSpec (Jvm.Cond.code x code maxLocals ret :: tables_1) room_1).applies x e0.platform about1 = true :=
  (Spec.applies_iff w_frames).mpr ⟨w_running, w_runnable, w_alone, w_named, w_hears, w_ripe, w_room, w_tables⟩
theorem atStart : AtStart classFile x code maxLocals ret World_1 tables_1 room_1 Calls_1 rest_1 Pre_1 launch0 p0 e0 about1 theMethod args0 below0 :=
  ⟨lists_1, trivial, launch0.admits_env _ _ _, launch0.least_env, fairChoices_fair.cas, fairChoices_fair.clock, w_frames, w_args, w_heap, w_applies, ⟨w_consts, trivial⟩, w_rest, w_case⟩
end start1
theorem witness_1 : WitnessClaimed_1 := ⟨start1.p0, start1.e0, start1.about1, start1.theMethod, start1.args0, start1.below0, start1.atStart⟩
end Jvm.Pilot.@@N@@
