import JvmDerived
import JvmDerived.Pilot.@@N@@Statement
import JvmDerived.Pilot.@@N@@Code
set_option linter.unusedVariables false
set_option linter.unusedSimpArgs false
namespace Jvm.RoadKit
theorem Ext.refl (h : Heap) : Ext h h := ⟨Nat.le_refl _, fun _ _ q => q⟩
theorem Ext.trans {h h1 h2 : Heap} (A : Ext h h1) (B : Ext h1 h2) : Ext h h2 := ⟨Nat.le_trans A.1 B.1, fun a c q => B.2 a c (A.2 a c q)⟩
end Jvm.RoadKit
namespace Jvm.OwnKit
open Sem ClassFile Op Lib Jvm.Stand Jvm.Free Jvm.LawKit Jvm.RoadKit

/-- where the walk stands: the tables so far, nothing old written, the String constants held, the objects under construction -/
def St (p : Program) (l : Launch) (e : Env) (R : Room) (s : State) (m : MethodId) (args : Array Value) (below : List Frame) (meth : Method) (c : Code)
    (own : String) (bytes : ByteArray) (maxL : Nat) (ret : Option FieldType) (nm : String) (Z : State) (EL : List (String × Nat)) (nw : Bool) (us : List Addr)
    (T : State) (h : Heap) (cells slots : Nat) : Prop :=
  (p.tables.exec = Jvm.exec ∧ c.code = bytes ∧ c.maxLocals = maxL ∧ meth.sig.returnType = ret ∧ meth.name = nm ∧ meth.locks = false ∧ ∃ a0, EW Z a0 EL) ∧
  ∃ (vm0 : Vm) (locs : List Loc), Stand p l e R (s.setVm vm0) m args below meth c T locs cells slots ∧ Fr Z.heap.size locs ∧ T.heap = h ∧ s.Since vm0 h.size ∧
    Z.Warmed39 vm0 ∧ vm0.findClass own = some m.cls ∧ Ext Z.heap h ∧ CHr Z EL s.vm s.heap vm0 h ∧
    (∀ x ∈ us, Z.heap.size ≤ x ∧ x < h.size ∧ Safe Z EL vm0 h x) ∧ (nw = true → s.WarmedH vm0)

/-- from here the method returns, with Q of what it returns and of the heap it leaves -/
def Goes (p : Program) (e : Env) (below : List Frame) (s Z : State) (EL : List (String × Nat)) (nw : Bool) (Q : Option Value → Heap → Prop) (kk nn : Nat) (S : State) : Prop :=
  ∃ U o, Steps p.tables e below S U ∧ U.status = .running ∧ Ended U below o ∧ ∃ v L, o = .returned v ∧ Q v U.heap ∧ Fr Z.heap.size L ∧ Ext Z.heap U.heap ∧
    CHr Z EL s.vm s.heap U.vm U.heap ∧ ReturnedEndW s o U L kk nn ∧ (nw = true → s.WarmedH U.vm)

/-- the contract of a method for the arguments as' at the heap h -/
def Ctr (l : Launch) (Z : State) (EL : List (String × Nat)) (nw : Bool) (y : MethodName) (bytes : ByteArray) (maxL : Nat) (ret : Option FieldType) (rm : Room) (as' : Array Value) (h : Heap) (us : List Addr)
    (Q : Option Value → Heap → Prop) : Prop :=
  ∀ ws : List Jvm.Cond, MetFree l y (head1 (Jvm.Cond.code y bytes maxL ret :: ws) rm)
    (fun a U => a = as' ∧ Z.Warmed39 U.vm ∧ U.heap = h ∧ Ext Z.heap h ∧ CHv Z EL U.vm h ∧ ∀ x ∈ us, Z.heap.size ≤ x ∧ x < h.size ∧ Safe Z EL U.vm h x)
    (fun _ _ _ _ _ => True)
    (fun _ U o U' => ∃ v L, o = .returned v ∧ Q v U'.heap ∧ Fr Z.heap.size L ∧ Ext Z.heap U'.heap ∧ CHr Z EL U.vm U.heap U'.vm U'.heap ∧ ReturnedEndW U o U' L rm.cells rm.slots ∧ (nw = true → U.WarmedH U'.vm))

def PureQ (h : Heap) (Qv : Value → Prop) : Option Value → Heap → Prop := fun v h' => h' = h ∧ ∃ w, v = some w ∧ Qv w
def ValQ (Qv : Value → Heap → Prop) : Option Value → Heap → Prop := fun v h' => ∃ w, v = some w ∧ Qv w h'
def VoidQ (Qn : Heap → Prop) : Option Value → Heap → Prop := fun v h' => v = none ∧ Qn h'
section Base
variable {p : Program} {l : Launch} {e : Env} {R : Room} {s : State} {m : MethodId} {args : Array Value} {below : List Frame} {meth : Method} {c : Code}
  {own : String} {bytes : ByteArray} {maxL : Nat} {ret : Option FieldType} {nm : String} {Z : State} {EL : List (String × Nat)} {nw : Bool} {us : List Addr}
  {T : State} {h : Heap} {cells slots : Nat} {Q : Option Value → Heap → Prop} {kk nn : Nat} {a0 : Array Value}

theorem ext_keep {h h1 h2 : Heap} {ws : List Addr} (A : Ext h h1) (K : Keep h1 h2 ws) (q : ∀ x ∈ ws, h.size ≤ x) : Ext h h2 :=
  ⟨Nat.le_trans A.1 K.1, fun a c r => K.2.1 a c (A.2 a c r) fun z => absurd (Array.getElem?_eq_some_iff.mp r).1 (Nat.not_lt.mpr (q a z))⟩
theorem ext_wr {h h1 h2 : Heap} {a : Addr} {sl : Nat} {v : Value} (A : Ext h h1) (W : Wr h1 h2 a sl v) (q : h.size ≤ a) : Ext h h2 :=
  ext_keep A (Keep.of_wr W) (fun x hx => by cases List.mem_singleton.mp hx; exact q)
theorem nar_mask (x : Int32) : nar .char (x &&& 255) = x &&& 255 := i2c_mask x
theorem ref_nar {v : Value} {t : FieldType} (h : v.isRef = true) (ht : t.isReference = true) : narrow t v = v := by
  rcases ref_cases h with rfl | ⟨a, rfl⟩ <;> cases t <;> first | rfl | simp [FieldType.isReference] at ht
theorem ref_fit {v : Value} {t : FieldType} (h : v.isRef = true) (ht : t.isReference = true) : fits t v = true := by
  rcases ref_cases h with rfl | ⟨a, rfl⟩ <;> cases t <;> first | rfl | simp [FieldType.isReference] at ht
theorem Sta.keepN {h1 h2 : Heap} {C n d : String} {v : Value} {ws : List Addr} (F : Sta Z Z.heap C n d v) (E : Ext Z.heap h2) : Sta Z h2 C n d v := Sta.ext E F

theorem St.at (X : St p l e R s m args below meth c own bytes maxL ret nm Z EL nw us T h cells slots) : At T m c below := by obtain ⟨-, _, _, Y, -⟩ := X; exact Y.here
theorem St.std (X : St p l e R s m args below meth c own bytes maxL ret nm Z EL nw us T h cells slots) : ∃ vm0 locs, Stand p l e R (s.setVm vm0) m args below meth c T locs cells slots := by obtain ⟨-, vm0, locs, Y, -⟩ := X; exact ⟨vm0, locs, Y⟩
theorem St.hx (X : St p l e R s m args below meth c own bytes maxL ret nm Z EL nw us T h cells slots) : p.tables.exec = Jvm.exec := X.1.1
theorem St.by (X : St p l e R s m args below meth c own bytes maxL ret nm Z EL nw us T h cells slots) : c.code = bytes := X.1.2.1
theorem St.old (X : St p l e R s m args below meth c own bytes maxL ret nm Z EL nw us T h cells slots) : Ext Z.heap h := by obtain ⟨-, _, _, -, -, -, -, -, -, q, -⟩ := X; exact q
theorem St.new (X : St p l e R s m args below meth c own bytes maxL ret nm Z EL nw us T h cells slots) {x : Addr} (hx : x ∈ us) : Z.heap.size ≤ x ∧ x < h.size := by
  obtain ⟨-, _, _, -, -, -, -, -, -, -, -, q, -⟩ := X; exact ⟨(q x hx).1, (q x hx).2.1⟩
theorem St.mono (X : St p l e R s m args below meth c own bytes maxL ret nm Z EL nw us T h cells slots) {cells' slots' : Nat} (hc : cells ≤ cells') (hs : slots ≤ slots') : St p l e R s m args below meth c own bytes maxL ret nm Z EL nw us T h cells' slots' := by
  obtain ⟨cx, vm0, locs, Y, r⟩ := X
  exact ⟨cx, vm0, locs, Y.mono hc hs, r⟩
theorem St.sub (X : St p l e R s m args below meth c own bytes maxL ret nm Z EL nw us T h cells slots) {us' : List Addr} (q : ∀ x ∈ us', x ∈ us) : St p l e R s m args below meth c own bytes maxL ret nm Z EL nw us' T h cells slots := by
  obtain ⟨cx, vm0, locs, Y, r1, r2, r3, r4, r5, r6, r7, r8, r9⟩ := X
  exact ⟨cx, vm0, locs, Y, r1, r2, r3, r4, r5, r6, r7, fun x hx => r8 x (q x hx), r9⟩

theorem Goes.step {S S' : State} (f : ∀ t, Steps p.tables e below S' t → Steps p.tables e below S t) (K : Goes p e below s Z EL nw Q kk nn S') : Goes p e below s Z EL nw Q kk nn S := by
  obtain ⟨U, o, hs, r⟩ := K; exact ⟨U, o, f _ hs, r⟩
theorem Goes.imp {Q' : Option Value → Heap → Prop} {S : State} (f : ∀ v h, Q v h → Q' v h) (K : Goes p e below s Z EL nw Q kk nn S) : Goes p e below s Z EL nw Q' kk nn S := by
  obtain ⟨U, o, h1, h2, h3, v, L, h4, h5, r⟩ := K; exact ⟨U, o, h1, h2, h3, v, L, h4, f _ _ h5, r⟩

/-- entering a method -/
theorem Ctr.enter {y : MethodName} {rm : Room} {as' : Array Value} (h1 : y.cls = own) (h2 : y.name = nm) (hEL : EW Z a0 EL) (hn : plainFor y = true) (Ls : Array Slot) (ef : ∀ m, entryFrame m as' maxL = mkF m 0 Ls [])
    (body : ∀ (p : Program) (e : Env) (s : State) (m : MethodId) (below : List Frame) (meth : Method) (c : Code) (T : State),
      St p l e rm s m as' below meth c own bytes maxL ret nm Z EL nw us T h 0 0 → Goes p e below s Z EL nw Q rm.cells rm.slots (T.setTop (mkF m 0 Ls []))) :
    Ctr l Z EL nw y bytes maxL ret rm as' h us Q := by
  subst h1 h2
  intro ws
  refine MetFree.of_bodySF hn hisR ?_
  intro p e s m args below meth c s₁ Bd hml0 hP _
  obtain ⟨rfl, hZ, hh, hE, hC, hU⟩ := hP
  have hnm := (name_of_methodNamed Bd.named Bd.method).1
  have hown : s.vm.findClass y.cls = some m.cls := findClass_of_methodNamed Bd.named
  have e0 : s₁.heap = h := by rw [← hh, Bd.state]; rfl
  have X0 : Stand p l e rm (s.setVm s.vm) m args below meth c s₁ [] 0 0 := Stand.of_body Bd
  have X : St p l e rm s m args below meth c y.cls bytes maxL ret y.name Z EL nw us s₁ h 0 0 :=
    ⟨⟨Bd.exec, Bd.bytes, hml0, Bd.returns, hnm, Bd.notSynchronized, a0, hEL⟩, s.vm, [], X0, Fr.nil _, e0, (State.WarmedH.refl s).since _, hZ, hown, hE, by rw [hh]; exact CHr.refl hC, hU, fun _ => State.WarmedH.refl s⟩
  obtain ⟨U, o, h1, h2, h3, h4⟩ := body p e s m below meth c s₁ X
  refine ⟨U, o, ?_, h2, h3, h4⟩
  rw [ef m]; exact h1

theorem leave0 (X : St p l e R s m args below meth c own bytes maxL ret nm Z EL nw us T h cells slots) {v : Option Value} (hv : ret = none → v = none) (hc : cells ≤ kk) (hn : slots ≤ nn) (hQ : Q v h)
    {S : State} (f : ∀ fs, (∀ (f : JFrame) (acts : List Action), f.method = m → f.locked = none → f.entered = [] → (doReturn e (T.setTop f) acts v).1 = T.setFrames fs) → Steps p.tables e below S (T.setFrames fs)) :
    Goes p e below s Z EL nw Q kk nn S := by
  obtain ⟨⟨h1, h2, h3, h4, h5, h6, a0', hEL⟩, vm0, locs, Y, N, eT, hS, hZ, hown, hE, hC, hU, hW⟩ := X
  have Y' := Y.mono hc hn
  obtain ⟨fs, g1, g2, g3, g4⟩ := Y'.leaveW hS (Nat.le_of_eq (by rw [eT])) (v := v) (fun q => hv (h4 ▸ q)) h6
  have hal : CHr Z EL s.vm s.heap (T.setFrames fs).vm (T.setFrames fs).heap := by
    show CHr Z EL s.vm s.heap T.vm T.heap
    rw [eT]
    exact hC.trans (CHv.at Y hZ hEL hC.1)
  exact ⟨_, _, f fs g1, g2, g3, v, locs, rfl, by show Q v T.heap; rw [eT]; exact hQ, N, by show Ext Z.heap T.heap; rw [eT]; exact hE, hal, g4, fun q => State.WarmedH.trans (t := s.setVm vm0) (hW q) Y.warmed⟩
end Base
section Ops
variable {p : Program} {l : Launch} {e : Env} {R : Room} {s : State} {m : MethodId} {args : Array Value} {below : List Frame} {meth : Method} {c : Code}
  {own : String} {bytes : ByteArray} {maxL : Nat} {ret : Option FieldType} {nm : String} {Z : State} {EL : List (String × Nat)} {nw : Bool} {us : List Addr}
  {T : State} {h : Heap} {cells slots : Nat} {Q : Option Value → Heap → Prop} {kk nn : Nat} {a0 : Array Value} {pc : Nat} {Ls : Array Slot} {st : List Value}
theorem g_aload (X : St p l e R s m args below meth c own bytes maxL ret nm Z EL nw us T h cells slots) {k : Nat} {v : Value} (hd : decode bytes pc = .ok (.aload k, 2)) (hl : Ls[k]? = some (.val v)) (hv : v.isRef = true) (pc' : Nat) (hp : pc + 2 = pc')
    (K : Goes p e below s Z EL nw Q kk nn (T.setTop (mkF m pc' Ls (v :: st)))) : Goes p e below s Z EL nw Q kk nn (T.setTop (mkF m pc Ls (st))) := by
  subst hp
  exact K.step fun t k => XS.aload X.at X.hx rfl (hb X.by hd) hl hv k

theorem g_aloadN (X : St p l e R s m args below meth c own bytes maxL ret nm Z EL nw us T h cells slots) {k : Fin 4} {v : Value} (hd : decode bytes pc = .ok (.aload_n k, 1)) (hl : Ls[k.val]? = some (.val v)) (hv : v.isRef = true) (pc' : Nat) (hp : pc + 1 = pc')
    (K : Goes p e below s Z EL nw Q kk nn (T.setTop (mkF m pc' Ls (v :: st)))) : Goes p e below s Z EL nw Q kk nn (T.setTop (mkF m pc Ls (st))) := by
  subst hp
  exact K.step fun t k => XS.aloadN X.at X.hx rfl (hb X.by hd) hl hv k

theorem g_iload (X : St p l e R s m args below meth c own bytes maxL ret nm Z EL nw us T h cells slots) {k : Nat} {v : Int32} (hd : decode bytes pc = .ok (.iload k, 2)) (hl : Ls[k]? = some (.val (.int v))) (pc' : Nat) (hp : pc + 2 = pc')
    (K : Goes p e below s Z EL nw Q kk nn (T.setTop (mkF m pc' Ls (.int v :: st)))) : Goes p e below s Z EL nw Q kk nn (T.setTop (mkF m pc Ls (st))) := by
  subst hp
  exact K.step fun t k => XS.iload X.at X.hx rfl (hb X.by hd) hl k

theorem g_iloadN (X : St p l e R s m args below meth c own bytes maxL ret nm Z EL nw us T h cells slots) {k : Fin 4} {v : Int32} (hd : decode bytes pc = .ok (.iload_n k, 1)) (hl : Ls[k.val]? = some (.val (.int v))) (pc' : Nat) (hp : pc + 1 = pc')
    (K : Goes p e below s Z EL nw Q kk nn (T.setTop (mkF m pc' Ls (.int v :: st)))) : Goes p e below s Z EL nw Q kk nn (T.setTop (mkF m pc Ls (st))) := by
  subst hp
  exact K.step fun t k => XS.iloadN X.at X.hx rfl (hb X.by hd) hl k

theorem g_istore (X : St p l e R s m args below meth c own bytes maxL ret nm Z EL nw us T h cells slots) {k : Nat} {x : Int32} {Ls' : Array Slot} (hd : decode bytes pc = .ok (.istore k, 2)) (hl : storeLocals Ls k (.int x) = some Ls') (pc' : Nat) (hp : pc + 2 = pc')
    (K : Goes p e below s Z EL nw Q kk nn (T.setTop (mkF m pc' Ls' (st)))) : Goes p e below s Z EL nw Q kk nn (T.setTop (mkF m pc Ls (.int x :: st))) := by
  subst hp
  exact K.step fun t k => XS.istore X.at X.hx rfl (hb X.by hd) rfl hl k

theorem g_istoreN (X : St p l e R s m args below meth c own bytes maxL ret nm Z EL nw us T h cells slots) {k : Fin 4} {x : Int32} {Ls' : Array Slot} (hd : decode bytes pc = .ok (.istore_n k, 1)) (hl : storeLocals Ls k.val (.int x) = some Ls') (pc' : Nat) (hp : pc + 1 = pc')
    (K : Goes p e below s Z EL nw Q kk nn (T.setTop (mkF m pc' Ls' (st)))) : Goes p e below s Z EL nw Q kk nn (T.setTop (mkF m pc Ls (.int x :: st))) := by
  subst hp
  exact K.step fun t k => XS.istoreN X.at X.hx rfl (hb X.by hd) rfl hl k

theorem g_astore (X : St p l e R s m args below meth c own bytes maxL ret nm Z EL nw us T h cells slots) {k : Nat} {x : Value} {Ls' : Array Slot} (hd : decode bytes pc = .ok (.astore k, 2)) (hv : x.isRef = true) (hl : storeLocals Ls k x = some Ls') (pc' : Nat) (hp : pc + 2 = pc')
    (K : Goes p e below s Z EL nw Q kk nn (T.setTop (mkF m pc' Ls' (st)))) : Goes p e below s Z EL nw Q kk nn (T.setTop (mkF m pc Ls (x :: st))) := by
  subst hp
  exact K.step fun t k => XS.astore X.at X.hx rfl (hb X.by hd) rfl hv hl k

theorem g_astoreN (X : St p l e R s m args below meth c own bytes maxL ret nm Z EL nw us T h cells slots) {k : Fin 4} {x : Value} {Ls' : Array Slot} (hd : decode bytes pc = .ok (.astore_n k, 1)) (hv : x.isRef = true) (hl : storeLocals Ls k.val x = some Ls') (pc' : Nat) (hp : pc + 1 = pc')
    (K : Goes p e below s Z EL nw Q kk nn (T.setTop (mkF m pc' Ls' (st)))) : Goes p e below s Z EL nw Q kk nn (T.setTop (mkF m pc Ls (x :: st))) := by
  subst hp
  exact K.step fun t k => XS.astoreN X.at X.hx rfl (hb X.by hd) rfl hv hl k

theorem g_iconst (X : St p l e R s m args below meth c own bytes maxL ret nm Z EL nw us T h cells slots) {i : Int} (w : Int32) (hd : decode bytes pc = .ok (.iconst i, 1)) (hw : Int32.ofInt i = w) (pc' : Nat) (hp : pc + 1 = pc')
    (K : Goes p e below s Z EL nw Q kk nn (T.setTop (mkF m pc' Ls (.int w :: st)))) : Goes p e below s Z EL nw Q kk nn (T.setTop (mkF m pc Ls (st))) := by
  subst hp
  exact K.step fun t k => XS.iconst X.at X.hx rfl (hb X.by hd) (by rw [hw]; exact k)

theorem g_bipush (X : St p l e R s m args below meth c own bytes maxL ret nm Z EL nw us T h cells slots) {i : Int} (w : Int32) (hd : decode bytes pc = .ok (.bipush i, 2)) (hw : (Int8.ofInt i).toInt32 = w) (pc' : Nat) (hp : pc + 2 = pc')
    (K : Goes p e below s Z EL nw Q kk nn (T.setTop (mkF m pc' Ls (.int w :: st)))) : Goes p e below s Z EL nw Q kk nn (T.setTop (mkF m pc Ls (st))) := by
  subst hp
  exact K.step fun t k => XS.bipush X.at X.hx rfl (hb X.by hd) (by rw [hw]; exact k)

theorem g_sipush (X : St p l e R s m args below meth c own bytes maxL ret nm Z EL nw us T h cells slots) {i : Int} (w : Int32) (hd : decode bytes pc = .ok (.sipush i, 3)) (hw : (Int16.ofInt i).toInt32 = w) (pc' : Nat) (hp : pc + 3 = pc')
    (K : Goes p e below s Z EL nw Q kk nn (T.setTop (mkF m pc' Ls (.int w :: st)))) : Goes p e below s Z EL nw Q kk nn (T.setTop (mkF m pc Ls (st))) := by
  subst hp
  exact K.step fun t k => XS.sipush X.at X.hx rfl (hb X.by hd) (by rw [hw]; exact k)

theorem g_aconstNull (X : St p l e R s m args below meth c own bytes maxL ret nm Z EL nw us T h cells slots)  (hd : decode bytes pc = .ok (.aconst_null, 1))  (pc' : Nat) (hp : pc + 1 = pc')
    (K : Goes p e below s Z EL nw Q kk nn (T.setTop (mkF m pc' Ls (.null :: st)))) : Goes p e below s Z EL nw Q kk nn (T.setTop (mkF m pc Ls (st))) := by
  subst hp
  exact K.step fun t k => XS.aconstNull X.at X.hx rfl (hb X.by hd) k

theorem g_iadd (X : St p l e R s m args below meth c own bytes maxL ret nm Z EL nw us T h cells slots) {x y : Int32} (hd : decode bytes pc = .ok (.iadd, 1)) (w : Int32) (hw : x + y = w) (pc' : Nat) (hp : pc + 1 = pc')
    (K : Goes p e below s Z EL nw Q kk nn (T.setTop (mkF m pc' Ls (.int w :: st)))) : Goes p e below s Z EL nw Q kk nn (T.setTop (mkF m pc Ls (.int y :: .int x :: st))) := by
  subst hp
  exact K.step fun t k => XS.iadd X.at X.hx rfl (hb X.by hd) rfl (by rw [hw]; exact k)

theorem g_isub (X : St p l e R s m args below meth c own bytes maxL ret nm Z EL nw us T h cells slots) {x y : Int32} (hd : decode bytes pc = .ok (.isub, 1)) (w : Int32) (hw : x - y = w) (pc' : Nat) (hp : pc + 1 = pc')
    (K : Goes p e below s Z EL nw Q kk nn (T.setTop (mkF m pc' Ls (.int w :: st)))) : Goes p e below s Z EL nw Q kk nn (T.setTop (mkF m pc Ls (.int y :: .int x :: st))) := by
  subst hp
  exact K.step fun t k => XS.isub X.at X.hx rfl (hb X.by hd) rfl (by rw [hw]; exact k)

theorem g_iand (X : St p l e R s m args below meth c own bytes maxL ret nm Z EL nw us T h cells slots) {x y : Int32} (hd : decode bytes pc = .ok (.iand, 1)) (w : Int32) (hw : x &&& y = w) (pc' : Nat) (hp : pc + 1 = pc')
    (K : Goes p e below s Z EL nw Q kk nn (T.setTop (mkF m pc' Ls (.int w :: st)))) : Goes p e below s Z EL nw Q kk nn (T.setTop (mkF m pc Ls (.int y :: .int x :: st))) := by
  subst hp
  exact K.step fun t k => XS.iand X.at X.hx rfl (hb X.by hd) rfl (by rw [hw]; exact k)

theorem g_imul (X : St p l e R s m args below meth c own bytes maxL ret nm Z EL nw us T h cells slots) {x y : Int32} (hd : decode bytes pc = .ok (.imul, 1)) (w : Int32) (hw : x * y = w) (pc' : Nat) (hp : pc + 1 = pc')
    (K : Goes p e below s Z EL nw Q kk nn (T.setTop (mkF m pc' Ls (.int w :: st)))) : Goes p e below s Z EL nw Q kk nn (T.setTop (mkF m pc Ls (.int y :: .int x :: st))) := by
  subst hp
  exact K.step fun t k => XS.imul X.at X.hx rfl (hb X.by hd) rfl (by rw [hw]; exact k)

theorem g_ixor (X : St p l e R s m args below meth c own bytes maxL ret nm Z EL nw us T h cells slots) {x y : Int32} (hd : decode bytes pc = .ok (.ixor, 1)) (w : Int32) (hw : x ^^^ y = w) (pc' : Nat) (hp : pc + 1 = pc')
    (K : Goes p e below s Z EL nw Q kk nn (T.setTop (mkF m pc' Ls (.int w :: st)))) : Goes p e below s Z EL nw Q kk nn (T.setTop (mkF m pc Ls (.int y :: .int x :: st))) := by
  subst hp
  exact K.step fun t k => XT.ixor X.at X.hx rfl (hb X.by hd) rfl (by rw [hw]; exact k)

theorem g_ior (X : St p l e R s m args below meth c own bytes maxL ret nm Z EL nw us T h cells slots) {x y : Int32} (hd : decode bytes pc = .ok (.ior, 1)) (w : Int32) (hw : x ||| y = w) (pc' : Nat) (hp : pc + 1 = pc')
    (K : Goes p e below s Z EL nw Q kk nn (T.setTop (mkF m pc' Ls (.int w :: st)))) : Goes p e below s Z EL nw Q kk nn (T.setTop (mkF m pc Ls (.int y :: .int x :: st))) := by
  subst hp
  exact K.step fun t k => XT.ior X.at X.hx rfl (hb X.by hd) rfl (by rw [hw]; exact k)

theorem g_irem (X : St p l e R s m args below meth c own bytes maxL ret nm Z EL nw us T h cells slots) {x y : Int32} (hd : decode bytes pc = .ok (.irem, 1)) (hy : y ≠ 0) (w : Int32) (hw : x % y = w) (pc' : Nat) (hp : pc + 1 = pc')
    (K : Goes p e below s Z EL nw Q kk nn (T.setTop (mkF m pc' Ls (.int w :: st)))) : Goes p e below s Z EL nw Q kk nn (T.setTop (mkF m pc Ls (.int y :: .int x :: st))) := by
  subst hp hw
  obtain ⟨vm0, locs, Y⟩ := X.std
  exact K.step fun t k => iremM Y X.hx rfl (hb X.by hd) rfl hy k

theorem g_idiv (X : St p l e R s m args below meth c own bytes maxL ret nm Z EL nw us T h cells slots) {x y : Int32} (hd : decode bytes pc = .ok (.idiv, 1)) (hy : y ≠ 0) (w : Int32) (hw : x / y = w) (pc' : Nat) (hp : pc + 1 = pc')
    (K : Goes p e below s Z EL nw Q kk nn (T.setTop (mkF m pc' Ls (.int w :: st)))) : Goes p e below s Z EL nw Q kk nn (T.setTop (mkF m pc Ls (.int y :: .int x :: st))) := by
  subst hp
  exact K.step fun t k => XS.idiv X.at X.hx rfl (hb X.by hd) rfl hy (by rw [hw]; exact k)

theorem g_ineg (X : St p l e R s m args below meth c own bytes maxL ret nm Z EL nw us T h cells slots) {x : Int32} (hd : decode bytes pc = .ok (.ineg, 1)) (w : Int32) (hw : -x = w) (pc' : Nat) (hp : pc + 1 = pc')
    (K : Goes p e below s Z EL nw Q kk nn (T.setTop (mkF m pc' Ls (.int w :: st)))) : Goes p e below s Z EL nw Q kk nn (T.setTop (mkF m pc Ls (.int x :: st))) := by
  subst hp
  exact K.step fun t k => XS.ineg X.at X.hx rfl (hb X.by hd) rfl (by rw [hw]; exact k)

theorem g_iushr (X : St p l e R s m args below meth c own bytes maxL ret nm Z EL nw us T h cells slots) {x y : Int32} (hd : decode bytes pc = .ok (.iushr, 1)) (w : Int32) (hw : XT.ushr x y = w) (pc' : Nat) (hp : pc + 1 = pc')
    (K : Goes p e below s Z EL nw Q kk nn (T.setTop (mkF m pc' Ls (.int w :: st)))) : Goes p e below s Z EL nw Q kk nn (T.setTop (mkF m pc Ls (.int y :: .int x :: st))) := by
  subst hp
  exact K.step fun t k => XT.iushr X.at X.hx rfl (hb X.by hd) rfl (by rw [hw]; exact k)

theorem g_ishr (X : St p l e R s m args below meth c own bytes maxL ret nm Z EL nw us T h cells slots) {x y : Int32} (hd : decode bytes pc = .ok (.ishr, 1)) (w : Int32) (hw : x >>> (y &&& 31) = w) (pc' : Nat) (hp : pc + 1 = pc')
    (K : Goes p e below s Z EL nw Q kk nn (T.setTop (mkF m pc' Ls (.int w :: st)))) : Goes p e below s Z EL nw Q kk nn (T.setTop (mkF m pc Ls (.int y :: .int x :: st))) := by
  subst hp
  exact K.step fun t k => XT.ishr X.at X.hx rfl (hb X.by hd) rfl (by rw [hw]; exact k)

theorem g_ishl (X : St p l e R s m args below meth c own bytes maxL ret nm Z EL nw us T h cells slots) {x y : Int32} (hd : decode bytes pc = .ok (.ishl, 1)) (w : Int32) (hw : x <<< (y &&& 31) = w) (pc' : Nat) (hp : pc + 1 = pc')
    (K : Goes p e below s Z EL nw Q kk nn (T.setTop (mkF m pc' Ls (.int w :: st)))) : Goes p e below s Z EL nw Q kk nn (T.setTop (mkF m pc Ls (.int y :: .int x :: st))) := by
  subst hp
  exact K.step fun t k => XT.ishl X.at X.hx rfl (hb X.by hd) rfl (by rw [hw]; exact k)

theorem g_i2c (X : St p l e R s m args below meth c own bytes maxL ret nm Z EL nw us T h cells slots) {x : Int32} (hd : decode bytes pc = .ok (.i2c, 1)) (w : Int32) (hw : x.toUInt32.toUInt16.toUInt32.toInt32 = w) (pc' : Nat) (hp : pc + 1 = pc')
    (K : Goes p e below s Z EL nw Q kk nn (T.setTop (mkF m pc' Ls (.int w :: st)))) : Goes p e below s Z EL nw Q kk nn (T.setTop (mkF m pc Ls (.int x :: st))) := by
  subst hp
  exact K.step fun t k => XT.i2c X.at X.hx rfl (hb X.by hd) rfl (by rw [hw]; exact k)

theorem g_i2b (X : St p l e R s m args below meth c own bytes maxL ret nm Z EL nw us T h cells slots) {x : Int32} (hd : decode bytes pc = .ok (.i2b, 1)) (w : Int32) (hw : x.toInt8.toInt32 = w) (pc' : Nat) (hp : pc + 1 = pc')
    (K : Goes p e below s Z EL nw Q kk nn (T.setTop (mkF m pc' Ls (.int w :: st)))) : Goes p e below s Z EL nw Q kk nn (T.setTop (mkF m pc Ls (.int x :: st))) := by
  subst hp
  exact K.step fun t k => XT.i2b X.at X.hx rfl (hb X.by hd) rfl (by rw [hw]; exact k)

theorem g_i2l (X : St p l e R s m args below meth c own bytes maxL ret nm Z EL nw us T h cells slots) {x : Int32} (hd : decode bytes pc = .ok (.i2l, 1)) (w : Int64) (hw : x.toInt64 = w) (pc' : Nat) (hp : pc + 1 = pc')
    (K : Goes p e below s Z EL nw Q kk nn (T.setTop (mkF m pc' Ls (.long w :: st)))) : Goes p e below s Z EL nw Q kk nn (T.setTop (mkF m pc Ls (.int x :: st))) := by
  subst hp
  exact K.step fun t k => XT.i2l X.at X.hx rfl (hb X.by hd) rfl (by rw [hw]; exact k)

theorem g_lsub (X : St p l e R s m args below meth c own bytes maxL ret nm Z EL nw us T h cells slots) {x y : Int64} (hd : decode bytes pc = .ok (.lsub, 1)) (w : Int64) (hw : x - y = w) (pc' : Nat) (hp : pc + 1 = pc')
    (K : Goes p e below s Z EL nw Q kk nn (T.setTop (mkF m pc' Ls (.long w :: st)))) : Goes p e below s Z EL nw Q kk nn (T.setTop (mkF m pc Ls (.long y :: .long x :: st))) := by
  subst hp
  exact K.step fun t k => XT.lsub X.at X.hx rfl (hb X.by hd) rfl (by rw [hw]; exact k)

theorem g_lcmp (X : St p l e R s m args below meth c own bytes maxL ret nm Z EL nw us T h cells slots) {x y : Int64} (hd : decode bytes pc = .ok (.lcmp, 1)) (w : Int32) (hw : XT.cmpL x y = w) (pc' : Nat) (hp : pc + 1 = pc')
    (K : Goes p e below s Z EL nw Q kk nn (T.setTop (mkF m pc' Ls (.int w :: st)))) : Goes p e below s Z EL nw Q kk nn (T.setTop (mkF m pc Ls (.long y :: .long x :: st))) := by
  subst hp
  exact K.step fun t k => XT.lcmp X.at X.hx rfl (hb X.by hd) rfl (by rw [hw]; exact k)

theorem g_dup (X : St p l e R s m args below meth c own bytes maxL ret nm Z EL nw us T h cells slots) {x : Value} (hd : decode bytes pc = .ok (.dup, 1)) (hc : x.category = 1) (pc' : Nat) (hp : pc + 1 = pc')
    (K : Goes p e below s Z EL nw Q kk nn (T.setTop (mkF m pc' Ls (x :: x :: st)))) : Goes p e below s Z EL nw Q kk nn (T.setTop (mkF m pc Ls (x :: st))) := by
  subst hp
  exact K.step fun t k => XS.dup X.at X.hx rfl (hb X.by hd) rfl hc k

theorem g_pop (X : St p l e R s m args below meth c own bytes maxL ret nm Z EL nw us T h cells slots) {x : Value} (hd : decode bytes pc = .ok (.pop, 1)) (hc : x.category = 1) (pc' : Nat) (hp : pc + 1 = pc')
    (K : Goes p e below s Z EL nw Q kk nn (T.setTop (mkF m pc' Ls (st)))) : Goes p e below s Z EL nw Q kk nn (T.setTop (mkF m pc Ls (x :: st))) := by
  subst hp
  exact K.step fun t k => XT.pop X.at X.hx rfl (hb X.by hd) rfl hc k

theorem g_iinc (X : St p l e R s m args below meth c own bytes maxL ret nm Z EL nw us T h cells slots) {k : Nat} {i : Int} {x : Int32} {Ls' : Array Slot} (hd : decode bytes pc = .ok (.iinc k i, 3)) (hl : Ls[k]? = some (.val (.int x))) (w : Int32) (hw : x + Int32.ofInt i = w) (hl' : storeLocals Ls k (.int w) = some Ls') (pc' : Nat) (hp : pc + 3 = pc')
    (K : Goes p e below s Z EL nw Q kk nn (T.setTop (mkF m pc' Ls' (st)))) : Goes p e below s Z EL nw Q kk nn (T.setTop (mkF m pc Ls (st))) := by
  subst hp
  exact K.step fun t k => XS.iinc X.at X.hx rfl (hb X.by hd) hl (by rw [hw]; exact hl') k

theorem g_ifNo (X : St p l e R s m args below meth c own bytes maxL ret nm Z EL nw us T h cells slots) {cd : ClassFile.Cond} {o : Int} {x : Int32} (hd : decode bytes pc = .ok (.ifCond cd o, 3)) (hc : if_icmp.holds cd x 0 = false) (pc' : Nat) (hp : pc + 3 = pc')
    (K : Goes p e below s Z EL nw Q kk nn (T.setTop (mkF m pc' Ls (st)))) : Goes p e below s Z EL nw Q kk nn (T.setTop (mkF m pc Ls (.int x :: st))) := by
  subst hp
  exact K.step fun t k => XS.ifNo X.at X.hx rfl (hb X.by hd) rfl ((if0 cd x).trans hc) k

theorem g_icmpNo (X : St p l e R s m args below meth c own bytes maxL ret nm Z EL nw us T h cells slots) {cd : ClassFile.Cond} {o : Int} {x y : Int32} (hd : decode bytes pc = .ok (.if_icmp cd o, 3)) (hc : if_icmp.holds cd x y = false) (pc' : Nat) (hp : pc + 3 = pc')
    (K : Goes p e below s Z EL nw Q kk nn (T.setTop (mkF m pc' Ls (st)))) : Goes p e below s Z EL nw Q kk nn (T.setTop (mkF m pc Ls (.int y :: .int x :: st))) := by
  subst hp
  exact K.step fun t k => XS.icmpNo X.at X.hx rfl (hb X.by hd) rfl hc k

theorem g_ifnullNo (X : St p l e R s m args below meth c own bytes maxL ret nm Z EL nw us T h cells slots) {o : Int} {b : Addr} (hd : decode bytes pc = .ok (.ifnull o, 3))  (pc' : Nat) (hp : pc + 3 = pc')
    (K : Goes p e below s Z EL nw Q kk nn (T.setTop (mkF m pc' Ls (st)))) : Goes p e below s Z EL nw Q kk nn (T.setTop (mkF m pc Ls (.ref b :: st))) := by
  subst hp
  exact K.step fun t k => XS.ifnullNo X.at X.hx rfl (hb X.by hd) rfl k

theorem g_ifnonnullNo (X : St p l e R s m args below meth c own bytes maxL ret nm Z EL nw us T h cells slots) {o : Int} (hd : decode bytes pc = .ok (.ifnonnull o, 3))  (pc' : Nat) (hp : pc + 3 = pc')
    (K : Goes p e below s Z EL nw Q kk nn (T.setTop (mkF m pc' Ls (st)))) : Goes p e below s Z EL nw Q kk nn (T.setTop (mkF m pc Ls (.null :: st))) := by
  subst hp
  exact K.step fun t k => XT.ifnonnullNo X.at X.hx rfl (hb X.by hd) rfl k

theorem g_acmpNo (X : St p l e R s m args below meth c own bytes maxL ret nm Z EL nw us T h cells slots) {cd : ClassFile.ACond} {o : Int} {x y : Value} (hd : decode bytes pc = .ok (.if_acmp cd o, 3)) (hx' : x.isRef = true) (hy' : y.isRef = true) (hc : XT.acmp cd x y = false) (pc' : Nat) (hp : pc + 3 = pc')
    (K : Goes p e below s Z EL nw Q kk nn (T.setTop (mkF m pc' Ls (st)))) : Goes p e below s Z EL nw Q kk nn (T.setTop (mkF m pc Ls (y :: x :: st))) := by
  subst hp
  exact K.step fun t k => XT.acmpNo X.at X.hx rfl (hb X.by hd) rfl hx' hy' hc k

theorem g_goto (X : St p l e R s m args below meth c own bytes maxL ret nm Z EL nw us T h cells slots)  {o : Int} (hd : decode bytes pc = .ok (.goto o, 3))  (pc' : Nat) (ho : 0 ≤ (pc : Int) + o) (hp : ((pc : Int) + o).toNat = pc')
    (K : Goes p e below s Z EL nw Q kk nn (T.setTop (mkF m pc' Ls (st)))) : Goes p e below s Z EL nw Q kk nn (T.setTop (mkF m pc Ls (st))) :=
  K.step fun t k => XS.goto X.at X.hx rfl (pc0 := pc) rfl (hb X.by hd) ho hp k

theorem g_ifYes (X : St p l e R s m args below meth c own bytes maxL ret nm Z EL nw us T h cells slots) {cd : ClassFile.Cond} {x : Int32} {o : Int} (hd : decode bytes pc = .ok (.ifCond cd o, 3)) (hc : if_icmp.holds cd x 0 = true) (pc' : Nat) (ho : 0 ≤ (pc : Int) + o) (hp : ((pc : Int) + o).toNat = pc')
    (K : Goes p e below s Z EL nw Q kk nn (T.setTop (mkF m pc' Ls (st)))) : Goes p e below s Z EL nw Q kk nn (T.setTop (mkF m pc Ls (.int x :: st))) :=
  K.step fun t k => XS.ifYes X.at X.hx rfl (pc0 := pc) rfl (hb X.by hd) rfl ((if0 cd x).trans hc) ho hp k

theorem g_icmpYes (X : St p l e R s m args below meth c own bytes maxL ret nm Z EL nw us T h cells slots) {cd : ClassFile.Cond} {x y : Int32} {o : Int} (hd : decode bytes pc = .ok (.if_icmp cd o, 3)) (hc : if_icmp.holds cd x y = true) (pc' : Nat) (ho : 0 ≤ (pc : Int) + o) (hp : ((pc : Int) + o).toNat = pc')
    (K : Goes p e below s Z EL nw Q kk nn (T.setTop (mkF m pc' Ls (st)))) : Goes p e below s Z EL nw Q kk nn (T.setTop (mkF m pc Ls (.int y :: .int x :: st))) :=
  K.step fun t k => XS.icmpYes X.at X.hx rfl (pc0 := pc) rfl (hb X.by hd) rfl hc ho hp k

theorem g_ifnullYes (X : St p l e R s m args below meth c own bytes maxL ret nm Z EL nw us T h cells slots)  {o : Int} (hd : decode bytes pc = .ok (.ifnull o, 3))  (pc' : Nat) (ho : 0 ≤ (pc : Int) + o) (hp : ((pc : Int) + o).toNat = pc')
    (K : Goes p e below s Z EL nw Q kk nn (T.setTop (mkF m pc' Ls (st)))) : Goes p e below s Z EL nw Q kk nn (T.setTop (mkF m pc Ls (.null :: st))) :=
  K.step fun t k => XS.ifnullYes X.at X.hx rfl (pc0 := pc) rfl (hb X.by hd) rfl ho hp k

theorem g_ifnonnullYes (X : St p l e R s m args below meth c own bytes maxL ret nm Z EL nw us T h cells slots) {b : Addr} {o : Int} (hd : decode bytes pc = .ok (.ifnonnull o, 3))  (pc' : Nat) (ho : 0 ≤ (pc : Int) + o) (hp : ((pc : Int) + o).toNat = pc')
    (K : Goes p e below s Z EL nw Q kk nn (T.setTop (mkF m pc' Ls (st)))) : Goes p e below s Z EL nw Q kk nn (T.setTop (mkF m pc Ls (.ref b :: st))) :=
  K.step fun t k => XT.ifnonnullYes X.at X.hx rfl (pc0 := pc) rfl (hb X.by hd) rfl ho hp k

theorem g_acmpYes (X : St p l e R s m args below meth c own bytes maxL ret nm Z EL nw us T h cells slots) {cd : ClassFile.ACond} {x y : Value} {o : Int} (hd : decode bytes pc = .ok (.if_acmp cd o, 3)) (hx' : x.isRef = true) (hy' : y.isRef = true) (hc : XT.acmp cd x y = true) (pc' : Nat) (ho : 0 ≤ (pc : Int) + o) (hp : ((pc : Int) + o).toNat = pc')
    (K : Goes p e below s Z EL nw Q kk nn (T.setTop (mkF m pc' Ls (st)))) : Goes p e below s Z EL nw Q kk nn (T.setTop (mkF m pc Ls (y :: x :: st))) :=
  K.step fun t k => XT.acmpYes X.at X.hx rfl (pc0 := pc) rfl (hb X.by hd) rfl hx' hy' hc ho hp k
end Ops
section Rets
variable {p : Program} {l : Launch} {e : Env} {R : Room} {s : State} {m : MethodId} {args : Array Value} {below : List Frame} {meth : Method} {c : Code}
  {own : String} {bytes : ByteArray} {maxL : Nat} {ret : Option FieldType} {nm : String} {Z : State} {EL : List (String × Nat)} {nw : Bool} {us : List Addr}
  {T : State} {h : Heap} {cells slots : Nat} {Q : Option Value → Heap → Prop} {kk nn : Nat} {a0 : Array Value} {pc : Nat} {Ls : Array Slot} {st : List Value}

theorem g_retN (X : St p l e R s m args below meth c own bytes maxL ret nm Z EL nw us T h cells slots) {z : Int32} {t : FieldType} {rest : List Value} (hret : ret = some t) (ht : t = .boolean ∨ t = .byte ∨ t = .char ∨ t = .short) (hd : decode bytes pc = .ok (.ireturn, 1)) (w : Int32) (hw : nar t z = w) (hc : cells ≤ kk) (hn : slots ≤ nn) (hQ : Q (some (.int w)) h) :
    Goes p e below s Z EL nw Q kk nn (T.setTop (mkF m pc Ls (.int z :: rest))) := by
  subst hw
  have h4 := X.1.2.2.2.1
  exact leave0 X (fun q => by rw [hret] at q; cases q) hc hn hQ fun fs g1 => by
    obtain ⟨vm0, locs, Y⟩ := X.std
    exact retN Y X.hx (h4.trans hret) ht (hb X.by hd) g1
theorem g_retI (X : St p l e R s m args below meth c own bytes maxL ret nm Z EL nw us T h cells slots) {z : Int32} {rest : List Value} (hret : ret = some .int) (hd : decode bytes pc = .ok (.ireturn, 1)) (hc : cells ≤ kk) (hn : slots ≤ nn) (hQ : Q (some (.int z)) h) :
    Goes p e below s Z EL nw Q kk nn (T.setTop (mkF m pc Ls (.int z :: rest))) := by
  have h4 := X.1.2.2.2.1
  exact leave0 X (fun q => by rw [hret] at q; cases q) hc hn hQ fun fs g1 => by
    obtain ⟨vm0, locs, Y⟩ := X.std
    exact retOut Y X.hx (h4.trans hret) rfl (Or.inl ⟨rfl, Or.inl rfl, z, rfl⟩) (hb X.by hd) g1
theorem g_retA (X : St p l e R s m args below meth c own bytes maxL ret nm Z EL nw us T h cells slots) {w : Value} {t : FieldType} {rest : List Value} (hret : ret = some t) (ht : t.isReference = true) (hw : w.isRef = true) (hd : decode bytes pc = .ok (.areturn, 1)) (hc : cells ≤ kk) (hn : slots ≤ nn) (hQ : Q (some w) h) :
    Goes p e below s Z EL nw Q kk nn (T.setTop (mkF m pc Ls (w :: rest))) := by
  have h4 := X.1.2.2.2.1
  have hnar : narrow t w = w := by
    rcases ref_cases hw with rfl | ⟨a, rfl⟩ <;> cases t <;> first | rfl | simp [FieldType.isReference] at ht
  exact leave0 X (fun q => by rw [hret] at q; cases q) hc hn hQ fun fs g1 => by
    obtain ⟨vm0, locs, Y⟩ := X.std
    exact retOut Y X.hx (h4.trans hret) hnar (Or.inr (Or.inr (Or.inr (Or.inr ⟨rfl, ht, hw⟩)))) (hb X.by hd) g1
theorem g_ret (X : St p l e R s m args below meth c own bytes maxL ret nm Z EL nw us T h cells slots) (hret : ret = none) (hd : decode bytes pc = .ok (.return_, 1)) (hc : cells ≤ kk) (hn : slots ≤ nn) (hQ : Q none h) :
    Goes p e below s Z EL nw Q kk nn (T.setTop (mkF m pc Ls [])) := by
  have h4 := X.1.2.2.2.1
  exact leave0 X (fun _ => rfl) hc hn hQ fun fs g1 => by
    obtain ⟨vm0, locs, Y⟩ := X.std
    exact Y.returnOut X.hx (h4.trans hret) (hb X.by hd) g1
end Rets
section HeapOps
variable {p : Program} {l : Launch} {e : Env} {R : Room} {s : State} {m : MethodId} {args : Array Value} {below : List Frame} {meth : Method} {c : Code}
  {own : String} {bytes : ByteArray} {maxL : Nat} {ret : Option FieldType} {nm : String} {Z : State} {EL : List (String × Nat)} {nw : Bool} {us : List Addr}
  {T : State} {h : Heap} {cells slots : Nat} {Q : Option Value → Heap → Prop} {kk nn : Nat} {a0 : Array Value} {pc : Nat} {Ls : Array Slot} {st : List Value}

theorem g_ldcI (X : St p l e R s m args below meth c own bytes maxL ret nm Z EL nw us T h cells slots) {ix : Nat} {v : Int32} (w : (Jvm.Cond.constant own ix v).before a0 Z = true) (hd : decode bytes pc = .ok (.ldc ix, 2)) (pc' : Nat) (hp : pc + 2 = pc')
    (K : Goes p e below s Z EL nw Q kk nn (T.setTop (mkF m pc' Ls (.int v :: st)))) : Goes p e below s Z EL nw Q kk nn (T.setTop (mkF m pc Ls st)) := by
  subst hp
  obtain ⟨cx, vm0, locs, Y, N, eT, hS, hZ, hown, r⟩ := X
  exact K.step fun t k => Y.ldcI cx.1 hown (mv (s := s.setVm vm0) hZ w) rfl (hb cx.2.1 hd) k
theorem g_getF (X : St p l e R s m args below meth c own bytes maxL ret nm Z EL nw us T h cells slots) {R0 O n d host : String} {ix : Nat} {a : Addr} {v : Value} (w : (Jvm.Cond.fieldLink own ix R0 n d).before a0 Z = true ∨ (Jvm.Cond.fieldLinkNest own ix R0 n d host).before a0 Z = true) (via : Via Z R0 O n d) (F : Fld Z h a O n d v)
    (hd : decode bytes pc = .ok (.getfield ix, 3)) (pc' : Nat) (hp : pc + 3 = pc')
    (K : ∀ T', St p l e R s m args below meth c own bytes maxL ret nm Z EL nw us T' h cells slots → Goes p e below s Z EL nw Q kk nn (T'.setTop (mkF m pc' Ls (v :: st)))) : Goes p e below s Z EL nw Q kk nn (T.setTop (mkF m pc Ls (.ref a :: st))) := by
  subst hp
  obtain ⟨cx, vm0, locs, Y, N, eT, hS, hZ, hown, r⟩ := X
  obtain ⟨T', Y', e', stp⟩ := getF Y cx.1 hZ hown w via eT F (g := mkF m pc Ls (.ref a :: st)) rfl rfl (hb cx.2.1 hd)
  exact (K T' ⟨cx, vm0, locs, Y', N, e', hS, hZ, hown, r⟩).step stp
theorem g_getS (X : St p l e R s m args below meth c own bytes maxL ret nm Z EL nw us T h cells slots) {R0 O n d host : String} {ix : Nat} {v : Value} (w : (Jvm.Cond.fieldLink own ix R0 n d).before a0 Z = true ∨ (Jvm.Cond.fieldLinkNest own ix R0 n d host).before a0 Z = true) (via : Via Z R0 O n d) (F : Sta Z h O n d v)
    (hd : decode bytes pc = .ok (.getstatic ix, 3)) (pc' : Nat) (hp : pc + 3 = pc')
    (K : ∀ T', St p l e R s m args below meth c own bytes maxL ret nm Z EL nw us T' h cells slots → Goes p e below s Z EL nw Q kk nn (T'.setTop (mkF m pc' Ls (v :: st)))) : Goes p e below s Z EL nw Q kk nn (T.setTop (mkF m pc Ls st)) := by
  subst hp
  obtain ⟨cx, vm0, locs, Y, N, eT, hS, hZ, hown, r⟩ := X
  obtain ⟨T', Y', e', stp⟩ := getS2 Y cx.1 hZ hown w via eT F (g := mkF m pc Ls st) rfl (hb cx.2.1 hd)
  exact (K T' ⟨cx, vm0, locs, Y', N, e', hS, hZ, hown, r⟩).step stp
theorem g_cast (X : St p l e R s m args below meth c own bytes maxL ret nm Z EL nw us T h cells slots) {C : String} {ix : Nat} {a : Addr} (w : (Jvm.Cond.classLink own ix C).before a0 Z = true) (F : Ins Z h a C true) (hd : decode bytes pc = .ok (.checkcast ix, 3)) (pc' : Nat) (hp : pc + 3 = pc')
    (K : ∀ T', St p l e R s m args below meth c own bytes maxL ret nm Z EL nw us T' h cells slots → Goes p e below s Z EL nw Q kk nn (T'.setTop (mkF m pc' Ls (.ref a :: st)))) : Goes p e below s Z EL nw Q kk nn (T.setTop (mkF m pc Ls (.ref a :: st))) := by
  subst hp
  obtain ⟨cx, vm0, locs, Y, N, eT, hS, hZ, hown, r⟩ := X
  obtain ⟨T', Y', e', stp⟩ := castY Y cx.1 hZ hown w eT F (g := mkF m pc Ls (.ref a :: st)) rfl rfl (hb cx.2.1 hd)
  exact (K T' ⟨cx, vm0, locs, Y', N, e', hS, hZ, hown, r⟩).step stp
theorem g_instY (X : St p l e R s m args below meth c own bytes maxL ret nm Z EL nw us T h cells slots) {C : String} {ix : Nat} {a : Addr} (w : (Jvm.Cond.classLink own ix C).before a0 Z = true) (F : Ins Z h a C true) (hd : decode bytes pc = .ok (.instanceof ix, 3)) (pc' : Nat) (hp : pc + 3 = pc')
    (K : ∀ T', St p l e R s m args below meth c own bytes maxL ret nm Z EL nw us T' h cells slots → Goes p e below s Z EL nw Q kk nn (T'.setTop (mkF m pc' Ls (.int 1 :: st)))) : Goes p e below s Z EL nw Q kk nn (T.setTop (mkF m pc Ls (.ref a :: st))) := by
  subst hp
  obtain ⟨cx, vm0, locs, Y, N, eT, hS, hZ, hown, r⟩ := X
  obtain ⟨T', Y', e', stp⟩ := instY Y cx.1 hZ hown w eT F (g := mkF m pc Ls (.ref a :: st)) rfl rfl (hb cx.2.1 hd)
  exact (K T' ⟨cx, vm0, locs, Y', N, e', hS, hZ, hown, r⟩).step stp
theorem g_instNo (X : St p l e R s m args below meth c own bytes maxL ret nm Z EL nw us T h cells slots) {C D : String} {ix : Nat} {a : Addr} (w : (Jvm.Cond.classLink own ix D).before a0 Z = true) (E : Exa Z h a C) (F : ∃ c t, Z.vm.findClass C = some c ∧ Z.vm.findClass D = some t ∧ Z.vm.assignable c t = false) (hd : decode bytes pc = .ok (.instanceof ix, 3)) (pc' : Nat) (hp : pc + 3 = pc')
    (K : ∀ T', St p l e R s m args below meth c own bytes maxL ret nm Z EL nw us T' h cells slots → Goes p e below s Z EL nw Q kk nn (T'.setTop (mkF m pc' Ls (.int 0 :: st)))) : Goes p e below s Z EL nw Q kk nn (T.setTop (mkF m pc Ls (.ref a :: st))) := by
  subst hp
  obtain ⟨cx, vm0, locs, Y, N, eT, hS, hZ, hown, r⟩ := X
  obtain ⟨T', Y', e', stp⟩ := instNo Y cx.1 hZ hown w eT E F (g := mkF m pc Ls (.ref a :: st)) rfl rfl (hb cx.2.1 hd)
  exact (K T' ⟨cx, vm0, locs, Y', N, e', hS, hZ, hown, r⟩).step stp
/-- 'new': the new object is under construction -/
theorem g_new (X : St p l e R s m args below meth c own bytes maxL ret nm Z EL nw us T h cells slots) {C : String} {ix k : Nat} (w : (Jvm.Cond.classLink own ix C).before a0 Z = true) (wi : (Jvm.Cond.instantiable C k).before a0 Z = true) (wz : (Jvm.Cond.initialized C).before a0 Z = true)
    (hd : decode bytes pc = .ok (.new ix, 3)) {ck cs : Nat} (hck : cells + 1 = ck) (hcs : slots + k = cs) (hc : ck ≤ R.cells) (hl : cs ≤ R.slots) (pc' : Nat) (hp : pc + 3 = pc')
    (K : ∀ a T' h', a = h.size → St p l e R s m args below meth c own bytes maxL ret nm Z EL nw (a :: us) T' h' ck cs → Ext h h' → Exa Z h' a C →
      (∀ {O n d : String} {ty : FieldType}, Laid Z a0 C O n d → parseFieldDescriptor d = some ty → Fld Z h' a O n d (defaultValue ty)) → Goes p e below s Z EL nw Q kk nn (T'.setTop (mkF m pc' Ls (.ref a :: st)))) : Goes p e below s Z EL nw Q kk nn (T.setTop (mkF m pc Ls st)) := by
  subst hp hck hcs
  obtain ⟨cx, vm0, locs, Y, N, eT, hS, hZ, hown, hE, hC, hU, hW⟩ := X
  obtain ⟨T', h', Y', e', E, A, D, -, stp⟩ := newO Y cx.1 hZ hown w wi wz eT (g := mkF m pc Ls st) rfl (hb cx.2.1 hd) hc hl
  refine (K h.size T' h' rfl ⟨cx, vm0, locs, Y', N, e', ⟨hS.1, hS.2.mono E.1⟩, hZ, hown, hE.trans E, hC.trans (CHr.ext E hC.1), ?_, hW⟩ E A (fun L q => D L q)).step stp
  intro x hx
  rcases List.mem_cons.mp hx with rfl | hx
  · exact ⟨hE.1, A.lt, Safe.ext E hC.1 (Safe.new (Nat.le_refl _))⟩
  · obtain ⟨q1, q2, q3⟩ := hU x hx
    exact ⟨q1, Nat.lt_of_lt_of_le q2 E.1, Safe.ext E hC.1 q3⟩
/-- an array of a primitive kind, new -/
theorem g_newP (X : St p l e R s m args below meth c own bytes maxL ret nm Z EL nw us T h cells slots) {aty : ArrayType} {z : Int32} (w : (Jvm.Cond.arrayClass (newarray.typeOf aty)).before a0 Z = true) (hd : decode bytes pc = .ok (.newarray aty, 2)) (hn : ¬ z < 0) (cap : Nat) (hcap : z.toNatClampNeg ≤ cap) (hb' : cap * 8 ≤ 536870912)
    {ck cs : Nat} (hck : cells + 1 = ck) (hcs : slots + cap = cs) (hc : ck ≤ R.cells) (hl : cs ≤ R.slots) (pc' : Nat) (hp : pc + 2 = pc')
    (K : ∀ a T' h' k, a = h.size → St p l e R s m args below meth c own bytes maxL ret nm Z EL nw (a :: us) T' h' ck cs → Ext h h' → Arv Z h' a k (newarray.typeOf aty) z [] (defaultValue (newarray.typeOf aty)) →
      Goes p e below s Z EL nw Q kk nn (T'.setTop (mkF m pc' Ls (.ref a :: st)))) : Goes p e below s Z EL nw Q kk nn (T.setTop (mkF m pc Ls (.int z :: st))) := by
  subst hp hck hcs
  obtain ⟨cx, vm0, locs, Y, N, eT, hS, hZ, hown, hE, hC, hU, hW⟩ := X
  obtain ⟨T', h', cA, Y', e', E, A, stp⟩ := newP Y cx.1 hZ w eT (g := mkF m pc Ls (.int z :: st)) rfl (hb cx.2.1 hd) rfl hn hcap hb' hc hl
  refine (K h.size T' h' cA rfl ⟨cx, vm0, locs, Y', N, e', ⟨hS.1, hS.2.mono E.1⟩, hZ, hown, hE.trans E, hC.trans (CHr.ext E hC.1), ?_, hW⟩ E (Arv.new A hn)).step stp
  intro x hx
  rcases List.mem_cons.mp hx with rfl | hx
  · exact ⟨hE.1, A.lt, Safe.ext E hC.1 (Safe.new (Nat.le_refl _))⟩
  · obtain ⟨q1, q2, q3⟩ := hU x hx
    exact ⟨q1, Nat.lt_of_lt_of_le q2 E.1, Safe.ext E hC.1 q3⟩
/-- a store's part that is common -/
theorem St.wrote {vm0 : Vm} {locs : List Loc} {T' : State} {h' : Heap} {a : Addr} {sl : Nat} {v : Value}
    (cx : p.tables.exec = Jvm.exec ∧ c.code = bytes ∧ c.maxLocals = maxL ∧ meth.sig.returnType = ret ∧ meth.name = nm ∧ meth.locks = false ∧ ∃ a0, EW Z a0 EL)
    (Y : Stand p l e R (s.setVm vm0) m args below meth c T' (locs ++ [⟨a, sl⟩]) cells slots) (N : Fr Z.heap.size locs) (eT : T'.heap = h') (hS : s.Since vm0 h.size) (hZ : Z.Warmed39 vm0) (hown : vm0.findClass own = some m.cls) (hE : Ext Z.heap h) (hC : CHr Z EL s.vm s.heap vm0 h)
    (hU : ∀ x ∈ us, Z.heap.size ≤ x ∧ x < h.size ∧ Safe Z EL vm0 h x) (hW : nw = true → s.WarmedH vm0) (W : Wr h h' a sl v) (ha : a ∈ us) : St p l e R s m args below meth c own bytes maxL ret nm Z EL nw us T' h' cells slots := by
  obtain ⟨q1, q2, q3⟩ := hU a ha
  refine ⟨cx, vm0, locs ++ [⟨a, sl⟩], Y, Fr.snoc Y N q1, eT, ⟨hS.1, hS.2.mono (Nat.le_of_eq W.size.symm)⟩, hZ, hown, ext_wr hE W q1, hC.trans (CHr.wr W q3 hC.1), fun x hx => ?_, hW⟩
  obtain ⟨r1, r2, r3⟩ := hU x hx
  exact ⟨r1, by rw [W.size]; exact r2, Safe.wr W q3 hC.1 r3⟩
theorem g_putF (X : St p l e R s m args below meth c own bytes maxL ret nm Z EL nw us T h cells slots) {R0 O n d host C : String} {ix k : Nat} {ty : FieldType} {a : Addr} {v old : Value} (w : (Jvm.Cond.fieldLink own ix R0 n d).before a0 Z = true ∨ (Jvm.Cond.fieldLinkNest own ix R0 n d host).before a0 Z = true) (via : Via Z R0 O n d) (F : Fld Z h a O n d old) (E : Exa Z h a C)
    (L : (Jvm.Cond.lays C O n d).before a0 Z = true ∨ ((Jvm.Cond.laysFinal C O n d).before a0 Z = true ∧ own = O ∧ nm = "<init>")) (wi : (Jvm.Cond.instantiable C k).before a0 Z = true) (hty : parseFieldDescriptor d = some ty) (hn : narrow ty v = v) (hf : fits ty v = true) (ha : a ∈ us)
    (hd : decode bytes pc = .ok (.putfield ix, 3)) (pc' : Nat) (hp : pc + 3 = pc')
    (K : ∀ T' h', St p l e R s m args below meth c own bytes maxL ret nm Z EL nw us T' h' cells slots → Wr h h' a (Jvm.RoadKit.slotOf Z O n d) v → Fld Z h' a O n d v → Exa Z h' a C → Goes p e below s Z EL nw Q kk nn (T'.setTop (mkF m pc' Ls st))) : Goes p e below s Z EL nw Q kk nn (T.setTop (mkF m pc Ls (v :: .ref a :: st))) := by
  subst hp
  obtain ⟨cx, vm0, locs, Y, N, eT, hS, hZ, hown, hE, hC, hU, hW⟩ := X
  have L' : (Jvm.Cond.lays C O n d).before a0 Z = true ∨ ((Jvm.Cond.laysFinal C O n d).before a0 Z = true ∧ own = O ∧ meth.name = "<init>") := by
    rcases L with L | ⟨L1, L2, L3⟩
    · exact Or.inl L
    · exact Or.inr ⟨L1, L2, by rw [cx.2.2.2.2.1]; exact L3⟩
  obtain ⟨T', h', Y', e', W, stp⟩ := putF Y cx.1 hZ hown w via eT F E L' wi hty hn hf (g := mkF m pc Ls (v :: .ref a :: st)) rfl rfl (hb cx.2.1 hd)
  exact (K T' h' (St.wrote cx Y' N e' hS hZ hown hE hC hU hW W ha) W (F.same W) (E.wr W)).step stp
theorem g_castore (X : St p l e R s m args below meth c own bytes maxL ret nm Z EL nw us T h cells slots) {a : Addr} {k : ClassId} {z j x : Int32} {vs : List Value} {dv : Value} (A : Arv Z h a k .char z vs dv) (i : Nat) (hj : j.toNatClampNeg = i) (hj0 : ¬ j < 0) (hz : j < z) (hi : i < vs.length) (w : Int32) (hw : nar .char x = w) (ha : a ∈ us)
    (hd : decode bytes pc = .ok (.castore, 1)) (pc' : Nat) (hp : pc + 1 = pc')
    (K : ∀ T' h', St p l e R s m args below meth c own bytes maxL ret nm Z EL nw us T' h' cells slots → Wr h h' a i (.int w) → Arv Z h' a k .char z (vs.set i (.int w)) dv → Goes p e below s Z EL nw Q kk nn (T'.setTop (mkF m pc' Ls st))) : Goes p e below s Z EL nw Q kk nn (T.setTop (mkF m pc Ls (.int x :: .int j :: .ref a :: st))) := by
  subst hp hj hw
  obtain ⟨cx, vm0, locs, Y, N, eT, hS, hZ, hown, hE, hC, hU, hW⟩ := X
  obtain ⟨cl, Ar, q1, Sz, q3, H, Gt⟩ := A
  obtain ⟨T', h', Y', e', W, stp⟩ := stC Y cx.1 hZ eT Ar (inb_of Sz ⟨hj0, hz⟩) (g := mkF m pc Ls (.int x :: .int j :: .ref a :: st)) rfl rfl (hb cx.2.1 hd)
  exact (K T' h' (St.wrote cx Y' N e' hS hZ hown hE hC hU hW W ha) W (Arv.set Ar q1 Sz q3 H Gt (fits_nar_char x) W _ rfl hi)).step stp
theorem g_bastore (X : St p l e R s m args below meth c own bytes maxL ret nm Z EL nw us T h cells slots) {a : Addr} {k : ClassId} {z j x : Int32} {vs : List Value} {dv : Value} (A : Arv Z h a k .byte z vs dv) (i : Nat) (hj : j.toNatClampNeg = i) (hj0 : ¬ j < 0) (hz : j < z) (hi : i < vs.length) (w : Int32) (hw : nar .byte x = w) (ha : a ∈ us)
    (hd : decode bytes pc = .ok (.bastore, 1)) (pc' : Nat) (hp : pc + 1 = pc')
    (K : ∀ T' h', St p l e R s m args below meth c own bytes maxL ret nm Z EL nw us T' h' cells slots → Wr h h' a i (.int w) → Arv Z h' a k .byte z (vs.set i (.int w)) dv → Goes p e below s Z EL nw Q kk nn (T'.setTop (mkF m pc' Ls st))) : Goes p e below s Z EL nw Q kk nn (T.setTop (mkF m pc Ls (.int x :: .int j :: .ref a :: st))) := by
  subst hp hj hw
  obtain ⟨cx, vm0, locs, Y, N, eT, hS, hZ, hown, hE, hC, hU, hW⟩ := X
  obtain ⟨cl, Ar, q1, Sz, q3, H, Gt⟩ := A
  obtain ⟨T', h', Y', e', W, stp⟩ := stB Y cx.1 hZ eT Ar (inb_of Sz ⟨hj0, hz⟩) (g := mkF m pc Ls (.int x :: .int j :: .ref a :: st)) rfl rfl (hb cx.2.1 hd)
  exact (K T' h' (St.wrote cx Y' N e' hS hZ hown hE hC hU hW W ha) W (Arv.set Ar q1 Sz q3 H Gt (fits_nar_byte x) W _ rfl hi)).step stp
theorem arrOf {vm0 : Vm} {cl : Cell} {ty : FieldType} (hZ : Z.Warmed39 vm0) (q : Z.isArrayOf cl ty) : (s.setVm vm0).isArrayOf cl ty := State.isArrayOf_alike (show Z.vm.Alike (s.setVm vm0).vm from hZ.alike) q
theorem g_arrlen (X : St p l e R s m args below meth c own bytes maxL ret nm Z EL nw us T h cells slots) {a : Addr} {k : ClassId} {ty : FieldType} {z : Int32} {vs : List Value} {dv : Value} (A : Arv Z h a k ty z vs dv) (hd : decode bytes pc = .ok (.arraylength, 1)) (pc' : Nat) (hp : pc + 1 = pc')
    (K : Goes p e below s Z EL nw Q kk nn (T.setTop (mkF m pc' Ls (.int z :: st)))) : Goes p e below s Z EL nw Q kk nn (T.setTop (mkF m pc Ls (.ref a :: st))) := by
  subst hp
  obtain ⟨cx, vm0, locs, Y, N, eT, hS, hZ, r⟩ := X
  obtain ⟨cl, Ar, q1, Sz, q3, H, Gt⟩ := A
  refine K.step fun t k => Y.arraylength cx.1 (cell := cl) (by rw [eT]; exact Ar.1) (arrOf hZ Ar.2.1) (g := mkF m pc Ls (.ref a :: st)) rfl rfl (hb cx.2.1 hd) t ?_
  rw [len_of Sz q3]; exact k
theorem g_caload (X : St p l e R s m args below meth c own bytes maxL ret nm Z EL nw us T h cells slots) {a : Addr} {k : ClassId} {z j : Int32} {vs : List Value} {dv : Value} (A : Arv Z h a k .char z vs dv) (hj0 : ¬ j < 0) (hz : j < z) (v : Value) (hv : vs.getD j.toNatClampNeg dv = v) (hd : decode bytes pc = .ok (.caload, 1)) (pc' : Nat) (hp : pc + 1 = pc')
    (K : Goes p e below s Z EL nw Q kk nn (T.setTop (mkF m pc' Ls (v :: st)))) : Goes p e below s Z EL nw Q kk nn (T.setTop (mkF m pc Ls (.int j :: .ref a :: st))) := by
  subst hp
  obtain ⟨cx, vm0, locs, Y, N, eT, hS, hZ, r⟩ := X
  obtain ⟨cl, Ar, q1, Sz, q3, H, Gt⟩ := A
  have hin := inb_of Sz ⟨hj0, hz⟩
  exact K.step fun t k => Y.caload cx.1 (cell := cl) (by rw [eT]; exact Ar.1) (arrOf hZ Ar.2.1) Ar.2.2 hin (H.at hin hv) (g := mkF m pc Ls (.int j :: .ref a :: st)) rfl rfl (hb cx.2.1 hd) t k
theorem g_baload (X : St p l e R s m args below meth c own bytes maxL ret nm Z EL nw us T h cells slots) {a : Addr} {k : ClassId} {z j : Int32} {vs : List Value} {dv : Value} (A : Arv Z h a k .byte z vs dv) (hj0 : ¬ j < 0) (hz : j < z) (v : Value) (hv : vs.getD j.toNatClampNeg dv = v) (hd : decode bytes pc = .ok (.baload, 1)) (pc' : Nat) (hp : pc + 1 = pc')
    (K : Goes p e below s Z EL nw Q kk nn (T.setTop (mkF m pc' Ls (v :: st)))) : Goes p e below s Z EL nw Q kk nn (T.setTop (mkF m pc Ls (.int j :: .ref a :: st))) := by
  subst hp
  obtain ⟨cx, vm0, locs, Y, N, eT, hS, hZ, r⟩ := X
  obtain ⟨cl, Ar, q1, Sz, q3, H, Gt⟩ := A
  have hin := inb_of Sz ⟨hj0, hz⟩
  exact K.step fun t k => Y.baloadBytes cx.1 (cell := cl) (by rw [eT]; exact Ar.1) (arrOf hZ Ar.2.1) Ar.2.2 hin (H.at hin hv) (g := mkF m pc Ls (.int j :: .ref a :: st)) rfl rfl (hb cx.2.1 hd) t k
theorem g_aaload (X : St p l e R s m args below meth c own bytes maxL ret nm Z EL nw us T h cells slots) {a : Addr} {k : ClassId} {ty : FieldType} {z j : Int32} {vs : List Value} {dv : Value} (A : Arv Z h a k ty z vs dv) (hty : ty.isReference = true) (hj0 : ¬ j < 0) (hz : j < z) (v : Value) (hv : vs.getD j.toNatClampNeg dv = v) (hd : decode bytes pc = .ok (.aaload, 1)) (pc' : Nat) (hp : pc + 1 = pc')
    (K : Goes p e below s Z EL nw Q kk nn (T.setTop (mkF m pc' Ls (v :: st)))) : Goes p e below s Z EL nw Q kk nn (T.setTop (mkF m pc Ls (.int j :: .ref a :: st))) := by
  subst hp
  obtain ⟨cx, vm0, locs, Y, N, eT, hS, hZ, r⟩ := X
  obtain ⟨cl, Ar, q1, Sz, q3, H, Gt⟩ := A
  have hin := inb_of Sz ⟨hj0, hz⟩
  exact K.step fun t k => Y.aaload cx.1 (cell := cl) (by rw [eT]; exact Ar.1) (arrOf hZ Ar.2.1) hty Ar.2.2 hin (H.at hin hv) (g := mkF m pc Ls (.int j :: .ref a :: st)) rfl rfl (hb cx.2.1 hd) t k
theorem g_aaloadA (X : St p l e R s m args below meth c own bytes maxL ret nm Z EL nw us T h cells slots) {a : Addr} {cl : Cell} {ty : FieldType} {j : Int32} (A : Arr Z h a cl ty) (hty : ty.isReference = true) (hin : ¬ (j < 0 ∨ cl.slots.size ≤ j.toNatClampNeg)) {v : Value} (hv : cl.slots[j.toNatClampNeg]? = some v) (hd : decode bytes pc = .ok (.aaload, 1)) (pc' : Nat) (hp : pc + 1 = pc')
    (K : Goes p e below s Z EL nw Q kk nn (T.setTop (mkF m pc' Ls (v :: st)))) : Goes p e below s Z EL nw Q kk nn (T.setTop (mkF m pc Ls (.int j :: .ref a :: st))) := by
  subst hp
  obtain ⟨cx, vm0, locs, Y, N, eT, hS, hZ, r⟩ := X
  exact K.step fun t k => Y.aaload cx.1 (cell := cl) (by rw [eT]; exact A.1) (arrOf hZ A.2.1) hty A.2.2 hin hv (g := mkF m pc Ls (.int j :: .ref a :: st)) rfl rfl (hb cx.2.1 hd) t k
/-- System.arraycopy between two arrays of one primitive kind -/
theorem g_arrcopy (X : St p l e R s m args below meth c own bytes maxL ret nm Z EL nw us T h cells slots) {ix : Nat} {a b : Addr} {k k' : ClassId} {ty : FieldType} {z z' sp dp nn0 : Int32} {vs vd : List Value} {dv dd : Value} (w1 : (Jvm.Cond.methodLink own ix Jvm.Stand.acN).before a0 Z = true) (w2 : (Jvm.Cond.native Jvm.Stand.acN).before a0 Z = true) (w3 : (Jvm.Cond.static Jvm.Stand.acN).before a0 Z = true) (w4 : (Jvm.Cond.initialized "java/lang/System").before a0 Z = true)
    (A : Arv Z h a k ty z vs dv) (B : Arv Z h b k' ty z' vd dd) (hty : refKind ty = false) (h1 : ¬ sp < 0) (h2 : ¬ dp < 0) (h3 : ¬ nn0 < 0) (h4 : sp.toNatClampNeg + nn0.toNatClampNeg ≤ z.toNatClampNeg) (h5 : dp.toNatClampNeg + nn0.toNatClampNeg ≤ z'.toNatClampNeg) (hl : dp.toNatClampNeg + nn0.toNatClampNeg ≤ vd.length)
    (vr : List Value) (hvr : vd.take dp.toNatClampNeg ++ ((List.range nn0.toNatClampNeg).map fun i => vs.getD (sp.toNatClampNeg + i) dv) ++ vd.drop (dp.toNatClampNeg + nn0.toNatClampNeg) = vr) (hb' : b ∈ us) (hsize : Ls.size = maxL) (hd : decode bytes pc = .ok (.invokestatic ix, 3))
    (hf : 1 ≤ R.frames) (W : Nat) (hW : (st.map fun v => v.category).sum ≤ W) (hlo : W + (nativeFrameWords "java/lang/System" "arraycopy" 5 + 11) ≤ R.locals) (pc' : Nat) (hp : pc + 3 = pc')
    (K : ∀ T' h', St p l e R s m args below meth c own bytes maxL ret nm Z EL nw us T' h' cells slots → Keep h h' [b] → Arv Z h' b k' ty z' vr dd → Goes p e below s Z EL nw Q kk nn (T'.setTop (mkF m pc' Ls st))) : Goes p e below s Z EL nw Q kk nn (T.setTop (mkF m pc Ls (.int nn0 :: .int dp :: .ref b :: .int sp :: .ref a :: st))) := by
  subst hp hvr
  obtain ⟨cx, vm0, locs, Y, N, eT, hS, hZ, hown, hE, hC, hU, hWn⟩ := X
  obtain ⟨u1, u2, u3⟩ := hU b hb'
  obtain ⟨T', h', L, Y', e', N', K', A', stp⟩ := cpA Y cx.1 hZ hown w1 w2 w3 w4 eT A B (Or.inl ⟨rfl, hty⟩) h1 h2 h3 h4 h5 rfl hl N u1 (g := mkF m pc Ls (.int nn0 :: .int dp :: .ref b :: .int sp :: .ref a :: st)) rfl (by rw [cx.2.2.1]; exact hsize) rfl (hb cx.2.1 hd) hf (W := W) (by show 2 * 0 + _ ≤ _; omega) hlo
  have hsf : ∀ x ∈ [b], Safe Z EL vm0 h x := fun x hx => by cases List.mem_singleton.mp hx; exact u3
  exact (K T' h' ⟨cx, vm0, L, Y', N', e', ⟨hS.1, hS.2.mono K'.1⟩, hZ, hown, ext_keep hE K' (fun x hx => by cases List.mem_singleton.mp hx; exact u1), hC.trans (CHr.keep K' hsf hC.1), fun x hx => ⟨(hU x hx).1, Nat.lt_of_lt_of_le (hU x hx).2.1 K'.1, Safe.keep K' hsf hC.1 (hU x hx).2.2⟩, hWn⟩ K' A').step stp
/-- Object's constructor -/
theorem g_initO (X : St p l e R s m args below meth c own bytes maxL ret nm Z EL nw us T h cells slots) {ix : Nat} {a : Addr} (w1 : (Jvm.Cond.methodLink own ix Lib.objectInit).before a0 Z = true) (w2 : (Jvm.Cond.instanceMethod Lib.objectInit).before a0 Z = true) (w3 : (Jvm.Cond.code Lib.objectInit ⟨#[0xb1]⟩ 1 none).before a0 Z = true) (hsize : Ls.size = maxL)
    (hd : decode bytes pc = .ok (.invokespecial ix, 3)) (hf : 1 ≤ R.frames) (W : Nat) (hW : (st.map fun v => v.category).sum ≤ W) (hl : W + 12 ≤ R.locals) (pc' : Nat) (hp : pc + 3 = pc')
    (K : ∀ T', St p l e R s m args below meth c own bytes maxL ret nm Z EL nw us T' h cells slots → Goes p e below s Z EL nw Q kk nn (T'.setTop (mkF m pc' Ls st))) : Goes p e below s Z EL nw Q kk nn (T.setTop (mkF m pc Ls (.ref a :: st))) := by
  subst hp
  obtain ⟨cx, vm0, locs, Y, N, eT, hS, hZ, hown, r⟩ := X
  obtain ⟨T', Y', e', stp⟩ := initO Y cx.1 hZ hown w1 w2 w3 eT (g := mkF m pc Ls (.ref a :: st)) rfl (by rw [cx.2.2.1]; exact hsize) rfl (hb cx.2.1 hd) hf (W := W) (by show 2 * 0 + _ ≤ _; omega) hl
  exact (K T' ⟨cx, vm0, locs, Y', N, e', hS, hZ, hown, r⟩).step stp
/-- an array's clone -/
theorem g_clone (X : St p l e R s m args below meth c own bytes maxL ret nm Z EL nw us T h cells slots) {ad : String} {ix : Nat} {a : Addr} {k : ClassId} {ty : FieldType} {z : Int32} {vs : List Value} {dv : Value}
    (w1 : (Jvm.Cond.methodLink own ix ⟨ad, "clone", "()Ljava/lang/Object;"⟩).before a0 Z = true) (w2 : (Jvm.Cond.sameMethod ad "java/lang/Object" "clone" "()Ljava/lang/Object;").before a0 Z = true) (w3 : (Jvm.Cond.native ⟨"java/lang/Object", "clone", "()Ljava/lang/Object;"⟩).before a0 Z = true)
    (w4 : (Jvm.Cond.instanceMethod ⟨"java/lang/Object", "clone", "()Ljava/lang/Object;"⟩).before a0 Z = true) (w5 : (Jvm.Cond.selects ad ⟨ad, "clone", "()Ljava/lang/Object;"⟩ ⟨"java/lang/Object", "clone", "()Ljava/lang/Object;"⟩).before a0 Z = true) (w6 : (Jvm.Cond.castable ad "java/lang/Cloneable").before a0 Z = true)
    (A : Arv Z h a k ty z vs dv) (E : Exa Z h a ad) (hsize : Ls.size = maxL) (hd : decode bytes pc = .ok (.invokevirtual ix, 3)) (hf : 1 ≤ R.frames) (W : Nat) (hW : (st.map fun v => v.category).sum ≤ W) (hl : W + 14 ≤ R.locals) (cap : Nat) (hcap : z.toNatClampNeg ≤ cap)
    {ck cs : Nat} (hck : cells + 1 = ck) (hcs : slots + cap = cs) (hc : ck ≤ R.cells) (hs : cs ≤ R.slots) (pc' : Nat) (hp : pc + 3 = pc')
    (K : ∀ a' T' h', a' = h.size → St p l e R s m args below meth c own bytes maxL ret nm Z EL nw (a' :: us) T' h' ck cs → Ext h h' → Arv Z h' a' k ty z vs dv → Exa Z h' a' ad → Goes p e below s Z EL nw Q kk nn (T'.setTop (mkF m pc' Ls (.ref a' :: st)))) : Goes p e below s Z EL nw Q kk nn (T.setTop (mkF m pc Ls (.ref a :: st))) := by
  subst hp hck hcs
  obtain ⟨cx, vm0, locs, Y, N, eT, hS, hZ, hown, hE, hC, hU, hWn⟩ := X
  obtain ⟨T', h', Y', e', Ex, A', E', stp⟩ := cloneH Y cx.1 hZ hown w1 w2 w3 w4 w5 w6 eT A.arh E (g := mkF m pc Ls (.ref a :: st)) rfl (by rw [cx.2.2.1]; exact hsize) rfl (hb cx.2.1 hd) hf (W := W) (by show 2 * 0 + _ ≤ _; omega) hl hcap hc hs
  obtain ⟨cl, q1, q2, q3, q4, q5, q6⟩ := A'
  refine (K h.size T' h' rfl ⟨cx, vm0, locs, Y', N, e', ⟨hS.1, hS.2.mono Ex.1⟩, hZ, hown, hE.trans Ex, hC.trans (CHr.ext Ex hC.1), ?_, hWn⟩ Ex ⟨cl, q1, q2, q3, q4, fun i hi => q5 i hi, fun i hi => q6 i hi⟩ E').step stp
  intro x hx
  rcases List.mem_cons.mp hx with rfl | hx
  · exact ⟨hE.1, E'.lt, Safe.ext Ex hC.1 (Safe.new (Nat.le_refl _))⟩
  · obtain ⟨q1, q2, q3⟩ := hU x hx
    exact ⟨q1, Nat.lt_of_lt_of_le q2 Ex.1, Safe.ext Ex hC.1 q3⟩
end HeapOps
section CallOps
variable {p : Program} {l : Launch} {e : Env} {R : Room} {s : State} {m : MethodId} {args : Array Value} {below : List Frame} {meth : Method} {c : Code}
  {own : String} {bytes : ByteArray} {maxL : Nat} {ret : Option FieldType} {nm : String} {Z : State} {EL : List (String × Nat)} {nw : Bool} {us : List Addr}
  {T : State} {h : Heap} {cells slots : Nat} {Q : Option Value → Heap → Prop} {kk nn : Nat} {a0 : Array Value} {pc : Nat} {Ls : Array Slot} {st : List Value}

/-- who pays a call: the callee's contract -/
theorem backC {y : MethodName} {cb : ByteArray} {cm : Nat} {cr : Option FieldType} {rm : Room} {len W : Nat} {as' : Array Value} {us' : List Addr} {Qc : Option Value → Heap → Prop} {vm0 : Vm}
    (hM : Ctr l Z EL nw y cb cm cr rm as' h us' Qc) (hZ : Z.Warmed39 vm0) (wc : (Jvm.Cond.code y cb cm cr).before a0 Z = true) (wz : (Jvm.Cond.initialized y.cls).before a0 Z = true) (hf : rm.frames + 1 ≤ R.frames) (hl : W + (cm + 11) + rm.locals ≤ R.locals)
    {a1 : Array Value} (hEL : EW Z a1 EL) (hE : Ext Z.heap h) (H : CHv Z EL vm0 h) (hU : ∀ x ∈ us', Z.heap.size ≤ x ∧ x < h.size ∧ Safe Z EL vm0 h x) :
    BackS l R p e below (s.setVm vm0) args y len W (fun A a => a = as' ∧ A.U.heap = h ∧ A.cells + rm.cells ≤ R.cells ∧ A.slots + rm.slots ≤ R.slots)
      (fun A _ v B => ∃ L, Qc v B.U.heap ∧ Fr Z.heap.size L ∧ Ext Z.heap B.U.heap ∧ B.locs = A.locs ++ L ∧ B.cells = A.cells + rm.cells ∧ B.slots = A.slots + rm.slots ∧ CHr Z EL vm0 h B.U.vm B.U.heap ∧ (nw = true → (s.setVm vm0).WarmedH B.U.vm)) :=
  BackS.of_freeW (bytes := cb) (maxL := cm) (ret := cr)
    (E := fun _ first o t L k n => k = rm.cells ∧ n = rm.slots ∧ (∃ v, o = .returned v ∧ Qc v t.heap) ∧ Fr Z.heap.size L ∧ Ext Z.heap t.heap ∧ CHr Z EL first.vm first.heap t.vm t.heap ∧ (nw = true → first.WarmedH t.vm)) (hM []) hf hl
    (fun m meth c A a Y hp => have hU : Z.Warmed39 A.U.vm := wtrans (s := s.setVm vm0) hZ Y.warmed
      ⟨by show (Jvm.Cond.and _ .tt).before a A.U = true; rw [Jvm.Cond.before_and, mv hU wc]; rfl, mv hU wc, mv hU wz, hp.2.2.1, hp.2.2.2⟩)
    (fun m meth c A a g mk Y hp => ⟨hp.1, wtrans (s := s.setVm vm0) hZ Y.warmed, hp.2.1, hE, (CHv.at Y hZ hEL H).1, fun x hx => ⟨(hU x hx).1, (hU x hx).2.1, (CHv.at Y hZ hEL H).safe (hU x hx).2.1 (hU x hx).2.2⟩⟩) (fun _ _ _ _ _ _ _ _ _ => trivial)
    (fun _ _ _ _ ⟨v, L, h1, h2, h3, h4, h5, h6, h7⟩ => ⟨L, _, _, h6, rfl, rfl, ⟨v, h1, h2⟩, h3, h4, h5, h7⟩)
    (fun m meth c A a g mk v t L k n Y hp _ _ ⟨e1, e2, ⟨v', e3, e4⟩, e5, e6, e7, e8⟩ => by
      cases e3; subst e1 e2
      refine ⟨L, e4, e5, e6, rfl, rfl, rfl, (CHv.at Y hZ hEL H).trans ?_, fun q => State.WarmedH.trans (t := A.U) Y.warmed (e8 q)⟩
      rw [← hp.2.1]; exact e7)
/-- behind a call -/
theorem St.back {vm0 : Vm} {locs : List Loc} {B : Pt} {L : List Loc} {ck cs : Nat}
    (cx : p.tables.exec = Jvm.exec ∧ c.code = bytes ∧ c.maxLocals = maxL ∧ meth.sig.returnType = ret ∧ meth.name = nm ∧ meth.locks = false ∧ ∃ a0, EW Z a0 EL)
    (N : Fr Z.heap.size locs) (hS : s.Since vm0 h.size) (hZ : Z.Warmed39 vm0) (hown : vm0.findClass own = some m.cls) (hC : CHr Z EL s.vm s.heap vm0 h)
    (hU : ∀ x ∈ us, Z.heap.size ≤ x ∧ x < h.size ∧ Safe Z EL vm0 h x) (hW : nw = true → s.WarmedH vm0)
    (Y : Stand p l e R ((s.setVm vm0).setVm B.U.vm) m args below meth c B.U B.locs B.cells B.slots) (h2 : (s.setVm vm0).Since B.U.vm B.U.heap.size) (hg : h.size ≤ B.U.heap.size)
    (N' : Fr Z.heap.size L) (hE : Ext Z.heap B.U.heap) (l1 : B.locs = locs ++ L) (l2 : B.cells = ck) (l3 : B.slots = cs) (hC' : CHr Z EL vm0 h B.U.vm B.U.heap) (hW' : nw = true → (s.setVm vm0).WarmedH B.U.vm) :
    St p l e R s m args below meth c own bytes maxL ret nm Z EL nw us B.U B.U.heap ck cs := by
  subst l2 l3
  rw [l1] at Y
  exact ⟨cx, B.U.vm, locs ++ L, Y, N.app N', rfl, hS.trans h2 hg, State.Warmed39.trans hZ h2.1, (h2.1.alike.findClass _ _).trans hown, hE, hC.trans hC', fun x hx => ⟨(hU x hx).1, Nat.lt_of_lt_of_le (hU x hx).2.1 hg, hC'.safe (hU x hx).2.1 (hU x hx).2.2⟩, fun q => State.WarmedH.trans (t := s.setVm vm0) (hW q) (hW' q)⟩
theorem g_callS (X : St p l e R s m args below meth c own bytes maxL ret nm Z EL nw us T h cells slots) {y : MethodName} {cb : ByteArray} {cm : Nat} {cr : Option FieldType} {rm : Room} {as' : Array Value} {us' : List Addr} {Qc : Option Value → Heap → Prop} {ix : Nat}
    (w1 : (Jvm.Cond.methodLink own ix y).before a0 Z = true) (w2 : (Jvm.Cond.static y).before a0 Z = true) (w3 : (Jvm.Cond.initialized y.cls).before a0 Z = true) (w4 : (Jvm.Cond.code y cb cm cr).before a0 Z = true)
    (hy : y.cls ≠ "java/lang/invoke/MethodHandle" ∧ y.cls ≠ "java/lang/invoke/VarHandle") (hM : Ctr l Z EL nw y cb cm cr rm as' h us' Qc) (hus : ∀ x ∈ us', x ∈ us)
    {argsL rest : List Value} {ps : List FieldType} {rt : Option FieldType} (hpd : parseMethodDescriptor y.desc = some ⟨ps, rt⟩) (hlen : argsL.length = ps.length) (has : argsL.toArray = as') (hst : st = argsL.reverse ++ rest) (hsize : Ls.size = maxL)
    (W : Nat) (hW : (rest.map fun v => v.category).sum ≤ W) (hf : rm.frames + 1 ≤ R.frames) (hl : W + (cm + 11) + rm.locals ≤ R.locals) {ck cs : Nat} (hck : cells + rm.cells = ck) (hcs : slots + rm.slots = cs) (hc : ck ≤ R.cells) (hs : cs ≤ R.slots)
    (hd : decode bytes pc = .ok (.invokestatic ix, 3)) (pc' : Nat) (hp : pc + 3 = pc')
    (K : ∀ v T' h', St p l e R s m args below meth c own bytes maxL ret nm Z EL nw us T' h' ck cs → Qc v h' → Goes p e below s Z EL nw Q kk nn (T'.setTop (mkF m pc' Ls (v.toList ++ rest)))) : Goes p e below s Z EL nw Q kk nn (T.setTop (mkF m pc Ls st)) := by
  subst hp hck hcs
  obtain ⟨cx, vm0, locs, Y, N, eT, hS, hZ, hown, hE, hC, hU, hWn⟩ := X
  obtain ⟨a1, hEL⟩ := cx.2.2.2.2.2.2
  have w4' := mvT (s := s.setVm vm0) (args := args) hZ w4
  obtain ⟨mk, hnamed⟩ := Jvm.Cond.code_named w4'
  obtain ⟨methM, cM, hmethM, -, -, -, -, -, -, hsigM⟩ := Jvm.Cond.code_spec hnamed w4'
  obtain ⟨v, vm₁, B, -, Y', h2, hg, ⟨L, q1, q2, q3, q4, q5, q6, q7, q8⟩, stp⟩ := Y.staticBackS cx.1 (own := own) (index := ix) (y := y) hown (mvT (s := s.setVm vm0) hZ w1) (mvT (s := s.setVm vm0) hZ w2) (mvT (s := s.setVm vm0) hZ w3) hnamed hmethM hsigM hy
    (backC (W := W) hM hZ w4 w3 hf hl hEL hE hC.1 fun x hx => hU x (hus x hx)) (g := mkF m pc Ls st) rfl (by rw [cx.2.2.1]; exact hsize) (Steps.refl _) (argsL := argsL) (rest := rest) (lenOf hpd hlen) hst (by show 2 * 0 + _ ≤ _; omega) (hb cx.2.1 hd)
    (fun _ _ => ⟨has, eT, hc, hs⟩)
  exact (K v B.U B.U.heap (St.back cx N hS hZ hown hC hU hWn Y' h2 (by rw [← eT]; exact hg) q2 q3 q4 q5 q6 q7 q8) q1).step fun t k => stp.trans k
theorem g_callI (X : St p l e R s m args below meth c own bytes maxL ret nm Z EL nw us T h cells slots) {y : MethodName} {cb : ByteArray} {cm : Nat} {rm : Room} {as' : Array Value} {us' : List Addr} {Qc : Option Value → Heap → Prop} {ix : Nat} (hy1 : y.name = "<init>")
    (w1 : (Jvm.Cond.methodLink own ix y).before a0 Z = true) (w2 : (Jvm.Cond.instanceMethod y).before a0 Z = true) (w3 : (Jvm.Cond.initialized y.cls).before a0 Z = true) (w4 : (Jvm.Cond.code y cb cm none).before a0 Z = true)
    (hy : y.cls ≠ "java/lang/invoke/MethodHandle" ∧ y.cls ≠ "java/lang/invoke/VarHandle") (hM : Ctr l Z EL nw y cb cm none rm as' h us' Qc) (hus : ∀ x ∈ us', x ∈ us)
    {a : Addr} {argsL rest : List Value} {ps : List FieldType} {rt : Option FieldType} (hpd : parseMethodDescriptor y.desc = some ⟨ps, rt⟩) (hlen : argsL.length = ps.length) (has : (.ref a :: argsL).toArray = as') (hst : st = argsL.reverse ++ .ref a :: rest) (hsize : Ls.size = maxL)
    (W : Nat) (hW : (rest.map fun v => v.category).sum ≤ W) (hf : rm.frames + 1 ≤ R.frames) (hl : W + (cm + 11) + rm.locals ≤ R.locals) {ck cs : Nat} (hck : cells + rm.cells = ck) (hcs : slots + rm.slots = cs) (hc : ck ≤ R.cells) (hs : cs ≤ R.slots)
    (hd : decode bytes pc = .ok (.invokespecial ix, 3)) (pc' : Nat) (hp : pc + 3 = pc')
    (K : ∀ v T' h', St p l e R s m args below meth c own bytes maxL ret nm Z EL nw us T' h' ck cs → Qc v h' → Goes p e below s Z EL nw Q kk nn (T'.setTop (mkF m pc' Ls (v.toList ++ rest)))) : Goes p e below s Z EL nw Q kk nn (T.setTop (mkF m pc Ls st)) := by
  subst hp hck hcs
  obtain ⟨cx, vm0, locs, Y, N, eT, hS, hZ, hown, hE, hC, hU, hWn⟩ := X
  obtain ⟨a1, hEL⟩ := cx.2.2.2.2.2.2
  obtain ⟨v, vm₁, B, -, Y', h2, hg, ⟨L, q1, q2, q3, q4, q5, q6, q7, q8⟩, stp⟩ := Y.specialBackS cx.1 (own := own) (index := ix) (y := y) hy1 hown (mvT (s := s.setVm vm0) hZ w1) (mvT (s := s.setVm vm0) hZ w2) (mvT (s := s.setVm vm0) hZ w4) hy
    (backC (W := W) hM hZ w4 w3 hf hl hEL hE hC.1 fun x hx => hU x (hus x hx)) (g := mkF m pc Ls st) rfl (by rw [cx.2.2.1]; exact hsize) (Steps.refl _) (a := a) (argsL := argsL) (rest := rest) (lenOf hpd hlen) hst (by show 2 * 0 + _ ≤ _; omega) (hb cx.2.1 hd)
    (fun _ _ => ⟨has, eT, hc, hs⟩)
  exact (K v B.U B.U.heap (St.back cx N hS hZ hown hC hU hWn Y' h2 (by rw [← eT]; exact hg) q2 q3 q4 q5 q6 q7 q8) q1).step fun t k => stp.trans k
theorem nfSel {C : String} {y : MethodName} (w : (Jvm.Cond.selects C y y).before a0 Z = true) : ∀ s' : State, Z.Warmed39 s'.vm → NotFace s' y := fun s' hZ => notFace_of_selects (args := #[]) (mvT (s := s') hZ w)
theorem g_callV (X : St p l e R s m args below meth c own bytes maxL ret nm Z EL nw us T h cells slots) {C : String} {y z : MethodName} {cb : ByteArray} {cm : Nat} {cr : Option FieldType} {rm : Room} {as' : Array Value} {us' : List Addr} {Qc : Option Value → Heap → Prop} {ix : Nat}
    (w1 : (Jvm.Cond.methodLink own ix y).before a0 Z = true) (w2 : (Jvm.Cond.declares y).before a0 Z = true) (w3 : (Jvm.Cond.selects C y z).before a0 Z = true) (w4 : (Jvm.Cond.instanceMethod z).before a0 Z = true) (w5 : (Jvm.Cond.initialized z.cls).before a0 Z = true) (w6 : (Jvm.Cond.code z cb cm cr).before a0 Z = true)
    (hnf : ∀ s' : State, Z.Warmed39 s'.vm → NotFace s' y) (hy : y.cls ≠ "java/lang/invoke/MethodHandle" ∧ y.cls ≠ "java/lang/invoke/VarHandle") {a : Addr} (Ex : Exa Z h a C) (hM : Ctr l Z EL nw z cb cm cr rm as' h us' Qc) (hus : ∀ x ∈ us', x ∈ us)
    {argsL rest : List Value} {ps : List FieldType} {rt : Option FieldType} (hpd : parseMethodDescriptor y.desc = some ⟨ps, rt⟩) (hlen : argsL.length = ps.length) (has : (.ref a :: argsL).toArray = as') (hst : st = argsL.reverse ++ .ref a :: rest) (hsize : Ls.size = maxL)
    (W : Nat) (hW : (rest.map fun v => v.category).sum ≤ W) (hf : rm.frames + 1 ≤ R.frames) (hl : W + (cm + 11) + rm.locals ≤ R.locals) {ck cs : Nat} (hck : cells + rm.cells = ck) (hcs : slots + rm.slots = cs) (hc : ck ≤ R.cells) (hs : cs ≤ R.slots)
    (hd : decode bytes pc = .ok (.invokevirtual ix, 3)) (pc' : Nat) (hp : pc + 3 = pc')
    (K : ∀ v T' h', St p l e R s m args below meth c own bytes maxL ret nm Z EL nw us T' h' ck cs → Qc v h' → Goes p e below s Z EL nw Q kk nn (T'.setTop (mkF m pc' Ls (v.toList ++ rest)))) : Goes p e below s Z EL nw Q kk nn (T.setTop (mkF m pc Ls st)) := by
  subst hp hck hcs
  obtain ⟨cx, vm0, locs, Y, N, eT, hS, hZ, hown, hE, hC, hU, hWn⟩ := X
  obtain ⟨a1, hEL⟩ := cx.2.2.2.2.2.2
  obtain ⟨cq, kq, qa, qb, qc⟩ := isOf (s := s.setVm vm0) hZ eT Ex
  obtain ⟨v, vm₁, B, -, Y', h2, hg, ⟨L, q1, q2, q3, q4, q5, q6, q7, q8⟩, stp⟩ := Y.virtualBackS cx.1 (own := own) (index := ix) (y := y) (z := z) hown (mvT (s := s.setVm vm0) hZ w1) (mvT (s := s.setVm vm0) hZ w2) (hnf (s.setVm vm0) hZ) (mvT (s := s.setVm vm0) hZ w3) (mvT (s := s.setVm vm0) hZ w4) hy
    (backC (W := W) hM hZ w6 w5 hf hl hEL hE hC.1 fun x hx => hU x (hus x hx)) qa qc (g := mkF m pc Ls st) rfl (by rw [cx.2.2.1]; exact hsize) (Steps.refl _) (argsL := argsL) (rest := rest) (lenOf hpd hlen) hst (by show 2 * 0 + _ ≤ _; omega) (hb cx.2.1 hd)
    (fun _ _ => ⟨has, eT, hc, hs⟩)
  exact (K v B.U B.U.heap (St.back cx N hS hZ hown hC hU hWn Y' h2 (by rw [← eT]; exact hg) q2 q3 q4 q5 q6 q7 q8) q1).step fun t k => stp.trans k
theorem g_callSp (X : St p l e R s m args below meth c own bytes maxL ret nm Z EL nw us T h cells slots) {y : MethodName} {cb : ByteArray} {cm : Nat} {cr : Option FieldType} {rm : Room} {as' : Array Value} {us' : List Addr} {Qv : Value → Prop} {ix : Nat}
    (w1 : (Jvm.Cond.methodLink own ix y).before a0 Z = true) (w2 : (Jvm.Cond.static y).before a0 Z = true) (w3 : (Jvm.Cond.initialized y.cls).before a0 Z = true) (w4 : (Jvm.Cond.code y cb cm cr).before a0 Z = true)
    (hy : y.cls ≠ "java/lang/invoke/MethodHandle" ∧ y.cls ≠ "java/lang/invoke/VarHandle") (hM : Ctr l Z EL nw y cb cm cr rm as' h us' (PureQ h Qv)) (hus : ∀ x ∈ us', x ∈ us)
    {argsL rest : List Value} {ps : List FieldType} {rt : Option FieldType} (hpd : parseMethodDescriptor y.desc = some ⟨ps, rt⟩) (hlen : argsL.length = ps.length) (has : argsL.toArray = as') (hst : st = argsL.reverse ++ rest) (hsize : Ls.size = maxL)
    (W : Nat) (hW : (rest.map fun v => v.category).sum ≤ W) (hf : rm.frames + 1 ≤ R.frames) (hl : W + (cm + 11) + rm.locals ≤ R.locals) {ck cs : Nat} (hck : cells + rm.cells = ck) (hcs : slots + rm.slots = cs) (hc : ck ≤ R.cells) (hs : cs ≤ R.slots)
    (hd : decode bytes pc = .ok (.invokestatic ix, 3)) (pc' : Nat) (hp : pc + 3 = pc')
    (K : ∀ w T', St p l e R s m args below meth c own bytes maxL ret nm Z EL nw us T' h ck cs → Qv w → Goes p e below s Z EL nw Q kk nn (T'.setTop (mkF m pc' Ls (w :: rest)))) : Goes p e below s Z EL nw Q kk nn (T.setTop (mkF m pc Ls st)) :=
  g_callS X w1 w2 w3 w4 hy hM hus hpd hlen has hst hsize W hW hf hl hck hcs hc hs hd pc' hp (by
    intro v T' h' X' hq
    obtain ⟨rfl, w, rfl, hw⟩ := hq
    exact K w T' X' hw)
theorem g_callSv (X : St p l e R s m args below meth c own bytes maxL ret nm Z EL nw us T h cells slots) {y : MethodName} {cb : ByteArray} {cm : Nat} {cr : Option FieldType} {rm : Room} {as' : Array Value} {us' : List Addr} {Qv : Value → Heap → Prop} {ix : Nat}
    (w1 : (Jvm.Cond.methodLink own ix y).before a0 Z = true) (w2 : (Jvm.Cond.static y).before a0 Z = true) (w3 : (Jvm.Cond.initialized y.cls).before a0 Z = true) (w4 : (Jvm.Cond.code y cb cm cr).before a0 Z = true)
    (hy : y.cls ≠ "java/lang/invoke/MethodHandle" ∧ y.cls ≠ "java/lang/invoke/VarHandle") (hM : Ctr l Z EL nw y cb cm cr rm as' h us' (ValQ Qv)) (hus : ∀ x ∈ us', x ∈ us)
    {argsL rest : List Value} {ps : List FieldType} {rt : Option FieldType} (hpd : parseMethodDescriptor y.desc = some ⟨ps, rt⟩) (hlen : argsL.length = ps.length) (has : argsL.toArray = as') (hst : st = argsL.reverse ++ rest) (hsize : Ls.size = maxL)
    (W : Nat) (hW : (rest.map fun v => v.category).sum ≤ W) (hf : rm.frames + 1 ≤ R.frames) (hl : W + (cm + 11) + rm.locals ≤ R.locals) {ck cs : Nat} (hck : cells + rm.cells = ck) (hcs : slots + rm.slots = cs) (hc : ck ≤ R.cells) (hs : cs ≤ R.slots)
    (hd : decode bytes pc = .ok (.invokestatic ix, 3)) (pc' : Nat) (hp : pc + 3 = pc')
    (K : ∀ w T' h', St p l e R s m args below meth c own bytes maxL ret nm Z EL nw us T' h' ck cs → Qv w h' → Goes p e below s Z EL nw Q kk nn (T'.setTop (mkF m pc' Ls (w :: rest)))) : Goes p e below s Z EL nw Q kk nn (T.setTop (mkF m pc Ls st)) :=
  g_callS X w1 w2 w3 w4 hy hM hus hpd hlen has hst hsize W hW hf hl hck hcs hc hs hd pc' hp (by
    intro v T' h' X' hq
    obtain ⟨w, rfl, hw⟩ := hq
    exact K w T' h' X' hw)
theorem g_callSn (X : St p l e R s m args below meth c own bytes maxL ret nm Z EL nw us T h cells slots) {y : MethodName} {cb : ByteArray} {cm : Nat} {cr : Option FieldType} {rm : Room} {as' : Array Value} {us' : List Addr} {Qn : Heap → Prop} {ix : Nat}
    (w1 : (Jvm.Cond.methodLink own ix y).before a0 Z = true) (w2 : (Jvm.Cond.static y).before a0 Z = true) (w3 : (Jvm.Cond.initialized y.cls).before a0 Z = true) (w4 : (Jvm.Cond.code y cb cm cr).before a0 Z = true)
    (hy : y.cls ≠ "java/lang/invoke/MethodHandle" ∧ y.cls ≠ "java/lang/invoke/VarHandle") (hM : Ctr l Z EL nw y cb cm cr rm as' h us' (VoidQ Qn)) (hus : ∀ x ∈ us', x ∈ us)
    {argsL rest : List Value} {ps : List FieldType} {rt : Option FieldType} (hpd : parseMethodDescriptor y.desc = some ⟨ps, rt⟩) (hlen : argsL.length = ps.length) (has : argsL.toArray = as') (hst : st = argsL.reverse ++ rest) (hsize : Ls.size = maxL)
    (W : Nat) (hW : (rest.map fun v => v.category).sum ≤ W) (hf : rm.frames + 1 ≤ R.frames) (hl : W + (cm + 11) + rm.locals ≤ R.locals) {ck cs : Nat} (hck : cells + rm.cells = ck) (hcs : slots + rm.slots = cs) (hc : ck ≤ R.cells) (hs : cs ≤ R.slots)
    (hd : decode bytes pc = .ok (.invokestatic ix, 3)) (pc' : Nat) (hp : pc + 3 = pc')
    (K : ∀ T' h', St p l e R s m args below meth c own bytes maxL ret nm Z EL nw us T' h' ck cs → Qn h' → Goes p e below s Z EL nw Q kk nn (T'.setTop (mkF m pc' Ls rest))) : Goes p e below s Z EL nw Q kk nn (T.setTop (mkF m pc Ls st)) :=
  g_callS X w1 w2 w3 w4 hy hM hus hpd hlen has hst hsize W hW hf hl hck hcs hc hs hd pc' hp (by
    intro v T' h' X' hq
    obtain ⟨rfl, hw⟩ := hq
    exact K T' h' X' hw)
theorem g_callIn (X : St p l e R s m args below meth c own bytes maxL ret nm Z EL nw us T h cells slots) {y : MethodName} {cb : ByteArray} {cm : Nat} {rm : Room} {as' : Array Value} {us' : List Addr} {Qn : Heap → Prop} {ix : Nat} (hy1 : y.name = "<init>")
    (w1 : (Jvm.Cond.methodLink own ix y).before a0 Z = true) (w2 : (Jvm.Cond.instanceMethod y).before a0 Z = true) (w3 : (Jvm.Cond.initialized y.cls).before a0 Z = true) (w4 : (Jvm.Cond.code y cb cm none).before a0 Z = true)
    (hy : y.cls ≠ "java/lang/invoke/MethodHandle" ∧ y.cls ≠ "java/lang/invoke/VarHandle") (hM : Ctr l Z EL nw y cb cm none rm as' h us' (VoidQ Qn)) (hus : ∀ x ∈ us', x ∈ us)
    {a : Addr} {argsL rest : List Value} {ps : List FieldType} {rt : Option FieldType} (hpd : parseMethodDescriptor y.desc = some ⟨ps, rt⟩) (hlen : argsL.length = ps.length) (has : (.ref a :: argsL).toArray = as') (hst : st = argsL.reverse ++ .ref a :: rest) (hsize : Ls.size = maxL)
    (W : Nat) (hW : (rest.map fun v => v.category).sum ≤ W) (hf : rm.frames + 1 ≤ R.frames) (hl : W + (cm + 11) + rm.locals ≤ R.locals) {ck cs : Nat} (hck : cells + rm.cells = ck) (hcs : slots + rm.slots = cs) (hc : ck ≤ R.cells) (hs : cs ≤ R.slots)
    (hd : decode bytes pc = .ok (.invokespecial ix, 3)) (pc' : Nat) (hp : pc + 3 = pc')
    (K : ∀ T' h', St p l e R s m args below meth c own bytes maxL ret nm Z EL nw us T' h' ck cs → Qn h' → Goes p e below s Z EL nw Q kk nn (T'.setTop (mkF m pc' Ls rest))) : Goes p e below s Z EL nw Q kk nn (T.setTop (mkF m pc Ls st)) :=
  g_callI X hy1 w1 w2 w3 w4 hy hM hus hpd hlen has hst hsize W hW hf hl hck hcs hc hs hd pc' hp (by
    intro v T' h' X' hq
    obtain ⟨rfl, hw⟩ := hq
    exact K T' h' X' hw)
theorem g_callVp (X : St p l e R s m args below meth c own bytes maxL ret nm Z EL nw us T h cells slots) {C : String} {y z : MethodName} {cb : ByteArray} {cm : Nat} {cr : Option FieldType} {rm : Room} {as' : Array Value} {us' : List Addr} {Qv : Value → Prop} {ix : Nat}
    (w1 : (Jvm.Cond.methodLink own ix y).before a0 Z = true) (w2 : (Jvm.Cond.declares y).before a0 Z = true) (w3 : (Jvm.Cond.selects C y z).before a0 Z = true) (w4 : (Jvm.Cond.instanceMethod z).before a0 Z = true) (w5 : (Jvm.Cond.initialized z.cls).before a0 Z = true) (w6 : (Jvm.Cond.code z cb cm cr).before a0 Z = true)
    (hnf : ∀ s' : State, Z.Warmed39 s'.vm → NotFace s' y) (hy : y.cls ≠ "java/lang/invoke/MethodHandle" ∧ y.cls ≠ "java/lang/invoke/VarHandle") {a : Addr} (Ex : Exa Z h a C) (hM : Ctr l Z EL nw z cb cm cr rm as' h us' (PureQ h Qv)) (hus : ∀ x ∈ us', x ∈ us)
    {argsL rest : List Value} {ps : List FieldType} {rt : Option FieldType} (hpd : parseMethodDescriptor y.desc = some ⟨ps, rt⟩) (hlen : argsL.length = ps.length) (has : (.ref a :: argsL).toArray = as') (hst : st = argsL.reverse ++ .ref a :: rest) (hsize : Ls.size = maxL)
    (W : Nat) (hW : (rest.map fun v => v.category).sum ≤ W) (hf : rm.frames + 1 ≤ R.frames) (hl : W + (cm + 11) + rm.locals ≤ R.locals) {ck cs : Nat} (hck : cells + rm.cells = ck) (hcs : slots + rm.slots = cs) (hc : ck ≤ R.cells) (hs : cs ≤ R.slots)
    (hd : decode bytes pc = .ok (.invokevirtual ix, 3)) (pc' : Nat) (hp : pc + 3 = pc')
    (K : ∀ w T', St p l e R s m args below meth c own bytes maxL ret nm Z EL nw us T' h ck cs → Qv w → Goes p e below s Z EL nw Q kk nn (T'.setTop (mkF m pc' Ls (w :: rest)))) : Goes p e below s Z EL nw Q kk nn (T.setTop (mkF m pc Ls st)) :=
  g_callV X w1 w2 w3 w4 w5 w6 hnf hy Ex hM hus hpd hlen has hst hsize W hW hf hl hck hcs hc hs hd pc' hp (by
    intro v T' h' X' hq
    obtain ⟨rfl, w, rfl, hw⟩ := hq
    exact K w T' X' hw)
theorem g_callVv (X : St p l e R s m args below meth c own bytes maxL ret nm Z EL nw us T h cells slots) {C : String} {y z : MethodName} {cb : ByteArray} {cm : Nat} {cr : Option FieldType} {rm : Room} {as' : Array Value} {us' : List Addr} {Qv : Value → Heap → Prop} {ix : Nat}
    (w1 : (Jvm.Cond.methodLink own ix y).before a0 Z = true) (w2 : (Jvm.Cond.declares y).before a0 Z = true) (w3 : (Jvm.Cond.selects C y z).before a0 Z = true) (w4 : (Jvm.Cond.instanceMethod z).before a0 Z = true) (w5 : (Jvm.Cond.initialized z.cls).before a0 Z = true) (w6 : (Jvm.Cond.code z cb cm cr).before a0 Z = true)
    (hnf : ∀ s' : State, Z.Warmed39 s'.vm → NotFace s' y) (hy : y.cls ≠ "java/lang/invoke/MethodHandle" ∧ y.cls ≠ "java/lang/invoke/VarHandle") {a : Addr} (Ex : Exa Z h a C) (hM : Ctr l Z EL nw z cb cm cr rm as' h us' (ValQ Qv)) (hus : ∀ x ∈ us', x ∈ us)
    {argsL rest : List Value} {ps : List FieldType} {rt : Option FieldType} (hpd : parseMethodDescriptor y.desc = some ⟨ps, rt⟩) (hlen : argsL.length = ps.length) (has : (.ref a :: argsL).toArray = as') (hst : st = argsL.reverse ++ .ref a :: rest) (hsize : Ls.size = maxL)
    (W : Nat) (hW : (rest.map fun v => v.category).sum ≤ W) (hf : rm.frames + 1 ≤ R.frames) (hl : W + (cm + 11) + rm.locals ≤ R.locals) {ck cs : Nat} (hck : cells + rm.cells = ck) (hcs : slots + rm.slots = cs) (hc : ck ≤ R.cells) (hs : cs ≤ R.slots)
    (hd : decode bytes pc = .ok (.invokevirtual ix, 3)) (pc' : Nat) (hp : pc + 3 = pc')
    (K : ∀ w T' h', St p l e R s m args below meth c own bytes maxL ret nm Z EL nw us T' h' ck cs → Qv w h' → Goes p e below s Z EL nw Q kk nn (T'.setTop (mkF m pc' Ls (w :: rest)))) : Goes p e below s Z EL nw Q kk nn (T.setTop (mkF m pc Ls st)) :=
  g_callV X w1 w2 w3 w4 w5 w6 hnf hy Ex hM hus hpd hlen has hst hsize W hW hf hl hck hcs hc hs hd pc' hp (by
    intro v T' h' X' hq
    obtain ⟨w, rfl, hw⟩ := hq
    exact K w T' h' X' hw)
theorem g_callVn (X : St p l e R s m args below meth c own bytes maxL ret nm Z EL nw us T h cells slots) {C : String} {y z : MethodName} {cb : ByteArray} {cm : Nat} {cr : Option FieldType} {rm : Room} {as' : Array Value} {us' : List Addr} {Qn : Heap → Prop} {ix : Nat}
    (w1 : (Jvm.Cond.methodLink own ix y).before a0 Z = true) (w2 : (Jvm.Cond.declares y).before a0 Z = true) (w3 : (Jvm.Cond.selects C y z).before a0 Z = true) (w4 : (Jvm.Cond.instanceMethod z).before a0 Z = true) (w5 : (Jvm.Cond.initialized z.cls).before a0 Z = true) (w6 : (Jvm.Cond.code z cb cm cr).before a0 Z = true)
    (hnf : ∀ s' : State, Z.Warmed39 s'.vm → NotFace s' y) (hy : y.cls ≠ "java/lang/invoke/MethodHandle" ∧ y.cls ≠ "java/lang/invoke/VarHandle") {a : Addr} (Ex : Exa Z h a C) (hM : Ctr l Z EL nw z cb cm cr rm as' h us' (VoidQ Qn)) (hus : ∀ x ∈ us', x ∈ us)
    {argsL rest : List Value} {ps : List FieldType} {rt : Option FieldType} (hpd : parseMethodDescriptor y.desc = some ⟨ps, rt⟩) (hlen : argsL.length = ps.length) (has : (.ref a :: argsL).toArray = as') (hst : st = argsL.reverse ++ .ref a :: rest) (hsize : Ls.size = maxL)
    (W : Nat) (hW : (rest.map fun v => v.category).sum ≤ W) (hf : rm.frames + 1 ≤ R.frames) (hl : W + (cm + 11) + rm.locals ≤ R.locals) {ck cs : Nat} (hck : cells + rm.cells = ck) (hcs : slots + rm.slots = cs) (hc : ck ≤ R.cells) (hs : cs ≤ R.slots)
    (hd : decode bytes pc = .ok (.invokevirtual ix, 3)) (pc' : Nat) (hp : pc + 3 = pc')
    (K : ∀ T' h', St p l e R s m args below meth c own bytes maxL ret nm Z EL nw us T' h' ck cs → Qn h' → Goes p e below s Z EL nw Q kk nn (T'.setTop (mkF m pc' Ls rest))) : Goes p e below s Z EL nw Q kk nn (T.setTop (mkF m pc Ls st)) :=
  g_callV X w1 w2 w3 w4 w5 w6 hnf hy Ex hM hus hpd hlen has hst hsize W hW hf hl hck hcs hc hs hd pc' hp (by
    intro v T' h' X' hq
    obtain ⟨rfl, hw⟩ := hq
    exact K T' h' X' hw)
end CallOps
end Jvm.OwnKit
namespace Jvm.OwnKit
open Sem ClassFile Op Lib Jvm.Stand Jvm.Free Jvm.LawKit Jvm.RoadKit
section StartFacts
variable {args : Array Value} {s : State} {t X F : Term} {a y : Addr}
theorem own_eqr (hF : F.eval args s none [] s = some (.ref y)) (h : (Jvm.Cond.eq X F).value args s none s [] = some true) : X.eval args s none [] s = some (.ref y) := by
  obtain ⟨x, y', e1, e2, k1, k2⟩ := cmp_v (Or.inl h)
  cases hF.symm.trans e2
  have hx : x.isRef = true := by cases x <;> simp_all [Jvm.Cond.value, Value.isRef]
  have q := gotT (eq_R e1 hF hx rfl) h
  rw [e1, q]
theorem own_fldI {C n d : String} {v : Int32} (ht : t.eval args s none [] s = some (.ref a)) (h : (Jvm.Cond.eq (.field t C n d) (.int v)).value args s none s [] = some true) : Fld s s.heap a C n d (.int v) := by
  have e := eqv_i (Term.int_eval v) h
  rw [fld_at ht] at e
  exact Fld.start e
theorem own_fld0 {C n d : String} (ht : t.eval args s none [] s = some (.ref a)) (h : (Jvm.Cond.eq (.field t C n d) .null).value args s none s [] = some true) : Fld s s.heap a C n d .null := by
  have e := null_v h
  rw [fld_at ht] at e
  exact Fld.start e
theorem own_fldR {C n d : String} {F : Term} (ht : t.eval args s none [] s = some (.ref a)) (hF : F.eval args s none [] s = some (.ref y)) (h : (Jvm.Cond.eq (.field t C n d) F).value args s none s [] = some true) : Fld s s.heap a C n d (.ref y) := by
  have e := own_eqr hF h
  rw [fld_at ht] at e
  exact Fld.start e
theorem own_len {cl : Cell} {ty : FieldType} {z : Int32} (A : Arr s s.heap a cl ty) (ht : t.eval args s none [] s = some (.ref a)) (h : (Jvm.Cond.eq (.length t) (.int z)).value args s none s [] = some true) : cl.slots.size < 2 ^ 31 ∧ cl.slots.size.toInt32 = z := by
  have e := eqv_i (Term.int_eval z) h
  have ha := Arr.fin (U := s) (Vm.Alike.refl _) A
  have e2 : (Term.length t).eval args s none [] s = if cl.slots.size < 2 ^ 31 then some (.int cl.slots.size.toInt32) else none := by simp [Term.eval, ht, ha]
  rw [e2] at e
  by_cases q : cl.slots.size < 2 ^ 31
  · rw [if_pos q] at e
    exact ⟨q, Value.int.inj (Option.some.inj e)⟩
  · rw [if_neg q] at e; cases e
theorem own_elem {cl : Cell} {ty : FieldType} {j : Int32} {F : Term} (A : Arr s s.heap a cl ty) (ht : t.eval args s none [] s = some (.ref a)) (hF : F.eval args s none [] s = some (.ref y)) (h : (Jvm.Cond.eq (.elem t (.int j)) F).value args s none s [] = some true) : cl.slots[j.toNatClampNeg]? = some (.ref y) :=
  (elem_in (own_eqr hF h) ht (Term.int_eval j) A.1).2
end StartFacts
end Jvm.OwnKit
namespace Jvm.Pilot.@@N@@
open Jvm Jvm.ClassFile Sem Op Lib Jvm.Free Jvm.Stand Jvm.LawKit Jvm.RoadKit Bundle Jvm.OwnKit Jvm.Pilot.@@N@@.Jvm.D
def EL : List (String × Nat) := []
abbrev nw : Bool := true
def Gl (Z : State) (a0 : Array Value) : Prop := (∀ d ∈ tables_1, d.before a0 Z = true) ∧ EW Z a0 EL
theorem pd_0 : parseMethodDescriptor "()Z" = some ⟨[], (some .boolean)⟩ := by decide +kernel
theorem pd_1 : parseMethodDescriptor "()Ljava/lang/Object;" = some ⟨[], (some (.object "java/lang/Object"))⟩ := by decide +kernel
theorem pd_2 : parseMethodDescriptor "(Ljava/lang/Object;)V" = some ⟨[(.object "java/lang/Object")], none⟩ := by decide +kernel
theorem pd_3 : parseMethodDescriptor "(Ljava/lang/Object;)Ljava/lang/Object;" = some ⟨[(.object "java/lang/Object")], (some (.object "java/lang/Object"))⟩ := by decide +kernel
theorem pd_4 : parseMethodDescriptor "(Ljava/lang/Object;)Ljava/util/Optional;" = some ⟨[(.object "java/lang/Object")], (some (.object "java/util/Optional"))⟩ := by decide +kernel
theorem pd_5 : parseMethodDescriptor "()Ljava/util/Optional;" = some ⟨[], (some (.object "java/util/Optional"))⟩ := by decide +kernel
theorem pd_6 : parseMethodDescriptor "()[Lcom/example/rowpath/rowpath/core/NodeMatch$Tier;" = some ⟨[], (some (.array (.object "com/example/rowpath/rowpath/core/NodeMatch$Tier")))⟩ := by decide +kernel
theorem pd_7 : parseMethodDescriptor "(ZZZ)Ljava/util/Optional;" = some ⟨[.boolean, .boolean, .boolean], (some (.object "java/util/Optional"))⟩ := by decide +kernel
theorem pd_8 : parseMethodDescriptor "(ZZZ)Lcom/example/rowpath/rowpath/core/NodeMatch$Tier;" = some ⟨[.boolean, .boolean, .boolean], (some (.object "com/example/rowpath/rowpath/core/NodeMatch$Tier"))⟩ := by decide +kernel
theorem pd_9 : parseMethodDescriptor "()Lcom/example/rowpath/rowpath/core/NodeMatch$Tier;" = some ⟨[], (some (.object "com/example/rowpath/rowpath/core/NodeMatch$Tier"))⟩ := by decide +kernel
def Tiers (Z : State) (b0 b1 b2 b3 b4 b5 bv eo : Addr) (kv : ClassId) : Prop := Sta Z Z.heap "com/example/rowpath/rowpath/core/NodeMatch$Tier" "LEVEL_TYPE_ID" "Lcom/example/rowpath/rowpath/core/NodeMatch$Tier;" (.ref b0) ∧ Exa Z Z.heap b0 "com/example/rowpath/rowpath/core/NodeMatch$Tier" ∧ Fld Z Z.heap b0 "com/example/rowpath/rowpath/core/NodeMatch$Tier" "level" "Z" (.int (1 : Int32)) ∧ Fld Z Z.heap b0 "com/example/rowpath/rowpath/core/NodeMatch$Tier" "type" "Z" (.int (1 : Int32)) ∧ Fld Z Z.heap b0 "com/example/rowpath/rowpath/core/NodeMatch$Tier" "id" "Z" (.int (1 : Int32)) ∧ Sta Z Z.heap "com/example/rowpath/rowpath/core/NodeMatch$Tier" "TYPE_ID" "Lcom/example/rowpath/rowpath/core/NodeMatch$Tier;" (.ref b1) ∧ Exa Z Z.heap b1 "com/example/rowpath/rowpath/core/NodeMatch$Tier" ∧ Fld Z Z.heap b1 "com/example/rowpath/rowpath/core/NodeMatch$Tier" "level" "Z" (.int (0 : Int32)) ∧ Fld Z Z.heap b1 "com/example/rowpath/rowpath/core/NodeMatch$Tier" "type" "Z" (.int (1 : Int32)) ∧ Fld Z Z.heap b1 "com/example/rowpath/rowpath/core/NodeMatch$Tier" "id" "Z" (.int (1 : Int32)) ∧ Sta Z Z.heap "com/example/rowpath/rowpath/core/NodeMatch$Tier" "LEVEL_TYPE" "Lcom/example/rowpath/rowpath/core/NodeMatch$Tier;" (.ref b2) ∧ Exa Z Z.heap b2 "com/example/rowpath/rowpath/core/NodeMatch$Tier" ∧ Fld Z Z.heap b2 "com/example/rowpath/rowpath/core/NodeMatch$Tier" "level" "Z" (.int (1 : Int32)) ∧ Fld Z Z.heap b2 "com/example/rowpath/rowpath/core/NodeMatch$Tier" "type" "Z" (.int (1 : Int32)) ∧ Fld Z Z.heap b2 "com/example/rowpath/rowpath/core/NodeMatch$Tier" "id" "Z" (.int (0 : Int32)) ∧ Sta Z Z.heap "com/example/rowpath/rowpath/core/NodeMatch$Tier" "TYPE" "Lcom/example/rowpath/rowpath/core/NodeMatch$Tier;" (.ref b3) ∧ Exa Z Z.heap b3 "com/example/rowpath/rowpath/core/NodeMatch$Tier" ∧ Fld Z Z.heap b3 "com/example/rowpath/rowpath/core/NodeMatch$Tier" "level" "Z" (.int (0 : Int32)) ∧ Fld Z Z.heap b3 "com/example/rowpath/rowpath/core/NodeMatch$Tier" "type" "Z" (.int (1 : Int32)) ∧ Fld Z Z.heap b3 "com/example/rowpath/rowpath/core/NodeMatch$Tier" "id" "Z" (.int (0 : Int32)) ∧ Sta Z Z.heap "com/example/rowpath/rowpath/core/NodeMatch$Tier" "LEVEL" "Lcom/example/rowpath/rowpath/core/NodeMatch$Tier;" (.ref b4) ∧ Exa Z Z.heap b4 "com/example/rowpath/rowpath/core/NodeMatch$Tier" ∧ Fld Z Z.heap b4 "com/example/rowpath/rowpath/core/NodeMatch$Tier" "level" "Z" (.int (1 : Int32)) ∧ Fld Z Z.heap b4 "com/example/rowpath/rowpath/core/NodeMatch$Tier" "type" "Z" (.int (0 : Int32)) ∧ Fld Z Z.heap b4 "com/example/rowpath/rowpath/core/NodeMatch$Tier" "id" "Z" (.int (0 : Int32)) ∧ Sta Z Z.heap "com/example/rowpath/rowpath/core/NodeMatch$Tier" "NONE" "Lcom/example/rowpath/rowpath/core/NodeMatch$Tier;" (.ref b5) ∧ Exa Z Z.heap b5 "com/example/rowpath/rowpath/core/NodeMatch$Tier" ∧ Fld Z Z.heap b5 "com/example/rowpath/rowpath/core/NodeMatch$Tier" "level" "Z" (.int (0 : Int32)) ∧ Fld Z Z.heap b5 "com/example/rowpath/rowpath/core/NodeMatch$Tier" "type" "Z" (.int (0 : Int32)) ∧ Fld Z Z.heap b5 "com/example/rowpath/rowpath/core/NodeMatch$Tier" "id" "Z" (.int (0 : Int32)) ∧ Sta Z Z.heap "com/example/rowpath/rowpath/core/NodeMatch$Tier" "$VALUES" "[Lcom/example/rowpath/rowpath/core/NodeMatch$Tier;" (.ref bv) ∧ Exa Z Z.heap bv "[Lcom/example/rowpath/rowpath/core/NodeMatch$Tier;" ∧ Arv Z Z.heap bv kv (.object "com/example/rowpath/rowpath/core/NodeMatch$Tier") (6 : Int32) [.ref b0, .ref b1, .ref b2, .ref b3, .ref b4, .ref b5] .null ∧ Sta Z Z.heap "java/util/Optional" "EMPTY" "Ljava/util/Optional;" (.ref eo) ∧ Exa Z Z.heap eo "java/util/Optional" ∧ Fld Z Z.heap eo "java/util/Optional" "value" "Ljava/lang/Object;" .null
theorem d5_0 : decode jdk_31_method_10_code 0 = .ok (.aload_n 0, 1) := by decide +kernel
theorem d5_1 : decode jdk_31_method_10_code 1 = .ok (.ifnonnull 11, 3) := by decide +kernel
theorem d5_4 : decode jdk_31_method_10_code 4 = .ok (.new 84, 3) := by decide +kernel
theorem d5_7 : decode jdk_31_method_10_code 7 = .ok (.dup, 1) := by decide +kernel
theorem d5_8 : decode jdk_31_method_10_code 8 = .ok (.invokespecial 86, 3) := by decide +kernel
theorem d5_11 : decode jdk_31_method_10_code 11 = .ok (.athrow, 1) := by decide +kernel
theorem d5_12 : decode jdk_31_method_10_code 12 = .ok (.aload_n 0, 1) := by decide +kernel
theorem d5_13 : decode jdk_31_method_10_code 13 = .ok (.areturn, 1) := by decide +kernel
theorem pn_0 : plainName "java/util/Objects" = true := by first | (simp [plainName, overriddenIn]; done) | decide +kernel
set_option maxRecDepth 65536 in
set_option maxHeartbeats 40000000 in
theorem c_rnn (l : Launch) (Z : State) (a0 : Array Value) (G : Gl Z a0) (a : Addr) (h : Heap)  :
    Ctr l Z EL nw (⟨"java/util/Objects", "requireNonNull", "(Ljava/lang/Object;)Ljava/lang/Object;"⟩ : MethodName) jdk_31_method_10_code 1 (Option.some (Jvm.ClassFile.FieldType.object "java/lang/Object")) ({ frames := 0, cells := 0, slots := 0, locals := 0 } : Room) #[.ref a] h [] (PureQ h fun v => v = .ref a) := by
  have hw := G.1
  refine Ctr.enter (own := "java/util/Objects") (nm := "requireNonNull") rfl rfl G.2 (plainFor_of_name pn_0) #[.val (.ref a)] (fun m => by first | rfl | (simp [entryFrame, mkF, argsToLocals, Value.category, maxLocals]; done)) ?_
  intro p e s m below meth c T X
  refine g_aloadN X d5_0 rfl rfl 1 rfl ?_
  refine g_ifnonnullYes X d5_1 12 (by decide) (by decide) ?_
  refine g_aloadN X d5_12 rfl rfl 13 rfl ?_
  exact g_retA X rfl rfl rfl d5_13 (by decide) (by decide) ⟨rfl, _, rfl, rfl⟩
theorem d6_0 : decode jdk_32_method_2_code 0 = .ok (.aload_n 0, 1) := by decide +kernel
theorem d6_1 : decode jdk_32_method_2_code 1 = .ok (.invokespecial 7, 3) := by decide +kernel
theorem d6_4 : decode jdk_32_method_2_code 4 = .ok (.aload_n 0, 1) := by decide +kernel
theorem d6_5 : decode jdk_32_method_2_code 5 = .ok (.aload_n 1, 1) := by decide +kernel
theorem d6_6 : decode jdk_32_method_2_code 6 = .ok (.putfield 13, 3) := by decide +kernel
theorem d6_9 : decode jdk_32_method_2_code 9 = .ok (.return_, 1) := by decide +kernel
theorem pn_1 : plainName "java/util/Optional" = true := by first | (simp [plainName, overriddenIn]; done) | decide +kernel
set_option maxRecDepth 65536 in
set_option maxHeartbeats 40000000 in
theorem c_oinit (l : Launch) (Z : State) (a0 : Array Value) (G : Gl Z a0) (o a : Addr) (h : Heap) (E : Exa Z h o "java/util/Optional") (F : Fld Z h o "java/util/Optional" "value" "Ljava/lang/Object;" .null) :
    Ctr l Z EL nw (⟨"java/util/Optional", "<init>", "(Ljava/lang/Object;)V"⟩ : MethodName) jdk_32_method_2_code 2 (Option.none : Option Jvm.ClassFile.FieldType) ({ frames := 1, cells := 0, slots := 0, locals := 12 } : Room) #[.ref o, .ref a] h [o] (VoidQ fun h' => Keep h h' [o] ∧ Exa Z h' o "java/util/Optional" ∧ Fld Z h' o "java/util/Optional" "value" "Ljava/lang/Object;" (.ref a)) := by
  have hw := G.1
  refine Ctr.enter (own := "java/util/Optional") (nm := "<init>") rfl rfl G.2 (plainFor_of_name pn_1) #[.val (.ref o), .val (.ref a)] (fun m => by first | rfl | (simp [entryFrame, mkF, argsToLocals, Value.category, maxLocals]; done)) ?_
  intro p e s m below meth c T X
  refine g_aloadN X d6_0 rfl rfl 1 rfl ?_
  refine g_initO X (hw _ (List.mem_of_getElem? (i := 50) rfl)) (hw _ (List.mem_of_getElem? (i := 51) rfl)) (hw _ (List.mem_of_getElem? (i := 52) rfl)) rfl d6_1 (by decide) 0 (Nat.le_of_eq rfl) (by decide) 4 rfl ?_
  intro T1 X2
  refine g_aloadN X2 d6_4 rfl rfl 5 rfl ?_
  refine g_aloadN X2 d6_5 rfl rfl 6 rfl ?_
  refine g_putF X2 (Or.inl (hw _ (List.mem_of_getElem? (i := 53) rfl))) (host := "") Via.refl F E (Or.inr ⟨(hw _ (List.mem_of_getElem? (i := 54) rfl)), rfl, rfl⟩) (hw _ (List.mem_of_getElem? (i := 41) rfl)) (ty := (.object "java/lang/Object")) (by rfl) rfl rfl (by simp) d6_6 9 rfl ?_
  intro T3 h4 X5 W6 F7 E8
  exact g_ret X5 rfl d6_9 (by decide) (by decide) ⟨rfl, ⟨((Keep.refl h [o]).wr W6 (Or.inl (by simp))), E8, F7⟩⟩
theorem d4_0 : decode jdk_32_method_3_code 0 = .ok (.new 2, 3) := by decide +kernel
theorem d4_3 : decode jdk_32_method_3_code 3 = .ok (.dup, 1) := by decide +kernel
theorem d4_4 : decode jdk_32_method_3_code 4 = .ok (.aload_n 0, 1) := by decide +kernel
theorem d4_5 : decode jdk_32_method_3_code 5 = .ok (.invokestatic 17, 3) := by decide +kernel
theorem d4_8 : decode jdk_32_method_3_code 8 = .ok (.invokespecial 23, 3) := by decide +kernel
theorem d4_11 : decode jdk_32_method_3_code 11 = .ok (.areturn, 1) := by decide +kernel
set_option maxRecDepth 65536 in
set_option maxHeartbeats 40000000 in
theorem c_oof (l : Launch) (Z : State) (a0 : Array Value) (G : Gl Z a0) (a : Addr) (h : Heap)  :
    Ctr l Z EL nw (⟨"java/util/Optional", "of", "(Ljava/lang/Object;)Ljava/util/Optional;"⟩ : MethodName) jdk_32_method_3_code 1 (Option.some (Jvm.ClassFile.FieldType.object "java/util/Optional")) ({ frames := 2, cells := 1, slots := 1, locals := 26 } : Room) #[.ref a] h [] (ValQ fun w h' => ∃ o, w = .ref o ∧ Ext h h' ∧ Exa Z h' o "java/util/Optional" ∧ Fld Z h' o "java/util/Optional" "value" "Ljava/lang/Object;" (.ref a)) := by
  have hw := G.1
  refine Ctr.enter (own := "java/util/Optional") (nm := "of") rfl rfl G.2 (plainFor_of_name pn_1) #[.val (.ref a)] (fun m => by first | rfl | (simp [entryFrame, mkF, argsToLocals, Value.category, maxLocals]; done)) ?_
  intro p e s m below meth c T X
  refine g_new X (hw _ (List.mem_of_getElem? (i := 40) rfl)) (hw _ (List.mem_of_getElem? (i := 41) rfl)) (hw _ (List.mem_of_getElem? (i := 38) rfl)) d4_0 (ck := 1) rfl (cs := 1) rfl (by decide) (by decide) 3 rfl ?_
  intro a1 T2 h3 ea4 X5 E6 A7 D8
  have le_a1 : h.size ≤ a1 := by rw [ea4]; exact (Ext.refl h).1
  have F9 : Fld Z h3 a1 "java/util/Optional" "value" "Ljava/lang/Object;" (.null) := D8 (Or.inr (hw _ (List.mem_of_getElem? (i := 54) rfl))) (ty := (.object "java/lang/Object")) (by rfl)
  refine g_dup X5 d4_3 rfl 4 rfl ?_
  refine g_aloadN X5 d4_4 rfl rfl 5 rfl ?_
  refine g_callSp X5 (hw _ (List.mem_of_getElem? (i := 42) rfl)) (hw _ (List.mem_of_getElem? (i := 43) rfl)) (hw _ (List.mem_of_getElem? (i := 44) rfl)) (hw _ (List.mem_of_getElem? (i := 45) rfl)) (by decide) (c_rnn l Z a0 G a h3) (by simp) (argsL := [.ref a]) (rest := [.ref a1, .ref a1]) pd_3 rfl rfl rfl rfl 2 (Nat.le_of_eq rfl) (by decide) (by decide) (ck := 1) rfl (cs := 1) rfl (by decide) (by decide) d4_5 8 rfl ?_
  intro w12 T10 X11 hq13
  subst hq13
  refine g_callIn X11 rfl (hw _ (List.mem_of_getElem? (i := 46) rfl)) (hw _ (List.mem_of_getElem? (i := 47) rfl)) (hw _ (List.mem_of_getElem? (i := 38) rfl)) (hw _ (List.mem_of_getElem? (i := 49) rfl)) (by decide) (c_oinit l Z a0 G a1 a h3 A7 F9) (by simp) (argsL := [.ref a]) (rest := [.ref a1]) pd_2 rfl rfl rfl rfl 1 (Nat.le_of_eq rfl) (by decide) (by decide) (ck := 1) rfl (cs := 1) rfl (by decide) (by decide) d4_8 11 rfl ?_
  intro T14 h17 X15 hq16
  obtain ⟨K18, E19, F20⟩ := hq16
  exact g_retA X15 rfl rfl rfl d4_11 (by decide) (by decide) ⟨_, rfl, ⟨a1, rfl, (ext_keep ((Ext.refl h).trans E6) K18 (fun x hx => by cases List.mem_singleton.mp hx; exact le_a1)), E19, F20⟩⟩
theorem d8_0 : decode jdk_32_method_6_code 0 = .ok (.aload_n 0, 1) := by decide +kernel
theorem d8_1 : decode jdk_32_method_6_code 1 = .ok (.getfield 13, 3) := by decide +kernel
theorem d8_4 : decode jdk_32_method_6_code 4 = .ok (.ifnull 7, 3) := by decide +kernel
theorem d8_7 : decode jdk_32_method_6_code 7 = .ok (.iconst 1, 1) := by decide +kernel
theorem d8_8 : decode jdk_32_method_6_code 8 = .ok (.goto 4, 3) := by decide +kernel
theorem d8_11 : decode jdk_32_method_6_code 11 = .ok (.iconst 0, 1) := by decide +kernel
theorem d8_12 : decode jdk_32_method_6_code 12 = .ok (.ireturn, 1) := by decide +kernel
set_option maxRecDepth 65536 in
set_option maxHeartbeats 40000000 in
theorem c_ip1 (l : Launch) (Z : State) (a0 : Array Value) (G : Gl Z a0) (o a : Addr) (h : Heap) (F : Fld Z h o "java/util/Optional" "value" "Ljava/lang/Object;" (.ref a)) :
    Ctr l Z EL nw (⟨"java/util/Optional", "isPresent", "()Z"⟩ : MethodName) jdk_32_method_6_code 1 (Option.some Jvm.ClassFile.FieldType.boolean) ({ frames := 0, cells := 0, slots := 0, locals := 0 } : Room) #[.ref o] h [] (PureQ h fun v => v = .int 1) := by
  have hw := G.1
  refine Ctr.enter (own := "java/util/Optional") (nm := "isPresent") rfl rfl G.2 (plainFor_of_name pn_1) #[.val (.ref o)] (fun m => by first | rfl | (simp [entryFrame, mkF, argsToLocals, Value.category, maxLocals]; done)) ?_
  intro p e s m below meth c T X
  refine g_aloadN X d8_0 rfl rfl 1 rfl ?_
  refine g_getF X (Or.inl (hw _ (List.mem_of_getElem? (i := 53) rfl))) (host := "") Via.refl F d8_1 4 rfl ?_
  intro T1 X2
  refine g_ifnullNo X2 d8_4 7 rfl ?_
  refine g_iconst X2 (1 : Int32) d8_7 (by decide) 8 rfl ?_
  refine g_goto X2 d8_8 12 (by decide) (by decide) ?_
  exact g_retN X2 (t := .boolean) rfl (by simp) d8_12 _ rfl (by decide) (by decide) ⟨rfl, _, rfl, rfl⟩
set_option maxRecDepth 65536 in
set_option maxHeartbeats 40000000 in
theorem c_ip0 (l : Launch) (Z : State) (a0 : Array Value) (G : Gl Z a0) (o : Addr) (h : Heap) (F : Fld Z h o "java/util/Optional" "value" "Ljava/lang/Object;" .null) :
    Ctr l Z EL nw (⟨"java/util/Optional", "isPresent", "()Z"⟩ : MethodName) jdk_32_method_6_code 1 (Option.some Jvm.ClassFile.FieldType.boolean) ({ frames := 0, cells := 0, slots := 0, locals := 0 } : Room) #[.ref o] h [] (PureQ h fun v => v = .int 0) := by
  have hw := G.1
  refine Ctr.enter (own := "java/util/Optional") (nm := "isPresent") rfl rfl G.2 (plainFor_of_name pn_1) #[.val (.ref o)] (fun m => by first | rfl | (simp [entryFrame, mkF, argsToLocals, Value.category, maxLocals]; done)) ?_
  intro p e s m below meth c T X
  refine g_aloadN X d8_0 rfl rfl 1 rfl ?_
  refine g_getF X (Or.inl (hw _ (List.mem_of_getElem? (i := 53) rfl))) (host := "") Via.refl F d8_1 4 rfl ?_
  intro T1 X2
  refine g_ifnullYes X2 d8_4 11 (by decide) (by decide) ?_
  refine g_iconst X2 (0 : Int32) d8_11 (by decide) 12 rfl ?_
  exact g_retN X2 (t := .boolean) rfl (by simp) d8_12 _ rfl (by decide) (by decide) ⟨rfl, _, rfl, rfl⟩
theorem d9_0 : decode jdk_32_method_5_code 0 = .ok (.aload_n 0, 1) := by decide +kernel
theorem d9_1 : decode jdk_32_method_5_code 1 = .ok (.getfield 13, 3) := by decide +kernel
theorem d9_4 : decode jdk_32_method_5_code 4 = .ok (.ifnonnull 13, 3) := by decide +kernel
theorem d9_7 : decode jdk_32_method_5_code 7 = .ok (.new 26, 3) := by decide +kernel
theorem d9_10 : decode jdk_32_method_5_code 10 = .ok (.dup, 1) := by decide +kernel
theorem d9_11 : decode jdk_32_method_5_code 11 = .ok (.ldc 28, 2) := by decide +kernel
theorem d9_13 : decode jdk_32_method_5_code 13 = .ok (.invokespecial 30, 3) := by decide +kernel
theorem d9_16 : decode jdk_32_method_5_code 16 = .ok (.athrow, 1) := by decide +kernel
theorem d9_17 : decode jdk_32_method_5_code 17 = .ok (.aload_n 0, 1) := by decide +kernel
theorem d9_18 : decode jdk_32_method_5_code 18 = .ok (.getfield 13, 3) := by decide +kernel
theorem d9_21 : decode jdk_32_method_5_code 21 = .ok (.areturn, 1) := by decide +kernel
set_option maxRecDepth 65536 in
set_option maxHeartbeats 40000000 in
theorem c_get (l : Launch) (Z : State) (a0 : Array Value) (G : Gl Z a0) (o a : Addr) (h : Heap) (F : Fld Z h o "java/util/Optional" "value" "Ljava/lang/Object;" (.ref a)) :
    Ctr l Z EL nw (⟨"java/util/Optional", "get", "()Ljava/lang/Object;"⟩ : MethodName) jdk_32_method_5_code 1 (Option.some (Jvm.ClassFile.FieldType.object "java/lang/Object")) ({ frames := 0, cells := 0, slots := 0, locals := 0 } : Room) #[.ref o] h [] (PureQ h fun v => v = .ref a) := by
  have hw := G.1
  refine Ctr.enter (own := "java/util/Optional") (nm := "get") rfl rfl G.2 (plainFor_of_name pn_1) #[.val (.ref o)] (fun m => by first | rfl | (simp [entryFrame, mkF, argsToLocals, Value.category, maxLocals]; done)) ?_
  intro p e s m below meth c T X
  refine g_aloadN X d9_0 rfl rfl 1 rfl ?_
  refine g_getF X (Or.inl (hw _ (List.mem_of_getElem? (i := 53) rfl))) (host := "") Via.refl F d9_1 4 rfl ?_
  intro T1 X2
  refine g_ifnonnullYes X2 d9_4 17 (by decide) (by decide) ?_
  refine g_aloadN X2 d9_17 rfl rfl 18 rfl ?_
  refine g_getF X2 (Or.inl (hw _ (List.mem_of_getElem? (i := 53) rfl))) (host := "") Via.refl F d9_18 21 rfl ?_
  intro T3 X4
  exact g_retA X4 rfl rfl rfl d9_21 (by decide) (by decide) ⟨rfl, _, rfl, rfl⟩
theorem d10_0 : decode jdk_32_method_1_code 0 = .ok (.getstatic 1, 3) := by decide +kernel
theorem d10_3 : decode jdk_32_method_1_code 3 = .ok (.astore_n 0, 1) := by decide +kernel
theorem d10_4 : decode jdk_32_method_1_code 4 = .ok (.aload_n 0, 1) := by decide +kernel
theorem d10_5 : decode jdk_32_method_1_code 5 = .ok (.areturn, 1) := by decide +kernel
set_option maxRecDepth 65536 in
set_option maxHeartbeats 40000000 in
theorem c_empty (l : Launch) (Z : State) (a0 : Array Value) (G : Gl Z a0) (b0 b1 b2 b3 b4 b5 bv eo : Addr) (kv : ClassId) (h : Heap) (TT : Tiers Z b0 b1 b2 b3 b4 b5 bv eo kv) :
    Ctr l Z EL nw (⟨"java/util/Optional", "empty", "()Ljava/util/Optional;"⟩ : MethodName) jdk_32_method_1_code 1 (Option.some (Jvm.ClassFile.FieldType.object "java/util/Optional")) ({ frames := 0, cells := 0, slots := 0, locals := 0 } : Room) #[] h [] (PureQ h fun v => v = .ref eo) := by
  have hw := G.1
  refine Ctr.enter (own := "java/util/Optional") (nm := "empty") rfl rfl G.2 (plainFor_of_name pn_1) #[.unset] (fun m => by first | rfl | (simp [entryFrame, mkF, argsToLocals, Value.category, maxLocals]; done)) ?_
  intro p e s m below meth c T X
  obtain ⟨S0, E0, F0level, F0type, F0id, S1, E1, F1level, F1type, F1id, S2, E2, F2level, F2type, F2id, S3, E3, F3level, F3type, F3id, S4, E4, F4level, F4type, F4id, S5, E5, F5level, F5type, F5id, SV, EV, AV, SO, EO, FO⟩ := TT
  refine g_getS X (Or.inl (hw _ (List.mem_of_getElem? (i := 73) rfl))) (host := "") Via.refl (SO.ext X.old) d10_0 3 rfl ?_
  intro T1 X2
  refine g_astoreN X2 d10_3 rfl (Ls' := #[.val (.ref eo)]) rfl 4 rfl ?_
  refine g_aloadN X2 d10_4 rfl rfl 5 rfl ?_
  exact g_retA X2 rfl rfl rfl d10_5 (by decide) (by decide) ⟨rfl, _, rfl, rfl⟩
theorem d3_0 : decode prog_48_method_1_code 0 = .ok (.getstatic 22, 3) := by decide +kernel
theorem d3_3 : decode prog_48_method_1_code 3 = .ok (.invokevirtual 26, 3) := by decide +kernel
theorem d3_6 : decode prog_48_method_1_code 6 = .ok (.checkcast 27, 3) := by decide +kernel
theorem d3_9 : decode prog_48_method_1_code 9 = .ok (.areturn, 1) := by decide +kernel
theorem pn_2 : plainName "com/example/rowpath/rowpath/core/NodeMatch$Tier" = true := by first | (simp [plainName, overriddenIn]; done) | decide +kernel
set_option maxRecDepth 65536 in
set_option maxHeartbeats 40000000 in
theorem c_values (l : Launch) (Z : State) (a0 : Array Value) (G : Gl Z a0) (b0 b1 b2 b3 b4 b5 bv eo : Addr) (kv : ClassId) (h : Heap) (TT : Tiers Z b0 b1 b2 b3 b4 b5 bv eo kv) :
    Ctr l Z EL nw (⟨"com/example/rowpath/rowpath/core/NodeMatch$Tier", "values", "()[Lcom/example/rowpath/rowpath/core/NodeMatch$Tier;"⟩ : MethodName) prog_48_method_1_code 0 (Option.some (Jvm.ClassFile.FieldType.array (Jvm.ClassFile.FieldType.object "com/example/rowpath/rowpath/core/NodeMatch$Tier"))) ({ frames := 1, cells := 1, slots := 6, locals := 14 } : Room) #[] h [] (ValQ fun w h' => ∃ b, w = .ref b ∧ Ext h h' ∧ Arv Z h' b kv (.object "com/example/rowpath/rowpath/core/NodeMatch$Tier") (6 : Int32) [.ref b0, .ref b1, .ref b2, .ref b3, .ref b4, .ref b5] .null) := by
  have hw := G.1
  refine Ctr.enter (own := "com/example/rowpath/rowpath/core/NodeMatch$Tier") (nm := "values") rfl rfl G.2 (plainFor_of_name pn_2) #[] (fun m => by first | rfl | (simp [entryFrame, mkF, argsToLocals, Value.category, maxLocals]; done)) ?_
  intro p e s m below meth c T X
  obtain ⟨S0, E0, F0level, F0type, F0id, S1, E1, F1level, F1type, F1id, S2, E2, F2level, F2type, F2id, S3, E3, F3level, F3type, F3id, S4, E4, F4level, F4type, F4id, S5, E5, F5level, F5type, F5id, SV, EV, AV, SO, EO, FO⟩ := TT
  refine g_getS X (Or.inl (hw _ (List.mem_of_getElem? (i := 13) rfl))) (host := "") Via.refl (SV.ext X.old) d3_0 3 rfl ?_
  intro T1 X2
  refine g_clone X2 (hw _ (List.mem_of_getElem? (i := 15) rfl)) (hw _ (List.mem_of_getElem? (i := 16) rfl)) (hw _ (List.mem_of_getElem? (i := 20) rfl)) (hw _ (List.mem_of_getElem? (i := 18) rfl)) (hw _ (List.mem_of_getElem? (i := 19) rfl)) (hw _ (List.mem_of_getElem? (i := 21) rfl)) (AV.ext X2.old) (EV.ext X2.old) rfl d3_3 (by decide) 0 (Nat.le_of_eq rfl) (by decide) 6 (by decide) (ck := 1) rfl (cs := 6) rfl (by decide) (by decide) 6 rfl ?_
  intro a3 T4 h5 ea6 X7 E8 A9 B10
  refine g_cast X7 (hw _ (List.mem_of_getElem? (i := 28) rfl)) (Ins.self B10) d3_6 9 rfl ?_
  intro T11 X12
  exact g_retA X12 rfl rfl rfl d3_9 (by decide) (by decide) ⟨_, rfl, ⟨a3, rfl, ((Ext.refl h).trans E8), A9⟩⟩
theorem d2_0 : decode prog_48_method_4_code 0 = .ok (.invokestatic 51, 3) := by decide +kernel
theorem d2_3 : decode prog_48_method_4_code 3 = .ok (.astore_n 3, 1) := by decide +kernel
theorem d2_4 : decode prog_48_method_4_code 4 = .ok (.aload_n 3, 1) := by decide +kernel
theorem d2_5 : decode prog_48_method_4_code 5 = .ok (.arraylength, 1) := by decide +kernel
theorem d2_6 : decode prog_48_method_4_code 6 = .ok (.istore 4, 2) := by decide +kernel
theorem d2_8 : decode prog_48_method_4_code 8 = .ok (.iconst 0, 1) := by decide +kernel
theorem d2_9 : decode prog_48_method_4_code 9 = .ok (.istore 5, 2) := by decide +kernel
theorem d2_11 : decode prog_48_method_4_code 11 = .ok (.iload 5, 2) := by decide +kernel
theorem d2_13 : decode prog_48_method_4_code 13 = .ok (.iload 4, 2) := by decide +kernel
theorem d2_15 : decode prog_48_method_4_code 15 = .ok (.if_icmp .ge 48, 3) := by decide +kernel
theorem d2_18 : decode prog_48_method_4_code 18 = .ok (.aload_n 3, 1) := by decide +kernel
theorem d2_19 : decode prog_48_method_4_code 19 = .ok (.iload 5, 2) := by decide +kernel
theorem d2_21 : decode prog_48_method_4_code 21 = .ok (.aaload, 1) := by decide +kernel
theorem d2_22 : decode prog_48_method_4_code 22 = .ok (.astore 6, 2) := by decide +kernel
theorem d2_24 : decode prog_48_method_4_code 24 = .ok (.aload 6, 2) := by decide +kernel
theorem d2_26 : decode prog_48_method_4_code 26 = .ok (.getfield 41, 3) := by decide +kernel
theorem d2_29 : decode prog_48_method_4_code 29 = .ok (.iload_n 0, 1) := by decide +kernel
theorem d2_30 : decode prog_48_method_4_code 30 = .ok (.if_icmp .ne 27, 3) := by decide +kernel
theorem d2_33 : decode prog_48_method_4_code 33 = .ok (.aload 6, 2) := by decide +kernel
theorem d2_35 : decode prog_48_method_4_code 35 = .ok (.getfield 45, 3) := by decide +kernel
theorem d2_38 : decode prog_48_method_4_code 38 = .ok (.iload_n 1, 1) := by decide +kernel
theorem d2_39 : decode prog_48_method_4_code 39 = .ok (.if_icmp .ne 18, 3) := by decide +kernel
theorem d2_42 : decode prog_48_method_4_code 42 = .ok (.aload 6, 2) := by decide +kernel
theorem d2_44 : decode prog_48_method_4_code 44 = .ok (.getfield 48, 3) := by decide +kernel
theorem d2_47 : decode prog_48_method_4_code 47 = .ok (.iload_n 2, 1) := by decide +kernel
theorem d2_48 : decode prog_48_method_4_code 48 = .ok (.if_icmp .ne 9, 3) := by decide +kernel
theorem d2_51 : decode prog_48_method_4_code 51 = .ok (.aload 6, 2) := by decide +kernel
theorem d2_53 : decode prog_48_method_4_code 53 = .ok (.invokestatic 55, 3) := by decide +kernel
theorem d2_56 : decode prog_48_method_4_code 56 = .ok (.areturn, 1) := by decide +kernel
theorem d2_57 : decode prog_48_method_4_code 57 = .ok (.iinc 5 1, 3) := by decide +kernel
theorem d2_60 : decode prog_48_method_4_code 60 = .ok (.goto (-49), 3) := by decide +kernel
theorem d2_63 : decode prog_48_method_4_code 63 = .ok (.invokestatic 61, 3) := by decide +kernel
theorem d2_66 : decode prog_48_method_4_code 66 = .ok (.areturn, 1) := by decide +kernel
set_option maxRecDepth 65536 in
set_option maxHeartbeats 40000000 in
theorem c_of000 (l : Launch) (Z : State) (a0 : Array Value) (G : Gl Z a0) (b0 b1 b2 b3 b4 b5 bv eo : Addr) (kv : ClassId) (h : Heap) (TT : Tiers Z b0 b1 b2 b3 b4 b5 bv eo kv) :
    Ctr l Z EL nw (⟨"com/example/rowpath/rowpath/core/NodeMatch$Tier", "of", "(ZZZ)Ljava/util/Optional;"⟩ : MethodName) prog_48_method_4_code 7 (Option.some (Jvm.ClassFile.FieldType.object "java/util/Optional")) ({ frames := 3, cells := 2, slots := 7, locals := 38 } : Room) #[.int (0 : Int32), .int (0 : Int32), .int (0 : Int32)] h [] (ValQ fun w h' => ∃ o, w = .ref o ∧ Ext h h' ∧ Exa Z h' o "java/util/Optional" ∧ Fld Z h' o "java/util/Optional" "value" "Ljava/lang/Object;" (.ref b5)) := by
  have hw := G.1
  refine Ctr.enter (own := "com/example/rowpath/rowpath/core/NodeMatch$Tier") (nm := "of") rfl rfl G.2 (plainFor_of_name pn_2) #[.val (.int (0 : Int32)), .val (.int (0 : Int32)), .val (.int (0 : Int32)), .unset, .unset, .unset, .unset] (fun m => by first | rfl | (simp [entryFrame, mkF, argsToLocals, Value.category, maxLocals]; done)) ?_
  intro p e s m below meth c T X
  have TT0 := TT
  obtain ⟨S0, E0, F0level, F0type, F0id, S1, E1, F1level, F1type, F1id, S2, E2, F2level, F2type, F2id, S3, E3, F3level, F3type, F3id, S4, E4, F4level, F4type, F4id, S5, E5, F5level, F5type, F5id, SV, EV, AV, SO, EO, FO⟩ := TT
  refine g_callSv X (hw _ (List.mem_of_getElem? (i := 10) rfl)) (hw _ (List.mem_of_getElem? (i := 11) rfl)) (hw _ (List.mem_of_getElem? (i := 5) rfl)) (hw _ (List.mem_of_getElem? (i := 12) rfl)) (by decide) (c_values l Z a0 G b0 b1 b2 b3 b4 b5 bv eo kv h TT0) (by simp) (argsL := []) (rest := []) pd_6 rfl rfl rfl rfl 0 (Nat.le_of_eq rfl) (by decide) (by decide) (ck := 1) rfl (cs := 6) rfl (by decide) (by decide) d2_0 3 rfl ?_
  intro w3 T1 h5 X2 hq4
  obtain ⟨b6, rfl, E7, A8⟩ := hq4
  refine g_astoreN X2 d2_3 rfl (Ls' := #[.val (.int (0 : Int32)), .val (.int (0 : Int32)), .val (.int (0 : Int32)), .val (.ref b6), .unset, .unset, .unset]) rfl 4 rfl ?_
  refine g_aloadN X2 d2_4 rfl rfl 5 rfl ?_
  refine g_arrlen X2 A8 d2_5 6 rfl ?_
  refine g_istore X2 d2_6 (Ls' := #[.val (.int (0 : Int32)), .val (.int (0 : Int32)), .val (.int (0 : Int32)), .val (.ref b6), .val (.int (6 : Int32)), .unset, .unset]) rfl 8 rfl ?_
  refine g_iconst X2 (0 : Int32) d2_8 (by decide) 9 rfl ?_
  refine g_istore X2 d2_9 (Ls' := #[.val (.int (0 : Int32)), .val (.int (0 : Int32)), .val (.int (0 : Int32)), .val (.ref b6), .val (.int (6 : Int32)), .val (.int (0 : Int32)), .unset]) rfl 11 rfl ?_
  refine g_iload X2 d2_11 rfl 13 rfl ?_
  refine g_iload X2 d2_13 rfl 15 rfl ?_
  refine g_icmpNo X2 d2_15 (XT.ii_ge_f (by decide)) 18 rfl ?_
  refine g_aloadN X2 d2_18 rfl rfl 19 rfl ?_
  refine g_iload X2 d2_19 rfl 21 rfl ?_
  refine g_aaload X2 A8 rfl (by decide) (by decide) (.ref b0) rfl d2_21 22 rfl ?_
  refine g_astore X2 d2_22 rfl (Ls' := #[.val (.int (0 : Int32)), .val (.int (0 : Int32)), .val (.int (0 : Int32)), .val (.ref b6), .val (.int (6 : Int32)), .val (.int (0 : Int32)), .val (.ref b0)]) rfl 24 rfl ?_
  refine g_aload X2 d2_24 rfl rfl 26 rfl ?_
  refine g_getF X2 (Or.inl (hw _ (List.mem_of_getElem? (i := 30) rfl))) (host := "") Via.refl (F0level.ext X2.old) d2_26 29 rfl ?_
  intro T9 X10
  refine g_iloadN X10 d2_29 rfl 30 rfl ?_
  refine g_icmpYes X10 d2_30 (XT.ii_ne_t (by decide)) 57 (by decide) (by decide) ?_
  refine g_iinc X10 d2_57 rfl (1 : Int32) (by decide) (Ls' := #[.val (.int (0 : Int32)), .val (.int (0 : Int32)), .val (.int (0 : Int32)), .val (.ref b6), .val (.int (6 : Int32)), .val (.int (1 : Int32)), .val (.ref b0)]) rfl 60 rfl ?_
  refine g_goto X10 d2_60 11 (by decide) (by decide) ?_
  refine g_iload X10 d2_11 rfl 13 rfl ?_
  refine g_iload X10 d2_13 rfl 15 rfl ?_
  refine g_icmpNo X10 d2_15 (XT.ii_ge_f (by decide)) 18 rfl ?_
  refine g_aloadN X10 d2_18 rfl rfl 19 rfl ?_
  refine g_iload X10 d2_19 rfl 21 rfl ?_
  refine g_aaload X10 A8 rfl (by decide) (by decide) (.ref b1) rfl d2_21 22 rfl ?_
  refine g_astore X10 d2_22 rfl (Ls' := #[.val (.int (0 : Int32)), .val (.int (0 : Int32)), .val (.int (0 : Int32)), .val (.ref b6), .val (.int (6 : Int32)), .val (.int (1 : Int32)), .val (.ref b1)]) rfl 24 rfl ?_
  refine g_aload X10 d2_24 rfl rfl 26 rfl ?_
  refine g_getF X10 (Or.inl (hw _ (List.mem_of_getElem? (i := 30) rfl))) (host := "") Via.refl (F1level.ext X10.old) d2_26 29 rfl ?_
  intro T11 X12
  refine g_iloadN X12 d2_29 rfl 30 rfl ?_
  refine g_icmpNo X12 d2_30 (XT.ii_ne_f (by decide)) 33 rfl ?_
  refine g_aload X12 d2_33 rfl rfl 35 rfl ?_
  refine g_getF X12 (Or.inl (hw _ (List.mem_of_getElem? (i := 32) rfl))) (host := "") Via.refl (F1type.ext X12.old) d2_35 38 rfl ?_
  intro T13 X14
  refine g_iloadN X14 d2_38 rfl 39 rfl ?_
  refine g_icmpYes X14 d2_39 (XT.ii_ne_t (by decide)) 57 (by decide) (by decide) ?_
  refine g_iinc X14 d2_57 rfl (2 : Int32) (by decide) (Ls' := #[.val (.int (0 : Int32)), .val (.int (0 : Int32)), .val (.int (0 : Int32)), .val (.ref b6), .val (.int (6 : Int32)), .val (.int (2 : Int32)), .val (.ref b1)]) rfl 60 rfl ?_
  refine g_goto X14 d2_60 11 (by decide) (by decide) ?_
  refine g_iload X14 d2_11 rfl 13 rfl ?_
  refine g_iload X14 d2_13 rfl 15 rfl ?_
  refine g_icmpNo X14 d2_15 (XT.ii_ge_f (by decide)) 18 rfl ?_
  refine g_aloadN X14 d2_18 rfl rfl 19 rfl ?_
  refine g_iload X14 d2_19 rfl 21 rfl ?_
  refine g_aaload X14 A8 rfl (by decide) (by decide) (.ref b2) rfl d2_21 22 rfl ?_
  refine g_astore X14 d2_22 rfl (Ls' := #[.val (.int (0 : Int32)), .val (.int (0 : Int32)), .val (.int (0 : Int32)), .val (.ref b6), .val (.int (6 : Int32)), .val (.int (2 : Int32)), .val (.ref b2)]) rfl 24 rfl ?_
  refine g_aload X14 d2_24 rfl rfl 26 rfl ?_
  refine g_getF X14 (Or.inl (hw _ (List.mem_of_getElem? (i := 30) rfl))) (host := "") Via.refl (F2level.ext X14.old) d2_26 29 rfl ?_
  intro T15 X16
  refine g_iloadN X16 d2_29 rfl 30 rfl ?_
  refine g_icmpYes X16 d2_30 (XT.ii_ne_t (by decide)) 57 (by decide) (by decide) ?_
  refine g_iinc X16 d2_57 rfl (3 : Int32) (by decide) (Ls' := #[.val (.int (0 : Int32)), .val (.int (0 : Int32)), .val (.int (0 : Int32)), .val (.ref b6), .val (.int (6 : Int32)), .val (.int (3 : Int32)), .val (.ref b2)]) rfl 60 rfl ?_
  refine g_goto X16 d2_60 11 (by decide) (by decide) ?_
  refine g_iload X16 d2_11 rfl 13 rfl ?_
  refine g_iload X16 d2_13 rfl 15 rfl ?_
  refine g_icmpNo X16 d2_15 (XT.ii_ge_f (by decide)) 18 rfl ?_
  refine g_aloadN X16 d2_18 rfl rfl 19 rfl ?_
  refine g_iload X16 d2_19 rfl 21 rfl ?_
  refine g_aaload X16 A8 rfl (by decide) (by decide) (.ref b3) rfl d2_21 22 rfl ?_
  refine g_astore X16 d2_22 rfl (Ls' := #[.val (.int (0 : Int32)), .val (.int (0 : Int32)), .val (.int (0 : Int32)), .val (.ref b6), .val (.int (6 : Int32)), .val (.int (3 : Int32)), .val (.ref b3)]) rfl 24 rfl ?_
  refine g_aload X16 d2_24 rfl rfl 26 rfl ?_
  refine g_getF X16 (Or.inl (hw _ (List.mem_of_getElem? (i := 30) rfl))) (host := "") Via.refl (F3level.ext X16.old) d2_26 29 rfl ?_
  intro T17 X18
  refine g_iloadN X18 d2_29 rfl 30 rfl ?_
  refine g_icmpNo X18 d2_30 (XT.ii_ne_f (by decide)) 33 rfl ?_
  refine g_aload X18 d2_33 rfl rfl 35 rfl ?_
  refine g_getF X18 (Or.inl (hw _ (List.mem_of_getElem? (i := 32) rfl))) (host := "") Via.refl (F3type.ext X18.old) d2_35 38 rfl ?_
  intro T19 X20
  refine g_iloadN X20 d2_38 rfl 39 rfl ?_
  refine g_icmpYes X20 d2_39 (XT.ii_ne_t (by decide)) 57 (by decide) (by decide) ?_
  refine g_iinc X20 d2_57 rfl (4 : Int32) (by decide) (Ls' := #[.val (.int (0 : Int32)), .val (.int (0 : Int32)), .val (.int (0 : Int32)), .val (.ref b6), .val (.int (6 : Int32)), .val (.int (4 : Int32)), .val (.ref b3)]) rfl 60 rfl ?_
  refine g_goto X20 d2_60 11 (by decide) (by decide) ?_
  refine g_iload X20 d2_11 rfl 13 rfl ?_
  refine g_iload X20 d2_13 rfl 15 rfl ?_
  refine g_icmpNo X20 d2_15 (XT.ii_ge_f (by decide)) 18 rfl ?_
  refine g_aloadN X20 d2_18 rfl rfl 19 rfl ?_
  refine g_iload X20 d2_19 rfl 21 rfl ?_
  refine g_aaload X20 A8 rfl (by decide) (by decide) (.ref b4) rfl d2_21 22 rfl ?_
  refine g_astore X20 d2_22 rfl (Ls' := #[.val (.int (0 : Int32)), .val (.int (0 : Int32)), .val (.int (0 : Int32)), .val (.ref b6), .val (.int (6 : Int32)), .val (.int (4 : Int32)), .val (.ref b4)]) rfl 24 rfl ?_
  refine g_aload X20 d2_24 rfl rfl 26 rfl ?_
  refine g_getF X20 (Or.inl (hw _ (List.mem_of_getElem? (i := 30) rfl))) (host := "") Via.refl (F4level.ext X20.old) d2_26 29 rfl ?_
  intro T21 X22
  refine g_iloadN X22 d2_29 rfl 30 rfl ?_
  refine g_icmpYes X22 d2_30 (XT.ii_ne_t (by decide)) 57 (by decide) (by decide) ?_
  refine g_iinc X22 d2_57 rfl (5 : Int32) (by decide) (Ls' := #[.val (.int (0 : Int32)), .val (.int (0 : Int32)), .val (.int (0 : Int32)), .val (.ref b6), .val (.int (6 : Int32)), .val (.int (5 : Int32)), .val (.ref b4)]) rfl 60 rfl ?_
  refine g_goto X22 d2_60 11 (by decide) (by decide) ?_
  refine g_iload X22 d2_11 rfl 13 rfl ?_
  refine g_iload X22 d2_13 rfl 15 rfl ?_
  refine g_icmpNo X22 d2_15 (XT.ii_ge_f (by decide)) 18 rfl ?_
  refine g_aloadN X22 d2_18 rfl rfl 19 rfl ?_
  refine g_iload X22 d2_19 rfl 21 rfl ?_
  refine g_aaload X22 A8 rfl (by decide) (by decide) (.ref b5) rfl d2_21 22 rfl ?_
  refine g_astore X22 d2_22 rfl (Ls' := #[.val (.int (0 : Int32)), .val (.int (0 : Int32)), .val (.int (0 : Int32)), .val (.ref b6), .val (.int (6 : Int32)), .val (.int (5 : Int32)), .val (.ref b5)]) rfl 24 rfl ?_
  refine g_aload X22 d2_24 rfl rfl 26 rfl ?_
  refine g_getF X22 (Or.inl (hw _ (List.mem_of_getElem? (i := 30) rfl))) (host := "") Via.refl (F5level.ext X22.old) d2_26 29 rfl ?_
  intro T23 X24
  refine g_iloadN X24 d2_29 rfl 30 rfl ?_
  refine g_icmpNo X24 d2_30 (XT.ii_ne_f (by decide)) 33 rfl ?_
  refine g_aload X24 d2_33 rfl rfl 35 rfl ?_
  refine g_getF X24 (Or.inl (hw _ (List.mem_of_getElem? (i := 32) rfl))) (host := "") Via.refl (F5type.ext X24.old) d2_35 38 rfl ?_
  intro T25 X26
  refine g_iloadN X26 d2_38 rfl 39 rfl ?_
  refine g_icmpNo X26 d2_39 (XT.ii_ne_f (by decide)) 42 rfl ?_
  refine g_aload X26 d2_42 rfl rfl 44 rfl ?_
  refine g_getF X26 (Or.inl (hw _ (List.mem_of_getElem? (i := 34) rfl))) (host := "") Via.refl (F5id.ext X26.old) d2_44 47 rfl ?_
  intro T27 X28
  refine g_iloadN X28 d2_47 rfl 48 rfl ?_
  refine g_icmpNo X28 d2_48 (XT.ii_ne_f (by decide)) 51 rfl ?_
  refine g_aload X28 d2_51 rfl rfl 53 rfl ?_
  refine g_callSv X28 (hw _ (List.mem_of_getElem? (i := 36) rfl)) (hw _ (List.mem_of_getElem? (i := 37) rfl)) (hw _ (List.mem_of_getElem? (i := 38) rfl)) (hw _ (List.mem_of_getElem? (i := 39) rfl)) (by decide) (c_oof l Z a0 G b5 h5) (by simp) (argsL := [.ref b5]) (rest := []) pd_4 rfl rfl rfl rfl 0 (Nat.le_of_eq rfl) (by decide) (by decide) (ck := 2) rfl (cs := 7) rfl (by decide) (by decide) d2_53 56 rfl ?_
  intro w31 T29 h33 X30 hq32
  obtain ⟨o34, rfl, E35, A36, F37⟩ := hq32
  exact g_retA X30 rfl rfl rfl d2_56 (by decide) (by decide) ⟨_, rfl, ⟨o34, rfl, (((Ext.refl h).trans E7).trans E35), A36, F37⟩⟩
set_option maxRecDepth 65536 in
set_option maxHeartbeats 40000000 in
theorem c_of001 (l : Launch) (Z : State) (a0 : Array Value) (G : Gl Z a0) (b0 b1 b2 b3 b4 b5 bv eo : Addr) (kv : ClassId) (h : Heap) (TT : Tiers Z b0 b1 b2 b3 b4 b5 bv eo kv) :
    Ctr l Z EL nw (⟨"com/example/rowpath/rowpath/core/NodeMatch$Tier", "of", "(ZZZ)Ljava/util/Optional;"⟩ : MethodName) prog_48_method_4_code 7 (Option.some (Jvm.ClassFile.FieldType.object "java/util/Optional")) ({ frames := 2, cells := 1, slots := 6, locals := 25 } : Room) #[.int (0 : Int32), .int (0 : Int32), .int (1 : Int32)] h [] (ValQ fun w h' => ∃ o, w = .ref o ∧ Ext h h' ∧ Exa Z h' o "java/util/Optional" ∧ Fld Z h' o "java/util/Optional" "value" "Ljava/lang/Object;" (.null)) := by
  have hw := G.1
  refine Ctr.enter (own := "com/example/rowpath/rowpath/core/NodeMatch$Tier") (nm := "of") rfl rfl G.2 (plainFor_of_name pn_2) #[.val (.int (0 : Int32)), .val (.int (0 : Int32)), .val (.int (1 : Int32)), .unset, .unset, .unset, .unset] (fun m => by first | rfl | (simp [entryFrame, mkF, argsToLocals, Value.category, maxLocals]; done)) ?_
  intro p e s m below meth c T X
  have TT0 := TT
  obtain ⟨S0, E0, F0level, F0type, F0id, S1, E1, F1level, F1type, F1id, S2, E2, F2level, F2type, F2id, S3, E3, F3level, F3type, F3id, S4, E4, F4level, F4type, F4id, S5, E5, F5level, F5type, F5id, SV, EV, AV, SO, EO, FO⟩ := TT
  refine g_callSv X (hw _ (List.mem_of_getElem? (i := 10) rfl)) (hw _ (List.mem_of_getElem? (i := 11) rfl)) (hw _ (List.mem_of_getElem? (i := 5) rfl)) (hw _ (List.mem_of_getElem? (i := 12) rfl)) (by decide) (c_values l Z a0 G b0 b1 b2 b3 b4 b5 bv eo kv h TT0) (by simp) (argsL := []) (rest := []) pd_6 rfl rfl rfl rfl 0 (Nat.le_of_eq rfl) (by decide) (by decide) (ck := 1) rfl (cs := 6) rfl (by decide) (by decide) d2_0 3 rfl ?_
  intro w3 T1 h5 X2 hq4
  obtain ⟨b6, rfl, E7, A8⟩ := hq4
  refine g_astoreN X2 d2_3 rfl (Ls' := #[.val (.int (0 : Int32)), .val (.int (0 : Int32)), .val (.int (1 : Int32)), .val (.ref b6), .unset, .unset, .unset]) rfl 4 rfl ?_
  refine g_aloadN X2 d2_4 rfl rfl 5 rfl ?_
  refine g_arrlen X2 A8 d2_5 6 rfl ?_
  refine g_istore X2 d2_6 (Ls' := #[.val (.int (0 : Int32)), .val (.int (0 : Int32)), .val (.int (1 : Int32)), .val (.ref b6), .val (.int (6 : Int32)), .unset, .unset]) rfl 8 rfl ?_
  refine g_iconst X2 (0 : Int32) d2_8 (by decide) 9 rfl ?_
  refine g_istore X2 d2_9 (Ls' := #[.val (.int (0 : Int32)), .val (.int (0 : Int32)), .val (.int (1 : Int32)), .val (.ref b6), .val (.int (6 : Int32)), .val (.int (0 : Int32)), .unset]) rfl 11 rfl ?_
  refine g_iload X2 d2_11 rfl 13 rfl ?_
  refine g_iload X2 d2_13 rfl 15 rfl ?_
  refine g_icmpNo X2 d2_15 (XT.ii_ge_f (by decide)) 18 rfl ?_
  refine g_aloadN X2 d2_18 rfl rfl 19 rfl ?_
  refine g_iload X2 d2_19 rfl 21 rfl ?_
  refine g_aaload X2 A8 rfl (by decide) (by decide) (.ref b0) rfl d2_21 22 rfl ?_
  refine g_astore X2 d2_22 rfl (Ls' := #[.val (.int (0 : Int32)), .val (.int (0 : Int32)), .val (.int (1 : Int32)), .val (.ref b6), .val (.int (6 : Int32)), .val (.int (0 : Int32)), .val (.ref b0)]) rfl 24 rfl ?_
  refine g_aload X2 d2_24 rfl rfl 26 rfl ?_
  refine g_getF X2 (Or.inl (hw _ (List.mem_of_getElem? (i := 30) rfl))) (host := "") Via.refl (F0level.ext X2.old) d2_26 29 rfl ?_
  intro T9 X10
  refine g_iloadN X10 d2_29 rfl 30 rfl ?_
  refine g_icmpYes X10 d2_30 (XT.ii_ne_t (by decide)) 57 (by decide) (by decide) ?_
  refine g_iinc X10 d2_57 rfl (1 : Int32) (by decide) (Ls' := #[.val (.int (0 : Int32)), .val (.int (0 : Int32)), .val (.int (1 : Int32)), .val (.ref b6), .val (.int (6 : Int32)), .val (.int (1 : Int32)), .val (.ref b0)]) rfl 60 rfl ?_
  refine g_goto X10 d2_60 11 (by decide) (by decide) ?_
  refine g_iload X10 d2_11 rfl 13 rfl ?_
  refine g_iload X10 d2_13 rfl 15 rfl ?_
  refine g_icmpNo X10 d2_15 (XT.ii_ge_f (by decide)) 18 rfl ?_
  refine g_aloadN X10 d2_18 rfl rfl 19 rfl ?_
  refine g_iload X10 d2_19 rfl 21 rfl ?_
  refine g_aaload X10 A8 rfl (by decide) (by decide) (.ref b1) rfl d2_21 22 rfl ?_
  refine g_astore X10 d2_22 rfl (Ls' := #[.val (.int (0 : Int32)), .val (.int (0 : Int32)), .val (.int (1 : Int32)), .val (.ref b6), .val (.int (6 : Int32)), .val (.int (1 : Int32)), .val (.ref b1)]) rfl 24 rfl ?_
  refine g_aload X10 d2_24 rfl rfl 26 rfl ?_
  refine g_getF X10 (Or.inl (hw _ (List.mem_of_getElem? (i := 30) rfl))) (host := "") Via.refl (F1level.ext X10.old) d2_26 29 rfl ?_
  intro T11 X12
  refine g_iloadN X12 d2_29 rfl 30 rfl ?_
  refine g_icmpNo X12 d2_30 (XT.ii_ne_f (by decide)) 33 rfl ?_
  refine g_aload X12 d2_33 rfl rfl 35 rfl ?_
  refine g_getF X12 (Or.inl (hw _ (List.mem_of_getElem? (i := 32) rfl))) (host := "") Via.refl (F1type.ext X12.old) d2_35 38 rfl ?_
  intro T13 X14
  refine g_iloadN X14 d2_38 rfl 39 rfl ?_
  refine g_icmpYes X14 d2_39 (XT.ii_ne_t (by decide)) 57 (by decide) (by decide) ?_
  refine g_iinc X14 d2_57 rfl (2 : Int32) (by decide) (Ls' := #[.val (.int (0 : Int32)), .val (.int (0 : Int32)), .val (.int (1 : Int32)), .val (.ref b6), .val (.int (6 : Int32)), .val (.int (2 : Int32)), .val (.ref b1)]) rfl 60 rfl ?_
  refine g_goto X14 d2_60 11 (by decide) (by decide) ?_
  refine g_iload X14 d2_11 rfl 13 rfl ?_
  refine g_iload X14 d2_13 rfl 15 rfl ?_
  refine g_icmpNo X14 d2_15 (XT.ii_ge_f (by decide)) 18 rfl ?_
  refine g_aloadN X14 d2_18 rfl rfl 19 rfl ?_
  refine g_iload X14 d2_19 rfl 21 rfl ?_
  refine g_aaload X14 A8 rfl (by decide) (by decide) (.ref b2) rfl d2_21 22 rfl ?_
  refine g_astore X14 d2_22 rfl (Ls' := #[.val (.int (0 : Int32)), .val (.int (0 : Int32)), .val (.int (1 : Int32)), .val (.ref b6), .val (.int (6 : Int32)), .val (.int (2 : Int32)), .val (.ref b2)]) rfl 24 rfl ?_
  refine g_aload X14 d2_24 rfl rfl 26 rfl ?_
  refine g_getF X14 (Or.inl (hw _ (List.mem_of_getElem? (i := 30) rfl))) (host := "") Via.refl (F2level.ext X14.old) d2_26 29 rfl ?_
  intro T15 X16
  refine g_iloadN X16 d2_29 rfl 30 rfl ?_
  refine g_icmpYes X16 d2_30 (XT.ii_ne_t (by decide)) 57 (by decide) (by decide) ?_
  refine g_iinc X16 d2_57 rfl (3 : Int32) (by decide) (Ls' := #[.val (.int (0 : Int32)), .val (.int (0 : Int32)), .val (.int (1 : Int32)), .val (.ref b6), .val (.int (6 : Int32)), .val (.int (3 : Int32)), .val (.ref b2)]) rfl 60 rfl ?_
  refine g_goto X16 d2_60 11 (by decide) (by decide) ?_
  refine g_iload X16 d2_11 rfl 13 rfl ?_
  refine g_iload X16 d2_13 rfl 15 rfl ?_
  refine g_icmpNo X16 d2_15 (XT.ii_ge_f (by decide)) 18 rfl ?_
  refine g_aloadN X16 d2_18 rfl rfl 19 rfl ?_
  refine g_iload X16 d2_19 rfl 21 rfl ?_
  refine g_aaload X16 A8 rfl (by decide) (by decide) (.ref b3) rfl d2_21 22 rfl ?_
  refine g_astore X16 d2_22 rfl (Ls' := #[.val (.int (0 : Int32)), .val (.int (0 : Int32)), .val (.int (1 : Int32)), .val (.ref b6), .val (.int (6 : Int32)), .val (.int (3 : Int32)), .val (.ref b3)]) rfl 24 rfl ?_
  refine g_aload X16 d2_24 rfl rfl 26 rfl ?_
  refine g_getF X16 (Or.inl (hw _ (List.mem_of_getElem? (i := 30) rfl))) (host := "") Via.refl (F3level.ext X16.old) d2_26 29 rfl ?_
  intro T17 X18
  refine g_iloadN X18 d2_29 rfl 30 rfl ?_
  refine g_icmpNo X18 d2_30 (XT.ii_ne_f (by decide)) 33 rfl ?_
  refine g_aload X18 d2_33 rfl rfl 35 rfl ?_
  refine g_getF X18 (Or.inl (hw _ (List.mem_of_getElem? (i := 32) rfl))) (host := "") Via.refl (F3type.ext X18.old) d2_35 38 rfl ?_
  intro T19 X20
  refine g_iloadN X20 d2_38 rfl 39 rfl ?_
  refine g_icmpYes X20 d2_39 (XT.ii_ne_t (by decide)) 57 (by decide) (by decide) ?_
  refine g_iinc X20 d2_57 rfl (4 : Int32) (by decide) (Ls' := #[.val (.int (0 : Int32)), .val (.int (0 : Int32)), .val (.int (1 : Int32)), .val (.ref b6), .val (.int (6 : Int32)), .val (.int (4 : Int32)), .val (.ref b3)]) rfl 60 rfl ?_
  refine g_goto X20 d2_60 11 (by decide) (by decide) ?_
  refine g_iload X20 d2_11 rfl 13 rfl ?_
  refine g_iload X20 d2_13 rfl 15 rfl ?_
  refine g_icmpNo X20 d2_15 (XT.ii_ge_f (by decide)) 18 rfl ?_
  refine g_aloadN X20 d2_18 rfl rfl 19 rfl ?_
  refine g_iload X20 d2_19 rfl 21 rfl ?_
  refine g_aaload X20 A8 rfl (by decide) (by decide) (.ref b4) rfl d2_21 22 rfl ?_
  refine g_astore X20 d2_22 rfl (Ls' := #[.val (.int (0 : Int32)), .val (.int (0 : Int32)), .val (.int (1 : Int32)), .val (.ref b6), .val (.int (6 : Int32)), .val (.int (4 : Int32)), .val (.ref b4)]) rfl 24 rfl ?_
  refine g_aload X20 d2_24 rfl rfl 26 rfl ?_
  refine g_getF X20 (Or.inl (hw _ (List.mem_of_getElem? (i := 30) rfl))) (host := "") Via.refl (F4level.ext X20.old) d2_26 29 rfl ?_
  intro T21 X22
  refine g_iloadN X22 d2_29 rfl 30 rfl ?_
  refine g_icmpYes X22 d2_30 (XT.ii_ne_t (by decide)) 57 (by decide) (by decide) ?_
  refine g_iinc X22 d2_57 rfl (5 : Int32) (by decide) (Ls' := #[.val (.int (0 : Int32)), .val (.int (0 : Int32)), .val (.int (1 : Int32)), .val (.ref b6), .val (.int (6 : Int32)), .val (.int (5 : Int32)), .val (.ref b4)]) rfl 60 rfl ?_
  refine g_goto X22 d2_60 11 (by decide) (by decide) ?_
  refine g_iload X22 d2_11 rfl 13 rfl ?_
  refine g_iload X22 d2_13 rfl 15 rfl ?_
  refine g_icmpNo X22 d2_15 (XT.ii_ge_f (by decide)) 18 rfl ?_
  refine g_aloadN X22 d2_18 rfl rfl 19 rfl ?_
  refine g_iload X22 d2_19 rfl 21 rfl ?_
  refine g_aaload X22 A8 rfl (by decide) (by decide) (.ref b5) rfl d2_21 22 rfl ?_
  refine g_astore X22 d2_22 rfl (Ls' := #[.val (.int (0 : Int32)), .val (.int (0 : Int32)), .val (.int (1 : Int32)), .val (.ref b6), .val (.int (6 : Int32)), .val (.int (5 : Int32)), .val (.ref b5)]) rfl 24 rfl ?_
  refine g_aload X22 d2_24 rfl rfl 26 rfl ?_
  refine g_getF X22 (Or.inl (hw _ (List.mem_of_getElem? (i := 30) rfl))) (host := "") Via.refl (F5level.ext X22.old) d2_26 29 rfl ?_
  intro T23 X24
  refine g_iloadN X24 d2_29 rfl 30 rfl ?_
  refine g_icmpNo X24 d2_30 (XT.ii_ne_f (by decide)) 33 rfl ?_
  refine g_aload X24 d2_33 rfl rfl 35 rfl ?_
  refine g_getF X24 (Or.inl (hw _ (List.mem_of_getElem? (i := 32) rfl))) (host := "") Via.refl (F5type.ext X24.old) d2_35 38 rfl ?_
  intro T25 X26
  refine g_iloadN X26 d2_38 rfl 39 rfl ?_
  refine g_icmpNo X26 d2_39 (XT.ii_ne_f (by decide)) 42 rfl ?_
  refine g_aload X26 d2_42 rfl rfl 44 rfl ?_
  refine g_getF X26 (Or.inl (hw _ (List.mem_of_getElem? (i := 34) rfl))) (host := "") Via.refl (F5id.ext X26.old) d2_44 47 rfl ?_
  intro T27 X28
  refine g_iloadN X28 d2_47 rfl 48 rfl ?_
  refine g_icmpYes X28 d2_48 (XT.ii_ne_t (by decide)) 57 (by decide) (by decide) ?_
  refine g_iinc X28 d2_57 rfl (6 : Int32) (by decide) (Ls' := #[.val (.int (0 : Int32)), .val (.int (0 : Int32)), .val (.int (1 : Int32)), .val (.ref b6), .val (.int (6 : Int32)), .val (.int (6 : Int32)), .val (.ref b5)]) rfl 60 rfl ?_
  refine g_goto X28 d2_60 11 (by decide) (by decide) ?_
  refine g_iload X28 d2_11 rfl 13 rfl ?_
  refine g_iload X28 d2_13 rfl 15 rfl ?_
  refine g_icmpYes X28 d2_15 (XT.ii_ge_t (by decide)) 63 (by decide) (by decide) ?_
  refine g_callSp X28 (hw _ (List.mem_of_getElem? (i := 70) rfl)) (hw _ (List.mem_of_getElem? (i := 71) rfl)) (hw _ (List.mem_of_getElem? (i := 38) rfl)) (hw _ (List.mem_of_getElem? (i := 72) rfl)) (by decide) (c_empty l Z a0 G b0 b1 b2 b3 b4 b5 bv eo kv h5 TT0) (by simp) (argsL := []) (rest := []) pd_5 rfl rfl rfl rfl 0 (Nat.le_of_eq rfl) (by decide) (by decide) (ck := 1) rfl (cs := 6) rfl (by decide) (by decide) d2_63 66 rfl ?_
  intro w31 T29 X30 hq32
  subst hq32
  exact g_retA X30 rfl rfl rfl d2_66 (by decide) (by decide) ⟨_, rfl, ⟨eo, rfl, ((Ext.refl h).trans E7), (EO.ext X30.old), (FO.ext X30.old)⟩⟩
set_option maxRecDepth 65536 in
set_option maxHeartbeats 40000000 in
theorem c_of010 (l : Launch) (Z : State) (a0 : Array Value) (G : Gl Z a0) (b0 b1 b2 b3 b4 b5 bv eo : Addr) (kv : ClassId) (h : Heap) (TT : Tiers Z b0 b1 b2 b3 b4 b5 bv eo kv) :
    Ctr l Z EL nw (⟨"com/example/rowpath/rowpath/core/NodeMatch$Tier", "of", "(ZZZ)Ljava/util/Optional;"⟩ : MethodName) prog_48_method_4_code 7 (Option.some (Jvm.ClassFile.FieldType.object "java/util/Optional")) ({ frames := 3, cells := 2, slots := 7, locals := 38 } : Room) #[.int (0 : Int32), .int (1 : Int32), .int (0 : Int32)] h [] (ValQ fun w h' => ∃ o, w = .ref o ∧ Ext h h' ∧ Exa Z h' o "java/util/Optional" ∧ Fld Z h' o "java/util/Optional" "value" "Ljava/lang/Object;" (.ref b3)) := by
  have hw := G.1
  refine Ctr.enter (own := "com/example/rowpath/rowpath/core/NodeMatch$Tier") (nm := "of") rfl rfl G.2 (plainFor_of_name pn_2) #[.val (.int (0 : Int32)), .val (.int (1 : Int32)), .val (.int (0 : Int32)), .unset, .unset, .unset, .unset] (fun m => by first | rfl | (simp [entryFrame, mkF, argsToLocals, Value.category, maxLocals]; done)) ?_
  intro p e s m below meth c T X
  have TT0 := TT
  obtain ⟨S0, E0, F0level, F0type, F0id, S1, E1, F1level, F1type, F1id, S2, E2, F2level, F2type, F2id, S3, E3, F3level, F3type, F3id, S4, E4, F4level, F4type, F4id, S5, E5, F5level, F5type, F5id, SV, EV, AV, SO, EO, FO⟩ := TT
  refine g_callSv X (hw _ (List.mem_of_getElem? (i := 10) rfl)) (hw _ (List.mem_of_getElem? (i := 11) rfl)) (hw _ (List.mem_of_getElem? (i := 5) rfl)) (hw _ (List.mem_of_getElem? (i := 12) rfl)) (by decide) (c_values l Z a0 G b0 b1 b2 b3 b4 b5 bv eo kv h TT0) (by simp) (argsL := []) (rest := []) pd_6 rfl rfl rfl rfl 0 (Nat.le_of_eq rfl) (by decide) (by decide) (ck := 1) rfl (cs := 6) rfl (by decide) (by decide) d2_0 3 rfl ?_
  intro w3 T1 h5 X2 hq4
  obtain ⟨b6, rfl, E7, A8⟩ := hq4
  refine g_astoreN X2 d2_3 rfl (Ls' := #[.val (.int (0 : Int32)), .val (.int (1 : Int32)), .val (.int (0 : Int32)), .val (.ref b6), .unset, .unset, .unset]) rfl 4 rfl ?_
  refine g_aloadN X2 d2_4 rfl rfl 5 rfl ?_
  refine g_arrlen X2 A8 d2_5 6 rfl ?_
  refine g_istore X2 d2_6 (Ls' := #[.val (.int (0 : Int32)), .val (.int (1 : Int32)), .val (.int (0 : Int32)), .val (.ref b6), .val (.int (6 : Int32)), .unset, .unset]) rfl 8 rfl ?_
  refine g_iconst X2 (0 : Int32) d2_8 (by decide) 9 rfl ?_
  refine g_istore X2 d2_9 (Ls' := #[.val (.int (0 : Int32)), .val (.int (1 : Int32)), .val (.int (0 : Int32)), .val (.ref b6), .val (.int (6 : Int32)), .val (.int (0 : Int32)), .unset]) rfl 11 rfl ?_
  refine g_iload X2 d2_11 rfl 13 rfl ?_
  refine g_iload X2 d2_13 rfl 15 rfl ?_
  refine g_icmpNo X2 d2_15 (XT.ii_ge_f (by decide)) 18 rfl ?_
  refine g_aloadN X2 d2_18 rfl rfl 19 rfl ?_
  refine g_iload X2 d2_19 rfl 21 rfl ?_
  refine g_aaload X2 A8 rfl (by decide) (by decide) (.ref b0) rfl d2_21 22 rfl ?_
  refine g_astore X2 d2_22 rfl (Ls' := #[.val (.int (0 : Int32)), .val (.int (1 : Int32)), .val (.int (0 : Int32)), .val (.ref b6), .val (.int (6 : Int32)), .val (.int (0 : Int32)), .val (.ref b0)]) rfl 24 rfl ?_
  refine g_aload X2 d2_24 rfl rfl 26 rfl ?_
  refine g_getF X2 (Or.inl (hw _ (List.mem_of_getElem? (i := 30) rfl))) (host := "") Via.refl (F0level.ext X2.old) d2_26 29 rfl ?_
  intro T9 X10
  refine g_iloadN X10 d2_29 rfl 30 rfl ?_
  refine g_icmpYes X10 d2_30 (XT.ii_ne_t (by decide)) 57 (by decide) (by decide) ?_
  refine g_iinc X10 d2_57 rfl (1 : Int32) (by decide) (Ls' := #[.val (.int (0 : Int32)), .val (.int (1 : Int32)), .val (.int (0 : Int32)), .val (.ref b6), .val (.int (6 : Int32)), .val (.int (1 : Int32)), .val (.ref b0)]) rfl 60 rfl ?_
  refine g_goto X10 d2_60 11 (by decide) (by decide) ?_
  refine g_iload X10 d2_11 rfl 13 rfl ?_
  refine g_iload X10 d2_13 rfl 15 rfl ?_
  refine g_icmpNo X10 d2_15 (XT.ii_ge_f (by decide)) 18 rfl ?_
  refine g_aloadN X10 d2_18 rfl rfl 19 rfl ?_
  refine g_iload X10 d2_19 rfl 21 rfl ?_
  refine g_aaload X10 A8 rfl (by decide) (by decide) (.ref b1) rfl d2_21 22 rfl ?_
  refine g_astore X10 d2_22 rfl (Ls' := #[.val (.int (0 : Int32)), .val (.int (1 : Int32)), .val (.int (0 : Int32)), .val (.ref b6), .val (.int (6 : Int32)), .val (.int (1 : Int32)), .val (.ref b1)]) rfl 24 rfl ?_
  refine g_aload X10 d2_24 rfl rfl 26 rfl ?_
  refine g_getF X10 (Or.inl (hw _ (List.mem_of_getElem? (i := 30) rfl))) (host := "") Via.refl (F1level.ext X10.old) d2_26 29 rfl ?_
  intro T11 X12
  refine g_iloadN X12 d2_29 rfl 30 rfl ?_
  refine g_icmpNo X12 d2_30 (XT.ii_ne_f (by decide)) 33 rfl ?_
  refine g_aload X12 d2_33 rfl rfl 35 rfl ?_
  refine g_getF X12 (Or.inl (hw _ (List.mem_of_getElem? (i := 32) rfl))) (host := "") Via.refl (F1type.ext X12.old) d2_35 38 rfl ?_
  intro T13 X14
  refine g_iloadN X14 d2_38 rfl 39 rfl ?_
  refine g_icmpNo X14 d2_39 (XT.ii_ne_f (by decide)) 42 rfl ?_
  refine g_aload X14 d2_42 rfl rfl 44 rfl ?_
  refine g_getF X14 (Or.inl (hw _ (List.mem_of_getElem? (i := 34) rfl))) (host := "") Via.refl (F1id.ext X14.old) d2_44 47 rfl ?_
  intro T15 X16
  refine g_iloadN X16 d2_47 rfl 48 rfl ?_
  refine g_icmpYes X16 d2_48 (XT.ii_ne_t (by decide)) 57 (by decide) (by decide) ?_
  refine g_iinc X16 d2_57 rfl (2 : Int32) (by decide) (Ls' := #[.val (.int (0 : Int32)), .val (.int (1 : Int32)), .val (.int (0 : Int32)), .val (.ref b6), .val (.int (6 : Int32)), .val (.int (2 : Int32)), .val (.ref b1)]) rfl 60 rfl ?_
  refine g_goto X16 d2_60 11 (by decide) (by decide) ?_
  refine g_iload X16 d2_11 rfl 13 rfl ?_
  refine g_iload X16 d2_13 rfl 15 rfl ?_
  refine g_icmpNo X16 d2_15 (XT.ii_ge_f (by decide)) 18 rfl ?_
  refine g_aloadN X16 d2_18 rfl rfl 19 rfl ?_
  refine g_iload X16 d2_19 rfl 21 rfl ?_
  refine g_aaload X16 A8 rfl (by decide) (by decide) (.ref b2) rfl d2_21 22 rfl ?_
  refine g_astore X16 d2_22 rfl (Ls' := #[.val (.int (0 : Int32)), .val (.int (1 : Int32)), .val (.int (0 : Int32)), .val (.ref b6), .val (.int (6 : Int32)), .val (.int (2 : Int32)), .val (.ref b2)]) rfl 24 rfl ?_
  refine g_aload X16 d2_24 rfl rfl 26 rfl ?_
  refine g_getF X16 (Or.inl (hw _ (List.mem_of_getElem? (i := 30) rfl))) (host := "") Via.refl (F2level.ext X16.old) d2_26 29 rfl ?_
  intro T17 X18
  refine g_iloadN X18 d2_29 rfl 30 rfl ?_
  refine g_icmpYes X18 d2_30 (XT.ii_ne_t (by decide)) 57 (by decide) (by decide) ?_
  refine g_iinc X18 d2_57 rfl (3 : Int32) (by decide) (Ls' := #[.val (.int (0 : Int32)), .val (.int (1 : Int32)), .val (.int (0 : Int32)), .val (.ref b6), .val (.int (6 : Int32)), .val (.int (3 : Int32)), .val (.ref b2)]) rfl 60 rfl ?_
  refine g_goto X18 d2_60 11 (by decide) (by decide) ?_
  refine g_iload X18 d2_11 rfl 13 rfl ?_
  refine g_iload X18 d2_13 rfl 15 rfl ?_
  refine g_icmpNo X18 d2_15 (XT.ii_ge_f (by decide)) 18 rfl ?_
  refine g_aloadN X18 d2_18 rfl rfl 19 rfl ?_
  refine g_iload X18 d2_19 rfl 21 rfl ?_
  refine g_aaload X18 A8 rfl (by decide) (by decide) (.ref b3) rfl d2_21 22 rfl ?_
  refine g_astore X18 d2_22 rfl (Ls' := #[.val (.int (0 : Int32)), .val (.int (1 : Int32)), .val (.int (0 : Int32)), .val (.ref b6), .val (.int (6 : Int32)), .val (.int (3 : Int32)), .val (.ref b3)]) rfl 24 rfl ?_
  refine g_aload X18 d2_24 rfl rfl 26 rfl ?_
  refine g_getF X18 (Or.inl (hw _ (List.mem_of_getElem? (i := 30) rfl))) (host := "") Via.refl (F3level.ext X18.old) d2_26 29 rfl ?_
  intro T19 X20
  refine g_iloadN X20 d2_29 rfl 30 rfl ?_
  refine g_icmpNo X20 d2_30 (XT.ii_ne_f (by decide)) 33 rfl ?_
  refine g_aload X20 d2_33 rfl rfl 35 rfl ?_
  refine g_getF X20 (Or.inl (hw _ (List.mem_of_getElem? (i := 32) rfl))) (host := "") Via.refl (F3type.ext X20.old) d2_35 38 rfl ?_
  intro T21 X22
  refine g_iloadN X22 d2_38 rfl 39 rfl ?_
  refine g_icmpNo X22 d2_39 (XT.ii_ne_f (by decide)) 42 rfl ?_
  refine g_aload X22 d2_42 rfl rfl 44 rfl ?_
  refine g_getF X22 (Or.inl (hw _ (List.mem_of_getElem? (i := 34) rfl))) (host := "") Via.refl (F3id.ext X22.old) d2_44 47 rfl ?_
  intro T23 X24
  refine g_iloadN X24 d2_47 rfl 48 rfl ?_
  refine g_icmpNo X24 d2_48 (XT.ii_ne_f (by decide)) 51 rfl ?_
  refine g_aload X24 d2_51 rfl rfl 53 rfl ?_
  refine g_callSv X24 (hw _ (List.mem_of_getElem? (i := 36) rfl)) (hw _ (List.mem_of_getElem? (i := 37) rfl)) (hw _ (List.mem_of_getElem? (i := 38) rfl)) (hw _ (List.mem_of_getElem? (i := 39) rfl)) (by decide) (c_oof l Z a0 G b3 h5) (by simp) (argsL := [.ref b3]) (rest := []) pd_4 rfl rfl rfl rfl 0 (Nat.le_of_eq rfl) (by decide) (by decide) (ck := 2) rfl (cs := 7) rfl (by decide) (by decide) d2_53 56 rfl ?_
  intro w27 T25 h29 X26 hq28
  obtain ⟨o30, rfl, E31, A32, F33⟩ := hq28
  exact g_retA X26 rfl rfl rfl d2_56 (by decide) (by decide) ⟨_, rfl, ⟨o30, rfl, (((Ext.refl h).trans E7).trans E31), A32, F33⟩⟩
set_option maxRecDepth 65536 in
set_option maxHeartbeats 40000000 in
theorem c_of011 (l : Launch) (Z : State) (a0 : Array Value) (G : Gl Z a0) (b0 b1 b2 b3 b4 b5 bv eo : Addr) (kv : ClassId) (h : Heap) (TT : Tiers Z b0 b1 b2 b3 b4 b5 bv eo kv) :
    Ctr l Z EL nw (⟨"com/example/rowpath/rowpath/core/NodeMatch$Tier", "of", "(ZZZ)Ljava/util/Optional;"⟩ : MethodName) prog_48_method_4_code 7 (Option.some (Jvm.ClassFile.FieldType.object "java/util/Optional")) ({ frames := 3, cells := 2, slots := 7, locals := 38 } : Room) #[.int (0 : Int32), .int (1 : Int32), .int (1 : Int32)] h [] (ValQ fun w h' => ∃ o, w = .ref o ∧ Ext h h' ∧ Exa Z h' o "java/util/Optional" ∧ Fld Z h' o "java/util/Optional" "value" "Ljava/lang/Object;" (.ref b1)) := by
  have hw := G.1
  refine Ctr.enter (own := "com/example/rowpath/rowpath/core/NodeMatch$Tier") (nm := "of") rfl rfl G.2 (plainFor_of_name pn_2) #[.val (.int (0 : Int32)), .val (.int (1 : Int32)), .val (.int (1 : Int32)), .unset, .unset, .unset, .unset] (fun m => by first | rfl | (simp [entryFrame, mkF, argsToLocals, Value.category, maxLocals]; done)) ?_
  intro p e s m below meth c T X
  have TT0 := TT
  obtain ⟨S0, E0, F0level, F0type, F0id, S1, E1, F1level, F1type, F1id, S2, E2, F2level, F2type, F2id, S3, E3, F3level, F3type, F3id, S4, E4, F4level, F4type, F4id, S5, E5, F5level, F5type, F5id, SV, EV, AV, SO, EO, FO⟩ := TT
  refine g_callSv X (hw _ (List.mem_of_getElem? (i := 10) rfl)) (hw _ (List.mem_of_getElem? (i := 11) rfl)) (hw _ (List.mem_of_getElem? (i := 5) rfl)) (hw _ (List.mem_of_getElem? (i := 12) rfl)) (by decide) (c_values l Z a0 G b0 b1 b2 b3 b4 b5 bv eo kv h TT0) (by simp) (argsL := []) (rest := []) pd_6 rfl rfl rfl rfl 0 (Nat.le_of_eq rfl) (by decide) (by decide) (ck := 1) rfl (cs := 6) rfl (by decide) (by decide) d2_0 3 rfl ?_
  intro w3 T1 h5 X2 hq4
  obtain ⟨b6, rfl, E7, A8⟩ := hq4
  refine g_astoreN X2 d2_3 rfl (Ls' := #[.val (.int (0 : Int32)), .val (.int (1 : Int32)), .val (.int (1 : Int32)), .val (.ref b6), .unset, .unset, .unset]) rfl 4 rfl ?_
  refine g_aloadN X2 d2_4 rfl rfl 5 rfl ?_
  refine g_arrlen X2 A8 d2_5 6 rfl ?_
  refine g_istore X2 d2_6 (Ls' := #[.val (.int (0 : Int32)), .val (.int (1 : Int32)), .val (.int (1 : Int32)), .val (.ref b6), .val (.int (6 : Int32)), .unset, .unset]) rfl 8 rfl ?_
  refine g_iconst X2 (0 : Int32) d2_8 (by decide) 9 rfl ?_
  refine g_istore X2 d2_9 (Ls' := #[.val (.int (0 : Int32)), .val (.int (1 : Int32)), .val (.int (1 : Int32)), .val (.ref b6), .val (.int (6 : Int32)), .val (.int (0 : Int32)), .unset]) rfl 11 rfl ?_
  refine g_iload X2 d2_11 rfl 13 rfl ?_
  refine g_iload X2 d2_13 rfl 15 rfl ?_
  refine g_icmpNo X2 d2_15 (XT.ii_ge_f (by decide)) 18 rfl ?_
  refine g_aloadN X2 d2_18 rfl rfl 19 rfl ?_
  refine g_iload X2 d2_19 rfl 21 rfl ?_
  refine g_aaload X2 A8 rfl (by decide) (by decide) (.ref b0) rfl d2_21 22 rfl ?_
  refine g_astore X2 d2_22 rfl (Ls' := #[.val (.int (0 : Int32)), .val (.int (1 : Int32)), .val (.int (1 : Int32)), .val (.ref b6), .val (.int (6 : Int32)), .val (.int (0 : Int32)), .val (.ref b0)]) rfl 24 rfl ?_
  refine g_aload X2 d2_24 rfl rfl 26 rfl ?_
  refine g_getF X2 (Or.inl (hw _ (List.mem_of_getElem? (i := 30) rfl))) (host := "") Via.refl (F0level.ext X2.old) d2_26 29 rfl ?_
  intro T9 X10
  refine g_iloadN X10 d2_29 rfl 30 rfl ?_
  refine g_icmpYes X10 d2_30 (XT.ii_ne_t (by decide)) 57 (by decide) (by decide) ?_
  refine g_iinc X10 d2_57 rfl (1 : Int32) (by decide) (Ls' := #[.val (.int (0 : Int32)), .val (.int (1 : Int32)), .val (.int (1 : Int32)), .val (.ref b6), .val (.int (6 : Int32)), .val (.int (1 : Int32)), .val (.ref b0)]) rfl 60 rfl ?_
  refine g_goto X10 d2_60 11 (by decide) (by decide) ?_
  refine g_iload X10 d2_11 rfl 13 rfl ?_
  refine g_iload X10 d2_13 rfl 15 rfl ?_
  refine g_icmpNo X10 d2_15 (XT.ii_ge_f (by decide)) 18 rfl ?_
  refine g_aloadN X10 d2_18 rfl rfl 19 rfl ?_
  refine g_iload X10 d2_19 rfl 21 rfl ?_
  refine g_aaload X10 A8 rfl (by decide) (by decide) (.ref b1) rfl d2_21 22 rfl ?_
  refine g_astore X10 d2_22 rfl (Ls' := #[.val (.int (0 : Int32)), .val (.int (1 : Int32)), .val (.int (1 : Int32)), .val (.ref b6), .val (.int (6 : Int32)), .val (.int (1 : Int32)), .val (.ref b1)]) rfl 24 rfl ?_
  refine g_aload X10 d2_24 rfl rfl 26 rfl ?_
  refine g_getF X10 (Or.inl (hw _ (List.mem_of_getElem? (i := 30) rfl))) (host := "") Via.refl (F1level.ext X10.old) d2_26 29 rfl ?_
  intro T11 X12
  refine g_iloadN X12 d2_29 rfl 30 rfl ?_
  refine g_icmpNo X12 d2_30 (XT.ii_ne_f (by decide)) 33 rfl ?_
  refine g_aload X12 d2_33 rfl rfl 35 rfl ?_
  refine g_getF X12 (Or.inl (hw _ (List.mem_of_getElem? (i := 32) rfl))) (host := "") Via.refl (F1type.ext X12.old) d2_35 38 rfl ?_
  intro T13 X14
  refine g_iloadN X14 d2_38 rfl 39 rfl ?_
  refine g_icmpNo X14 d2_39 (XT.ii_ne_f (by decide)) 42 rfl ?_
  refine g_aload X14 d2_42 rfl rfl 44 rfl ?_
  refine g_getF X14 (Or.inl (hw _ (List.mem_of_getElem? (i := 34) rfl))) (host := "") Via.refl (F1id.ext X14.old) d2_44 47 rfl ?_
  intro T15 X16
  refine g_iloadN X16 d2_47 rfl 48 rfl ?_
  refine g_icmpNo X16 d2_48 (XT.ii_ne_f (by decide)) 51 rfl ?_
  refine g_aload X16 d2_51 rfl rfl 53 rfl ?_
  refine g_callSv X16 (hw _ (List.mem_of_getElem? (i := 36) rfl)) (hw _ (List.mem_of_getElem? (i := 37) rfl)) (hw _ (List.mem_of_getElem? (i := 38) rfl)) (hw _ (List.mem_of_getElem? (i := 39) rfl)) (by decide) (c_oof l Z a0 G b1 h5) (by simp) (argsL := [.ref b1]) (rest := []) pd_4 rfl rfl rfl rfl 0 (Nat.le_of_eq rfl) (by decide) (by decide) (ck := 2) rfl (cs := 7) rfl (by decide) (by decide) d2_53 56 rfl ?_
  intro w19 T17 h21 X18 hq20
  obtain ⟨o22, rfl, E23, A24, F25⟩ := hq20
  exact g_retA X18 rfl rfl rfl d2_56 (by decide) (by decide) ⟨_, rfl, ⟨o22, rfl, (((Ext.refl h).trans E7).trans E23), A24, F25⟩⟩
set_option maxRecDepth 65536 in
set_option maxHeartbeats 40000000 in
theorem c_of100 (l : Launch) (Z : State) (a0 : Array Value) (G : Gl Z a0) (b0 b1 b2 b3 b4 b5 bv eo : Addr) (kv : ClassId) (h : Heap) (TT : Tiers Z b0 b1 b2 b3 b4 b5 bv eo kv) :
    Ctr l Z EL nw (⟨"com/example/rowpath/rowpath/core/NodeMatch$Tier", "of", "(ZZZ)Ljava/util/Optional;"⟩ : MethodName) prog_48_method_4_code 7 (Option.some (Jvm.ClassFile.FieldType.object "java/util/Optional")) ({ frames := 3, cells := 2, slots := 7, locals := 38 } : Room) #[.int (1 : Int32), .int (0 : Int32), .int (0 : Int32)] h [] (ValQ fun w h' => ∃ o, w = .ref o ∧ Ext h h' ∧ Exa Z h' o "java/util/Optional" ∧ Fld Z h' o "java/util/Optional" "value" "Ljava/lang/Object;" (.ref b4)) := by
  have hw := G.1
  refine Ctr.enter (own := "com/example/rowpath/rowpath/core/NodeMatch$Tier") (nm := "of") rfl rfl G.2 (plainFor_of_name pn_2) #[.val (.int (1 : Int32)), .val (.int (0 : Int32)), .val (.int (0 : Int32)), .unset, .unset, .unset, .unset] (fun m => by first | rfl | (simp [entryFrame, mkF, argsToLocals, Value.category, maxLocals]; done)) ?_
  intro p e s m below meth c T X
  have TT0 := TT
  obtain ⟨S0, E0, F0level, F0type, F0id, S1, E1, F1level, F1type, F1id, S2, E2, F2level, F2type, F2id, S3, E3, F3level, F3type, F3id, S4, E4, F4level, F4type, F4id, S5, E5, F5level, F5type, F5id, SV, EV, AV, SO, EO, FO⟩ := TT
  refine g_callSv X (hw _ (List.mem_of_getElem? (i := 10) rfl)) (hw _ (List.mem_of_getElem? (i := 11) rfl)) (hw _ (List.mem_of_getElem? (i := 5) rfl)) (hw _ (List.mem_of_getElem? (i := 12) rfl)) (by decide) (c_values l Z a0 G b0 b1 b2 b3 b4 b5 bv eo kv h TT0) (by simp) (argsL := []) (rest := []) pd_6 rfl rfl rfl rfl 0 (Nat.le_of_eq rfl) (by decide) (by decide) (ck := 1) rfl (cs := 6) rfl (by decide) (by decide) d2_0 3 rfl ?_
  intro w3 T1 h5 X2 hq4
  obtain ⟨b6, rfl, E7, A8⟩ := hq4
  refine g_astoreN X2 d2_3 rfl (Ls' := #[.val (.int (1 : Int32)), .val (.int (0 : Int32)), .val (.int (0 : Int32)), .val (.ref b6), .unset, .unset, .unset]) rfl 4 rfl ?_
  refine g_aloadN X2 d2_4 rfl rfl 5 rfl ?_
  refine g_arrlen X2 A8 d2_5 6 rfl ?_
  refine g_istore X2 d2_6 (Ls' := #[.val (.int (1 : Int32)), .val (.int (0 : Int32)), .val (.int (0 : Int32)), .val (.ref b6), .val (.int (6 : Int32)), .unset, .unset]) rfl 8 rfl ?_
  refine g_iconst X2 (0 : Int32) d2_8 (by decide) 9 rfl ?_
  refine g_istore X2 d2_9 (Ls' := #[.val (.int (1 : Int32)), .val (.int (0 : Int32)), .val (.int (0 : Int32)), .val (.ref b6), .val (.int (6 : Int32)), .val (.int (0 : Int32)), .unset]) rfl 11 rfl ?_
  refine g_iload X2 d2_11 rfl 13 rfl ?_
  refine g_iload X2 d2_13 rfl 15 rfl ?_
  refine g_icmpNo X2 d2_15 (XT.ii_ge_f (by decide)) 18 rfl ?_
  refine g_aloadN X2 d2_18 rfl rfl 19 rfl ?_
  refine g_iload X2 d2_19 rfl 21 rfl ?_
  refine g_aaload X2 A8 rfl (by decide) (by decide) (.ref b0) rfl d2_21 22 rfl ?_
  refine g_astore X2 d2_22 rfl (Ls' := #[.val (.int (1 : Int32)), .val (.int (0 : Int32)), .val (.int (0 : Int32)), .val (.ref b6), .val (.int (6 : Int32)), .val (.int (0 : Int32)), .val (.ref b0)]) rfl 24 rfl ?_
  refine g_aload X2 d2_24 rfl rfl 26 rfl ?_
  refine g_getF X2 (Or.inl (hw _ (List.mem_of_getElem? (i := 30) rfl))) (host := "") Via.refl (F0level.ext X2.old) d2_26 29 rfl ?_
  intro T9 X10
  refine g_iloadN X10 d2_29 rfl 30 rfl ?_
  refine g_icmpNo X10 d2_30 (XT.ii_ne_f (by decide)) 33 rfl ?_
  refine g_aload X10 d2_33 rfl rfl 35 rfl ?_
  refine g_getF X10 (Or.inl (hw _ (List.mem_of_getElem? (i := 32) rfl))) (host := "") Via.refl (F0type.ext X10.old) d2_35 38 rfl ?_
  intro T11 X12
  refine g_iloadN X12 d2_38 rfl 39 rfl ?_
  refine g_icmpYes X12 d2_39 (XT.ii_ne_t (by decide)) 57 (by decide) (by decide) ?_
  refine g_iinc X12 d2_57 rfl (1 : Int32) (by decide) (Ls' := #[.val (.int (1 : Int32)), .val (.int (0 : Int32)), .val (.int (0 : Int32)), .val (.ref b6), .val (.int (6 : Int32)), .val (.int (1 : Int32)), .val (.ref b0)]) rfl 60 rfl ?_
  refine g_goto X12 d2_60 11 (by decide) (by decide) ?_
  refine g_iload X12 d2_11 rfl 13 rfl ?_
  refine g_iload X12 d2_13 rfl 15 rfl ?_
  refine g_icmpNo X12 d2_15 (XT.ii_ge_f (by decide)) 18 rfl ?_
  refine g_aloadN X12 d2_18 rfl rfl 19 rfl ?_
  refine g_iload X12 d2_19 rfl 21 rfl ?_
  refine g_aaload X12 A8 rfl (by decide) (by decide) (.ref b1) rfl d2_21 22 rfl ?_
  refine g_astore X12 d2_22 rfl (Ls' := #[.val (.int (1 : Int32)), .val (.int (0 : Int32)), .val (.int (0 : Int32)), .val (.ref b6), .val (.int (6 : Int32)), .val (.int (1 : Int32)), .val (.ref b1)]) rfl 24 rfl ?_
  refine g_aload X12 d2_24 rfl rfl 26 rfl ?_
  refine g_getF X12 (Or.inl (hw _ (List.mem_of_getElem? (i := 30) rfl))) (host := "") Via.refl (F1level.ext X12.old) d2_26 29 rfl ?_
  intro T13 X14
  refine g_iloadN X14 d2_29 rfl 30 rfl ?_
  refine g_icmpYes X14 d2_30 (XT.ii_ne_t (by decide)) 57 (by decide) (by decide) ?_
  refine g_iinc X14 d2_57 rfl (2 : Int32) (by decide) (Ls' := #[.val (.int (1 : Int32)), .val (.int (0 : Int32)), .val (.int (0 : Int32)), .val (.ref b6), .val (.int (6 : Int32)), .val (.int (2 : Int32)), .val (.ref b1)]) rfl 60 rfl ?_
  refine g_goto X14 d2_60 11 (by decide) (by decide) ?_
  refine g_iload X14 d2_11 rfl 13 rfl ?_
  refine g_iload X14 d2_13 rfl 15 rfl ?_
  refine g_icmpNo X14 d2_15 (XT.ii_ge_f (by decide)) 18 rfl ?_
  refine g_aloadN X14 d2_18 rfl rfl 19 rfl ?_
  refine g_iload X14 d2_19 rfl 21 rfl ?_
  refine g_aaload X14 A8 rfl (by decide) (by decide) (.ref b2) rfl d2_21 22 rfl ?_
  refine g_astore X14 d2_22 rfl (Ls' := #[.val (.int (1 : Int32)), .val (.int (0 : Int32)), .val (.int (0 : Int32)), .val (.ref b6), .val (.int (6 : Int32)), .val (.int (2 : Int32)), .val (.ref b2)]) rfl 24 rfl ?_
  refine g_aload X14 d2_24 rfl rfl 26 rfl ?_
  refine g_getF X14 (Or.inl (hw _ (List.mem_of_getElem? (i := 30) rfl))) (host := "") Via.refl (F2level.ext X14.old) d2_26 29 rfl ?_
  intro T15 X16
  refine g_iloadN X16 d2_29 rfl 30 rfl ?_
  refine g_icmpNo X16 d2_30 (XT.ii_ne_f (by decide)) 33 rfl ?_
  refine g_aload X16 d2_33 rfl rfl 35 rfl ?_
  refine g_getF X16 (Or.inl (hw _ (List.mem_of_getElem? (i := 32) rfl))) (host := "") Via.refl (F2type.ext X16.old) d2_35 38 rfl ?_
  intro T17 X18
  refine g_iloadN X18 d2_38 rfl 39 rfl ?_
  refine g_icmpYes X18 d2_39 (XT.ii_ne_t (by decide)) 57 (by decide) (by decide) ?_
  refine g_iinc X18 d2_57 rfl (3 : Int32) (by decide) (Ls' := #[.val (.int (1 : Int32)), .val (.int (0 : Int32)), .val (.int (0 : Int32)), .val (.ref b6), .val (.int (6 : Int32)), .val (.int (3 : Int32)), .val (.ref b2)]) rfl 60 rfl ?_
  refine g_goto X18 d2_60 11 (by decide) (by decide) ?_
  refine g_iload X18 d2_11 rfl 13 rfl ?_
  refine g_iload X18 d2_13 rfl 15 rfl ?_
  refine g_icmpNo X18 d2_15 (XT.ii_ge_f (by decide)) 18 rfl ?_
  refine g_aloadN X18 d2_18 rfl rfl 19 rfl ?_
  refine g_iload X18 d2_19 rfl 21 rfl ?_
  refine g_aaload X18 A8 rfl (by decide) (by decide) (.ref b3) rfl d2_21 22 rfl ?_
  refine g_astore X18 d2_22 rfl (Ls' := #[.val (.int (1 : Int32)), .val (.int (0 : Int32)), .val (.int (0 : Int32)), .val (.ref b6), .val (.int (6 : Int32)), .val (.int (3 : Int32)), .val (.ref b3)]) rfl 24 rfl ?_
  refine g_aload X18 d2_24 rfl rfl 26 rfl ?_
  refine g_getF X18 (Or.inl (hw _ (List.mem_of_getElem? (i := 30) rfl))) (host := "") Via.refl (F3level.ext X18.old) d2_26 29 rfl ?_
  intro T19 X20
  refine g_iloadN X20 d2_29 rfl 30 rfl ?_
  refine g_icmpYes X20 d2_30 (XT.ii_ne_t (by decide)) 57 (by decide) (by decide) ?_
  refine g_iinc X20 d2_57 rfl (4 : Int32) (by decide) (Ls' := #[.val (.int (1 : Int32)), .val (.int (0 : Int32)), .val (.int (0 : Int32)), .val (.ref b6), .val (.int (6 : Int32)), .val (.int (4 : Int32)), .val (.ref b3)]) rfl 60 rfl ?_
  refine g_goto X20 d2_60 11 (by decide) (by decide) ?_
  refine g_iload X20 d2_11 rfl 13 rfl ?_
  refine g_iload X20 d2_13 rfl 15 rfl ?_
  refine g_icmpNo X20 d2_15 (XT.ii_ge_f (by decide)) 18 rfl ?_
  refine g_aloadN X20 d2_18 rfl rfl 19 rfl ?_
  refine g_iload X20 d2_19 rfl 21 rfl ?_
  refine g_aaload X20 A8 rfl (by decide) (by decide) (.ref b4) rfl d2_21 22 rfl ?_
  refine g_astore X20 d2_22 rfl (Ls' := #[.val (.int (1 : Int32)), .val (.int (0 : Int32)), .val (.int (0 : Int32)), .val (.ref b6), .val (.int (6 : Int32)), .val (.int (4 : Int32)), .val (.ref b4)]) rfl 24 rfl ?_
  refine g_aload X20 d2_24 rfl rfl 26 rfl ?_
  refine g_getF X20 (Or.inl (hw _ (List.mem_of_getElem? (i := 30) rfl))) (host := "") Via.refl (F4level.ext X20.old) d2_26 29 rfl ?_
  intro T21 X22
  refine g_iloadN X22 d2_29 rfl 30 rfl ?_
  refine g_icmpNo X22 d2_30 (XT.ii_ne_f (by decide)) 33 rfl ?_
  refine g_aload X22 d2_33 rfl rfl 35 rfl ?_
  refine g_getF X22 (Or.inl (hw _ (List.mem_of_getElem? (i := 32) rfl))) (host := "") Via.refl (F4type.ext X22.old) d2_35 38 rfl ?_
  intro T23 X24
  refine g_iloadN X24 d2_38 rfl 39 rfl ?_
  refine g_icmpNo X24 d2_39 (XT.ii_ne_f (by decide)) 42 rfl ?_
  refine g_aload X24 d2_42 rfl rfl 44 rfl ?_
  refine g_getF X24 (Or.inl (hw _ (List.mem_of_getElem? (i := 34) rfl))) (host := "") Via.refl (F4id.ext X24.old) d2_44 47 rfl ?_
  intro T25 X26
  refine g_iloadN X26 d2_47 rfl 48 rfl ?_
  refine g_icmpNo X26 d2_48 (XT.ii_ne_f (by decide)) 51 rfl ?_
  refine g_aload X26 d2_51 rfl rfl 53 rfl ?_
  refine g_callSv X26 (hw _ (List.mem_of_getElem? (i := 36) rfl)) (hw _ (List.mem_of_getElem? (i := 37) rfl)) (hw _ (List.mem_of_getElem? (i := 38) rfl)) (hw _ (List.mem_of_getElem? (i := 39) rfl)) (by decide) (c_oof l Z a0 G b4 h5) (by simp) (argsL := [.ref b4]) (rest := []) pd_4 rfl rfl rfl rfl 0 (Nat.le_of_eq rfl) (by decide) (by decide) (ck := 2) rfl (cs := 7) rfl (by decide) (by decide) d2_53 56 rfl ?_
  intro w29 T27 h31 X28 hq30
  obtain ⟨o32, rfl, E33, A34, F35⟩ := hq30
  exact g_retA X28 rfl rfl rfl d2_56 (by decide) (by decide) ⟨_, rfl, ⟨o32, rfl, (((Ext.refl h).trans E7).trans E33), A34, F35⟩⟩
set_option maxRecDepth 65536 in
set_option maxHeartbeats 40000000 in
theorem c_of101 (l : Launch) (Z : State) (a0 : Array Value) (G : Gl Z a0) (b0 b1 b2 b3 b4 b5 bv eo : Addr) (kv : ClassId) (h : Heap) (TT : Tiers Z b0 b1 b2 b3 b4 b5 bv eo kv) :
    Ctr l Z EL nw (⟨"com/example/rowpath/rowpath/core/NodeMatch$Tier", "of", "(ZZZ)Ljava/util/Optional;"⟩ : MethodName) prog_48_method_4_code 7 (Option.some (Jvm.ClassFile.FieldType.object "java/util/Optional")) ({ frames := 2, cells := 1, slots := 6, locals := 25 } : Room) #[.int (1 : Int32), .int (0 : Int32), .int (1 : Int32)] h [] (ValQ fun w h' => ∃ o, w = .ref o ∧ Ext h h' ∧ Exa Z h' o "java/util/Optional" ∧ Fld Z h' o "java/util/Optional" "value" "Ljava/lang/Object;" (.null)) := by
  have hw := G.1
  refine Ctr.enter (own := "com/example/rowpath/rowpath/core/NodeMatch$Tier") (nm := "of") rfl rfl G.2 (plainFor_of_name pn_2) #[.val (.int (1 : Int32)), .val (.int (0 : Int32)), .val (.int (1 : Int32)), .unset, .unset, .unset, .unset] (fun m => by first | rfl | (simp [entryFrame, mkF, argsToLocals, Value.category, maxLocals]; done)) ?_
  intro p e s m below meth c T X
  have TT0 := TT
  obtain ⟨S0, E0, F0level, F0type, F0id, S1, E1, F1level, F1type, F1id, S2, E2, F2level, F2type, F2id, S3, E3, F3level, F3type, F3id, S4, E4, F4level, F4type, F4id, S5, E5, F5level, F5type, F5id, SV, EV, AV, SO, EO, FO⟩ := TT
  refine g_callSv X (hw _ (List.mem_of_getElem? (i := 10) rfl)) (hw _ (List.mem_of_getElem? (i := 11) rfl)) (hw _ (List.mem_of_getElem? (i := 5) rfl)) (hw _ (List.mem_of_getElem? (i := 12) rfl)) (by decide) (c_values l Z a0 G b0 b1 b2 b3 b4 b5 bv eo kv h TT0) (by simp) (argsL := []) (rest := []) pd_6 rfl rfl rfl rfl 0 (Nat.le_of_eq rfl) (by decide) (by decide) (ck := 1) rfl (cs := 6) rfl (by decide) (by decide) d2_0 3 rfl ?_
  intro w3 T1 h5 X2 hq4
  obtain ⟨b6, rfl, E7, A8⟩ := hq4
  refine g_astoreN X2 d2_3 rfl (Ls' := #[.val (.int (1 : Int32)), .val (.int (0 : Int32)), .val (.int (1 : Int32)), .val (.ref b6), .unset, .unset, .unset]) rfl 4 rfl ?_
  refine g_aloadN X2 d2_4 rfl rfl 5 rfl ?_
  refine g_arrlen X2 A8 d2_5 6 rfl ?_
  refine g_istore X2 d2_6 (Ls' := #[.val (.int (1 : Int32)), .val (.int (0 : Int32)), .val (.int (1 : Int32)), .val (.ref b6), .val (.int (6 : Int32)), .unset, .unset]) rfl 8 rfl ?_
  refine g_iconst X2 (0 : Int32) d2_8 (by decide) 9 rfl ?_
  refine g_istore X2 d2_9 (Ls' := #[.val (.int (1 : Int32)), .val (.int (0 : Int32)), .val (.int (1 : Int32)), .val (.ref b6), .val (.int (6 : Int32)), .val (.int (0 : Int32)), .unset]) rfl 11 rfl ?_
  refine g_iload X2 d2_11 rfl 13 rfl ?_
  refine g_iload X2 d2_13 rfl 15 rfl ?_
  refine g_icmpNo X2 d2_15 (XT.ii_ge_f (by decide)) 18 rfl ?_
  refine g_aloadN X2 d2_18 rfl rfl 19 rfl ?_
  refine g_iload X2 d2_19 rfl 21 rfl ?_
  refine g_aaload X2 A8 rfl (by decide) (by decide) (.ref b0) rfl d2_21 22 rfl ?_
  refine g_astore X2 d2_22 rfl (Ls' := #[.val (.int (1 : Int32)), .val (.int (0 : Int32)), .val (.int (1 : Int32)), .val (.ref b6), .val (.int (6 : Int32)), .val (.int (0 : Int32)), .val (.ref b0)]) rfl 24 rfl ?_
  refine g_aload X2 d2_24 rfl rfl 26 rfl ?_
  refine g_getF X2 (Or.inl (hw _ (List.mem_of_getElem? (i := 30) rfl))) (host := "") Via.refl (F0level.ext X2.old) d2_26 29 rfl ?_
  intro T9 X10
  refine g_iloadN X10 d2_29 rfl 30 rfl ?_
  refine g_icmpNo X10 d2_30 (XT.ii_ne_f (by decide)) 33 rfl ?_
  refine g_aload X10 d2_33 rfl rfl 35 rfl ?_
  refine g_getF X10 (Or.inl (hw _ (List.mem_of_getElem? (i := 32) rfl))) (host := "") Via.refl (F0type.ext X10.old) d2_35 38 rfl ?_
  intro T11 X12
  refine g_iloadN X12 d2_38 rfl 39 rfl ?_
  refine g_icmpYes X12 d2_39 (XT.ii_ne_t (by decide)) 57 (by decide) (by decide) ?_
  refine g_iinc X12 d2_57 rfl (1 : Int32) (by decide) (Ls' := #[.val (.int (1 : Int32)), .val (.int (0 : Int32)), .val (.int (1 : Int32)), .val (.ref b6), .val (.int (6 : Int32)), .val (.int (1 : Int32)), .val (.ref b0)]) rfl 60 rfl ?_
  refine g_goto X12 d2_60 11 (by decide) (by decide) ?_
  refine g_iload X12 d2_11 rfl 13 rfl ?_
  refine g_iload X12 d2_13 rfl 15 rfl ?_
  refine g_icmpNo X12 d2_15 (XT.ii_ge_f (by decide)) 18 rfl ?_
  refine g_aloadN X12 d2_18 rfl rfl 19 rfl ?_
  refine g_iload X12 d2_19 rfl 21 rfl ?_
  refine g_aaload X12 A8 rfl (by decide) (by decide) (.ref b1) rfl d2_21 22 rfl ?_
  refine g_astore X12 d2_22 rfl (Ls' := #[.val (.int (1 : Int32)), .val (.int (0 : Int32)), .val (.int (1 : Int32)), .val (.ref b6), .val (.int (6 : Int32)), .val (.int (1 : Int32)), .val (.ref b1)]) rfl 24 rfl ?_
  refine g_aload X12 d2_24 rfl rfl 26 rfl ?_
  refine g_getF X12 (Or.inl (hw _ (List.mem_of_getElem? (i := 30) rfl))) (host := "") Via.refl (F1level.ext X12.old) d2_26 29 rfl ?_
  intro T13 X14
  refine g_iloadN X14 d2_29 rfl 30 rfl ?_
  refine g_icmpYes X14 d2_30 (XT.ii_ne_t (by decide)) 57 (by decide) (by decide) ?_
  refine g_iinc X14 d2_57 rfl (2 : Int32) (by decide) (Ls' := #[.val (.int (1 : Int32)), .val (.int (0 : Int32)), .val (.int (1 : Int32)), .val (.ref b6), .val (.int (6 : Int32)), .val (.int (2 : Int32)), .val (.ref b1)]) rfl 60 rfl ?_
  refine g_goto X14 d2_60 11 (by decide) (by decide) ?_
  refine g_iload X14 d2_11 rfl 13 rfl ?_
  refine g_iload X14 d2_13 rfl 15 rfl ?_
  refine g_icmpNo X14 d2_15 (XT.ii_ge_f (by decide)) 18 rfl ?_
  refine g_aloadN X14 d2_18 rfl rfl 19 rfl ?_
  refine g_iload X14 d2_19 rfl 21 rfl ?_
  refine g_aaload X14 A8 rfl (by decide) (by decide) (.ref b2) rfl d2_21 22 rfl ?_
  refine g_astore X14 d2_22 rfl (Ls' := #[.val (.int (1 : Int32)), .val (.int (0 : Int32)), .val (.int (1 : Int32)), .val (.ref b6), .val (.int (6 : Int32)), .val (.int (2 : Int32)), .val (.ref b2)]) rfl 24 rfl ?_
  refine g_aload X14 d2_24 rfl rfl 26 rfl ?_
  refine g_getF X14 (Or.inl (hw _ (List.mem_of_getElem? (i := 30) rfl))) (host := "") Via.refl (F2level.ext X14.old) d2_26 29 rfl ?_
  intro T15 X16
  refine g_iloadN X16 d2_29 rfl 30 rfl ?_
  refine g_icmpNo X16 d2_30 (XT.ii_ne_f (by decide)) 33 rfl ?_
  refine g_aload X16 d2_33 rfl rfl 35 rfl ?_
  refine g_getF X16 (Or.inl (hw _ (List.mem_of_getElem? (i := 32) rfl))) (host := "") Via.refl (F2type.ext X16.old) d2_35 38 rfl ?_
  intro T17 X18
  refine g_iloadN X18 d2_38 rfl 39 rfl ?_
  refine g_icmpYes X18 d2_39 (XT.ii_ne_t (by decide)) 57 (by decide) (by decide) ?_
  refine g_iinc X18 d2_57 rfl (3 : Int32) (by decide) (Ls' := #[.val (.int (1 : Int32)), .val (.int (0 : Int32)), .val (.int (1 : Int32)), .val (.ref b6), .val (.int (6 : Int32)), .val (.int (3 : Int32)), .val (.ref b2)]) rfl 60 rfl ?_
  refine g_goto X18 d2_60 11 (by decide) (by decide) ?_
  refine g_iload X18 d2_11 rfl 13 rfl ?_
  refine g_iload X18 d2_13 rfl 15 rfl ?_
  refine g_icmpNo X18 d2_15 (XT.ii_ge_f (by decide)) 18 rfl ?_
  refine g_aloadN X18 d2_18 rfl rfl 19 rfl ?_
  refine g_iload X18 d2_19 rfl 21 rfl ?_
  refine g_aaload X18 A8 rfl (by decide) (by decide) (.ref b3) rfl d2_21 22 rfl ?_
  refine g_astore X18 d2_22 rfl (Ls' := #[.val (.int (1 : Int32)), .val (.int (0 : Int32)), .val (.int (1 : Int32)), .val (.ref b6), .val (.int (6 : Int32)), .val (.int (3 : Int32)), .val (.ref b3)]) rfl 24 rfl ?_
  refine g_aload X18 d2_24 rfl rfl 26 rfl ?_
  refine g_getF X18 (Or.inl (hw _ (List.mem_of_getElem? (i := 30) rfl))) (host := "") Via.refl (F3level.ext X18.old) d2_26 29 rfl ?_
  intro T19 X20
  refine g_iloadN X20 d2_29 rfl 30 rfl ?_
  refine g_icmpYes X20 d2_30 (XT.ii_ne_t (by decide)) 57 (by decide) (by decide) ?_
  refine g_iinc X20 d2_57 rfl (4 : Int32) (by decide) (Ls' := #[.val (.int (1 : Int32)), .val (.int (0 : Int32)), .val (.int (1 : Int32)), .val (.ref b6), .val (.int (6 : Int32)), .val (.int (4 : Int32)), .val (.ref b3)]) rfl 60 rfl ?_
  refine g_goto X20 d2_60 11 (by decide) (by decide) ?_
  refine g_iload X20 d2_11 rfl 13 rfl ?_
  refine g_iload X20 d2_13 rfl 15 rfl ?_
  refine g_icmpNo X20 d2_15 (XT.ii_ge_f (by decide)) 18 rfl ?_
  refine g_aloadN X20 d2_18 rfl rfl 19 rfl ?_
  refine g_iload X20 d2_19 rfl 21 rfl ?_
  refine g_aaload X20 A8 rfl (by decide) (by decide) (.ref b4) rfl d2_21 22 rfl ?_
  refine g_astore X20 d2_22 rfl (Ls' := #[.val (.int (1 : Int32)), .val (.int (0 : Int32)), .val (.int (1 : Int32)), .val (.ref b6), .val (.int (6 : Int32)), .val (.int (4 : Int32)), .val (.ref b4)]) rfl 24 rfl ?_
  refine g_aload X20 d2_24 rfl rfl 26 rfl ?_
  refine g_getF X20 (Or.inl (hw _ (List.mem_of_getElem? (i := 30) rfl))) (host := "") Via.refl (F4level.ext X20.old) d2_26 29 rfl ?_
  intro T21 X22
  refine g_iloadN X22 d2_29 rfl 30 rfl ?_
  refine g_icmpNo X22 d2_30 (XT.ii_ne_f (by decide)) 33 rfl ?_
  refine g_aload X22 d2_33 rfl rfl 35 rfl ?_
  refine g_getF X22 (Or.inl (hw _ (List.mem_of_getElem? (i := 32) rfl))) (host := "") Via.refl (F4type.ext X22.old) d2_35 38 rfl ?_
  intro T23 X24
  refine g_iloadN X24 d2_38 rfl 39 rfl ?_
  refine g_icmpNo X24 d2_39 (XT.ii_ne_f (by decide)) 42 rfl ?_
  refine g_aload X24 d2_42 rfl rfl 44 rfl ?_
  refine g_getF X24 (Or.inl (hw _ (List.mem_of_getElem? (i := 34) rfl))) (host := "") Via.refl (F4id.ext X24.old) d2_44 47 rfl ?_
  intro T25 X26
  refine g_iloadN X26 d2_47 rfl 48 rfl ?_
  refine g_icmpYes X26 d2_48 (XT.ii_ne_t (by decide)) 57 (by decide) (by decide) ?_
  refine g_iinc X26 d2_57 rfl (5 : Int32) (by decide) (Ls' := #[.val (.int (1 : Int32)), .val (.int (0 : Int32)), .val (.int (1 : Int32)), .val (.ref b6), .val (.int (6 : Int32)), .val (.int (5 : Int32)), .val (.ref b4)]) rfl 60 rfl ?_
  refine g_goto X26 d2_60 11 (by decide) (by decide) ?_
  refine g_iload X26 d2_11 rfl 13 rfl ?_
  refine g_iload X26 d2_13 rfl 15 rfl ?_
  refine g_icmpNo X26 d2_15 (XT.ii_ge_f (by decide)) 18 rfl ?_
  refine g_aloadN X26 d2_18 rfl rfl 19 rfl ?_
  refine g_iload X26 d2_19 rfl 21 rfl ?_
  refine g_aaload X26 A8 rfl (by decide) (by decide) (.ref b5) rfl d2_21 22 rfl ?_
  refine g_astore X26 d2_22 rfl (Ls' := #[.val (.int (1 : Int32)), .val (.int (0 : Int32)), .val (.int (1 : Int32)), .val (.ref b6), .val (.int (6 : Int32)), .val (.int (5 : Int32)), .val (.ref b5)]) rfl 24 rfl ?_
  refine g_aload X26 d2_24 rfl rfl 26 rfl ?_
  refine g_getF X26 (Or.inl (hw _ (List.mem_of_getElem? (i := 30) rfl))) (host := "") Via.refl (F5level.ext X26.old) d2_26 29 rfl ?_
  intro T27 X28
  refine g_iloadN X28 d2_29 rfl 30 rfl ?_
  refine g_icmpYes X28 d2_30 (XT.ii_ne_t (by decide)) 57 (by decide) (by decide) ?_
  refine g_iinc X28 d2_57 rfl (6 : Int32) (by decide) (Ls' := #[.val (.int (1 : Int32)), .val (.int (0 : Int32)), .val (.int (1 : Int32)), .val (.ref b6), .val (.int (6 : Int32)), .val (.int (6 : Int32)), .val (.ref b5)]) rfl 60 rfl ?_
  refine g_goto X28 d2_60 11 (by decide) (by decide) ?_
  refine g_iload X28 d2_11 rfl 13 rfl ?_
  refine g_iload X28 d2_13 rfl 15 rfl ?_
  refine g_icmpYes X28 d2_15 (XT.ii_ge_t (by decide)) 63 (by decide) (by decide) ?_
  refine g_callSp X28 (hw _ (List.mem_of_getElem? (i := 70) rfl)) (hw _ (List.mem_of_getElem? (i := 71) rfl)) (hw _ (List.mem_of_getElem? (i := 38) rfl)) (hw _ (List.mem_of_getElem? (i := 72) rfl)) (by decide) (c_empty l Z a0 G b0 b1 b2 b3 b4 b5 bv eo kv h5 TT0) (by simp) (argsL := []) (rest := []) pd_5 rfl rfl rfl rfl 0 (Nat.le_of_eq rfl) (by decide) (by decide) (ck := 1) rfl (cs := 6) rfl (by decide) (by decide) d2_63 66 rfl ?_
  intro w31 T29 X30 hq32
  subst hq32
  exact g_retA X30 rfl rfl rfl d2_66 (by decide) (by decide) ⟨_, rfl, ⟨eo, rfl, ((Ext.refl h).trans E7), (EO.ext X30.old), (FO.ext X30.old)⟩⟩
set_option maxRecDepth 65536 in
set_option maxHeartbeats 40000000 in
theorem c_of110 (l : Launch) (Z : State) (a0 : Array Value) (G : Gl Z a0) (b0 b1 b2 b3 b4 b5 bv eo : Addr) (kv : ClassId) (h : Heap) (TT : Tiers Z b0 b1 b2 b3 b4 b5 bv eo kv) :
    Ctr l Z EL nw (⟨"com/example/rowpath/rowpath/core/NodeMatch$Tier", "of", "(ZZZ)Ljava/util/Optional;"⟩ : MethodName) prog_48_method_4_code 7 (Option.some (Jvm.ClassFile.FieldType.object "java/util/Optional")) ({ frames := 3, cells := 2, slots := 7, locals := 38 } : Room) #[.int (1 : Int32), .int (1 : Int32), .int (0 : Int32)] h [] (ValQ fun w h' => ∃ o, w = .ref o ∧ Ext h h' ∧ Exa Z h' o "java/util/Optional" ∧ Fld Z h' o "java/util/Optional" "value" "Ljava/lang/Object;" (.ref b2)) := by
  have hw := G.1
  refine Ctr.enter (own := "com/example/rowpath/rowpath/core/NodeMatch$Tier") (nm := "of") rfl rfl G.2 (plainFor_of_name pn_2) #[.val (.int (1 : Int32)), .val (.int (1 : Int32)), .val (.int (0 : Int32)), .unset, .unset, .unset, .unset] (fun m => by first | rfl | (simp [entryFrame, mkF, argsToLocals, Value.category, maxLocals]; done)) ?_
  intro p e s m below meth c T X
  have TT0 := TT
  obtain ⟨S0, E0, F0level, F0type, F0id, S1, E1, F1level, F1type, F1id, S2, E2, F2level, F2type, F2id, S3, E3, F3level, F3type, F3id, S4, E4, F4level, F4type, F4id, S5, E5, F5level, F5type, F5id, SV, EV, AV, SO, EO, FO⟩ := TT
  refine g_callSv X (hw _ (List.mem_of_getElem? (i := 10) rfl)) (hw _ (List.mem_of_getElem? (i := 11) rfl)) (hw _ (List.mem_of_getElem? (i := 5) rfl)) (hw _ (List.mem_of_getElem? (i := 12) rfl)) (by decide) (c_values l Z a0 G b0 b1 b2 b3 b4 b5 bv eo kv h TT0) (by simp) (argsL := []) (rest := []) pd_6 rfl rfl rfl rfl 0 (Nat.le_of_eq rfl) (by decide) (by decide) (ck := 1) rfl (cs := 6) rfl (by decide) (by decide) d2_0 3 rfl ?_
  intro w3 T1 h5 X2 hq4
  obtain ⟨b6, rfl, E7, A8⟩ := hq4
  refine g_astoreN X2 d2_3 rfl (Ls' := #[.val (.int (1 : Int32)), .val (.int (1 : Int32)), .val (.int (0 : Int32)), .val (.ref b6), .unset, .unset, .unset]) rfl 4 rfl ?_
  refine g_aloadN X2 d2_4 rfl rfl 5 rfl ?_
  refine g_arrlen X2 A8 d2_5 6 rfl ?_
  refine g_istore X2 d2_6 (Ls' := #[.val (.int (1 : Int32)), .val (.int (1 : Int32)), .val (.int (0 : Int32)), .val (.ref b6), .val (.int (6 : Int32)), .unset, .unset]) rfl 8 rfl ?_
  refine g_iconst X2 (0 : Int32) d2_8 (by decide) 9 rfl ?_
  refine g_istore X2 d2_9 (Ls' := #[.val (.int (1 : Int32)), .val (.int (1 : Int32)), .val (.int (0 : Int32)), .val (.ref b6), .val (.int (6 : Int32)), .val (.int (0 : Int32)), .unset]) rfl 11 rfl ?_
  refine g_iload X2 d2_11 rfl 13 rfl ?_
  refine g_iload X2 d2_13 rfl 15 rfl ?_
  refine g_icmpNo X2 d2_15 (XT.ii_ge_f (by decide)) 18 rfl ?_
  refine g_aloadN X2 d2_18 rfl rfl 19 rfl ?_
  refine g_iload X2 d2_19 rfl 21 rfl ?_
  refine g_aaload X2 A8 rfl (by decide) (by decide) (.ref b0) rfl d2_21 22 rfl ?_
  refine g_astore X2 d2_22 rfl (Ls' := #[.val (.int (1 : Int32)), .val (.int (1 : Int32)), .val (.int (0 : Int32)), .val (.ref b6), .val (.int (6 : Int32)), .val (.int (0 : Int32)), .val (.ref b0)]) rfl 24 rfl ?_
  refine g_aload X2 d2_24 rfl rfl 26 rfl ?_
  refine g_getF X2 (Or.inl (hw _ (List.mem_of_getElem? (i := 30) rfl))) (host := "") Via.refl (F0level.ext X2.old) d2_26 29 rfl ?_
  intro T9 X10
  refine g_iloadN X10 d2_29 rfl 30 rfl ?_
  refine g_icmpNo X10 d2_30 (XT.ii_ne_f (by decide)) 33 rfl ?_
  refine g_aload X10 d2_33 rfl rfl 35 rfl ?_
  refine g_getF X10 (Or.inl (hw _ (List.mem_of_getElem? (i := 32) rfl))) (host := "") Via.refl (F0type.ext X10.old) d2_35 38 rfl ?_
  intro T11 X12
  refine g_iloadN X12 d2_38 rfl 39 rfl ?_
  refine g_icmpNo X12 d2_39 (XT.ii_ne_f (by decide)) 42 rfl ?_
  refine g_aload X12 d2_42 rfl rfl 44 rfl ?_
  refine g_getF X12 (Or.inl (hw _ (List.mem_of_getElem? (i := 34) rfl))) (host := "") Via.refl (F0id.ext X12.old) d2_44 47 rfl ?_
  intro T13 X14
  refine g_iloadN X14 d2_47 rfl 48 rfl ?_
  refine g_icmpYes X14 d2_48 (XT.ii_ne_t (by decide)) 57 (by decide) (by decide) ?_
  refine g_iinc X14 d2_57 rfl (1 : Int32) (by decide) (Ls' := #[.val (.int (1 : Int32)), .val (.int (1 : Int32)), .val (.int (0 : Int32)), .val (.ref b6), .val (.int (6 : Int32)), .val (.int (1 : Int32)), .val (.ref b0)]) rfl 60 rfl ?_
  refine g_goto X14 d2_60 11 (by decide) (by decide) ?_
  refine g_iload X14 d2_11 rfl 13 rfl ?_
  refine g_iload X14 d2_13 rfl 15 rfl ?_
  refine g_icmpNo X14 d2_15 (XT.ii_ge_f (by decide)) 18 rfl ?_
  refine g_aloadN X14 d2_18 rfl rfl 19 rfl ?_
  refine g_iload X14 d2_19 rfl 21 rfl ?_
  refine g_aaload X14 A8 rfl (by decide) (by decide) (.ref b1) rfl d2_21 22 rfl ?_
  refine g_astore X14 d2_22 rfl (Ls' := #[.val (.int (1 : Int32)), .val (.int (1 : Int32)), .val (.int (0 : Int32)), .val (.ref b6), .val (.int (6 : Int32)), .val (.int (1 : Int32)), .val (.ref b1)]) rfl 24 rfl ?_
  refine g_aload X14 d2_24 rfl rfl 26 rfl ?_
  refine g_getF X14 (Or.inl (hw _ (List.mem_of_getElem? (i := 30) rfl))) (host := "") Via.refl (F1level.ext X14.old) d2_26 29 rfl ?_
  intro T15 X16
  refine g_iloadN X16 d2_29 rfl 30 rfl ?_
  refine g_icmpYes X16 d2_30 (XT.ii_ne_t (by decide)) 57 (by decide) (by decide) ?_
  refine g_iinc X16 d2_57 rfl (2 : Int32) (by decide) (Ls' := #[.val (.int (1 : Int32)), .val (.int (1 : Int32)), .val (.int (0 : Int32)), .val (.ref b6), .val (.int (6 : Int32)), .val (.int (2 : Int32)), .val (.ref b1)]) rfl 60 rfl ?_
  refine g_goto X16 d2_60 11 (by decide) (by decide) ?_
  refine g_iload X16 d2_11 rfl 13 rfl ?_
  refine g_iload X16 d2_13 rfl 15 rfl ?_
  refine g_icmpNo X16 d2_15 (XT.ii_ge_f (by decide)) 18 rfl ?_
  refine g_aloadN X16 d2_18 rfl rfl 19 rfl ?_
  refine g_iload X16 d2_19 rfl 21 rfl ?_
  refine g_aaload X16 A8 rfl (by decide) (by decide) (.ref b2) rfl d2_21 22 rfl ?_
  refine g_astore X16 d2_22 rfl (Ls' := #[.val (.int (1 : Int32)), .val (.int (1 : Int32)), .val (.int (0 : Int32)), .val (.ref b6), .val (.int (6 : Int32)), .val (.int (2 : Int32)), .val (.ref b2)]) rfl 24 rfl ?_
  refine g_aload X16 d2_24 rfl rfl 26 rfl ?_
  refine g_getF X16 (Or.inl (hw _ (List.mem_of_getElem? (i := 30) rfl))) (host := "") Via.refl (F2level.ext X16.old) d2_26 29 rfl ?_
  intro T17 X18
  refine g_iloadN X18 d2_29 rfl 30 rfl ?_
  refine g_icmpNo X18 d2_30 (XT.ii_ne_f (by decide)) 33 rfl ?_
  refine g_aload X18 d2_33 rfl rfl 35 rfl ?_
  refine g_getF X18 (Or.inl (hw _ (List.mem_of_getElem? (i := 32) rfl))) (host := "") Via.refl (F2type.ext X18.old) d2_35 38 rfl ?_
  intro T19 X20
  refine g_iloadN X20 d2_38 rfl 39 rfl ?_
  refine g_icmpNo X20 d2_39 (XT.ii_ne_f (by decide)) 42 rfl ?_
  refine g_aload X20 d2_42 rfl rfl 44 rfl ?_
  refine g_getF X20 (Or.inl (hw _ (List.mem_of_getElem? (i := 34) rfl))) (host := "") Via.refl (F2id.ext X20.old) d2_44 47 rfl ?_
  intro T21 X22
  refine g_iloadN X22 d2_47 rfl 48 rfl ?_
  refine g_icmpNo X22 d2_48 (XT.ii_ne_f (by decide)) 51 rfl ?_
  refine g_aload X22 d2_51 rfl rfl 53 rfl ?_
  refine g_callSv X22 (hw _ (List.mem_of_getElem? (i := 36) rfl)) (hw _ (List.mem_of_getElem? (i := 37) rfl)) (hw _ (List.mem_of_getElem? (i := 38) rfl)) (hw _ (List.mem_of_getElem? (i := 39) rfl)) (by decide) (c_oof l Z a0 G b2 h5) (by simp) (argsL := [.ref b2]) (rest := []) pd_4 rfl rfl rfl rfl 0 (Nat.le_of_eq rfl) (by decide) (by decide) (ck := 2) rfl (cs := 7) rfl (by decide) (by decide) d2_53 56 rfl ?_
  intro w25 T23 h27 X24 hq26
  obtain ⟨o28, rfl, E29, A30, F31⟩ := hq26
  exact g_retA X24 rfl rfl rfl d2_56 (by decide) (by decide) ⟨_, rfl, ⟨o28, rfl, (((Ext.refl h).trans E7).trans E29), A30, F31⟩⟩
set_option maxRecDepth 65536 in
set_option maxHeartbeats 40000000 in
theorem c_of111 (l : Launch) (Z : State) (a0 : Array Value) (G : Gl Z a0) (b0 b1 b2 b3 b4 b5 bv eo : Addr) (kv : ClassId) (h : Heap) (TT : Tiers Z b0 b1 b2 b3 b4 b5 bv eo kv) :
    Ctr l Z EL nw (⟨"com/example/rowpath/rowpath/core/NodeMatch$Tier", "of", "(ZZZ)Ljava/util/Optional;"⟩ : MethodName) prog_48_method_4_code 7 (Option.some (Jvm.ClassFile.FieldType.object "java/util/Optional")) ({ frames := 3, cells := 2, slots := 7, locals := 38 } : Room) #[.int (1 : Int32), .int (1 : Int32), .int (1 : Int32)] h [] (ValQ fun w h' => ∃ o, w = .ref o ∧ Ext h h' ∧ Exa Z h' o "java/util/Optional" ∧ Fld Z h' o "java/util/Optional" "value" "Ljava/lang/Object;" (.ref b0)) := by
  have hw := G.1
  refine Ctr.enter (own := "com/example/rowpath/rowpath/core/NodeMatch$Tier") (nm := "of") rfl rfl G.2 (plainFor_of_name pn_2) #[.val (.int (1 : Int32)), .val (.int (1 : Int32)), .val (.int (1 : Int32)), .unset, .unset, .unset, .unset] (fun m => by first | rfl | (simp [entryFrame, mkF, argsToLocals, Value.category, maxLocals]; done)) ?_
  intro p e s m below meth c T X
  have TT0 := TT
  obtain ⟨S0, E0, F0level, F0type, F0id, S1, E1, F1level, F1type, F1id, S2, E2, F2level, F2type, F2id, S3, E3, F3level, F3type, F3id, S4, E4, F4level, F4type, F4id, S5, E5, F5level, F5type, F5id, SV, EV, AV, SO, EO, FO⟩ := TT
  refine g_callSv X (hw _ (List.mem_of_getElem? (i := 10) rfl)) (hw _ (List.mem_of_getElem? (i := 11) rfl)) (hw _ (List.mem_of_getElem? (i := 5) rfl)) (hw _ (List.mem_of_getElem? (i := 12) rfl)) (by decide) (c_values l Z a0 G b0 b1 b2 b3 b4 b5 bv eo kv h TT0) (by simp) (argsL := []) (rest := []) pd_6 rfl rfl rfl rfl 0 (Nat.le_of_eq rfl) (by decide) (by decide) (ck := 1) rfl (cs := 6) rfl (by decide) (by decide) d2_0 3 rfl ?_
  intro w3 T1 h5 X2 hq4
  obtain ⟨b6, rfl, E7, A8⟩ := hq4
  refine g_astoreN X2 d2_3 rfl (Ls' := #[.val (.int (1 : Int32)), .val (.int (1 : Int32)), .val (.int (1 : Int32)), .val (.ref b6), .unset, .unset, .unset]) rfl 4 rfl ?_
  refine g_aloadN X2 d2_4 rfl rfl 5 rfl ?_
  refine g_arrlen X2 A8 d2_5 6 rfl ?_
  refine g_istore X2 d2_6 (Ls' := #[.val (.int (1 : Int32)), .val (.int (1 : Int32)), .val (.int (1 : Int32)), .val (.ref b6), .val (.int (6 : Int32)), .unset, .unset]) rfl 8 rfl ?_
  refine g_iconst X2 (0 : Int32) d2_8 (by decide) 9 rfl ?_
  refine g_istore X2 d2_9 (Ls' := #[.val (.int (1 : Int32)), .val (.int (1 : Int32)), .val (.int (1 : Int32)), .val (.ref b6), .val (.int (6 : Int32)), .val (.int (0 : Int32)), .unset]) rfl 11 rfl ?_
  refine g_iload X2 d2_11 rfl 13 rfl ?_
  refine g_iload X2 d2_13 rfl 15 rfl ?_
  refine g_icmpNo X2 d2_15 (XT.ii_ge_f (by decide)) 18 rfl ?_
  refine g_aloadN X2 d2_18 rfl rfl 19 rfl ?_
  refine g_iload X2 d2_19 rfl 21 rfl ?_
  refine g_aaload X2 A8 rfl (by decide) (by decide) (.ref b0) rfl d2_21 22 rfl ?_
  refine g_astore X2 d2_22 rfl (Ls' := #[.val (.int (1 : Int32)), .val (.int (1 : Int32)), .val (.int (1 : Int32)), .val (.ref b6), .val (.int (6 : Int32)), .val (.int (0 : Int32)), .val (.ref b0)]) rfl 24 rfl ?_
  refine g_aload X2 d2_24 rfl rfl 26 rfl ?_
  refine g_getF X2 (Or.inl (hw _ (List.mem_of_getElem? (i := 30) rfl))) (host := "") Via.refl (F0level.ext X2.old) d2_26 29 rfl ?_
  intro T9 X10
  refine g_iloadN X10 d2_29 rfl 30 rfl ?_
  refine g_icmpNo X10 d2_30 (XT.ii_ne_f (by decide)) 33 rfl ?_
  refine g_aload X10 d2_33 rfl rfl 35 rfl ?_
  refine g_getF X10 (Or.inl (hw _ (List.mem_of_getElem? (i := 32) rfl))) (host := "") Via.refl (F0type.ext X10.old) d2_35 38 rfl ?_
  intro T11 X12
  refine g_iloadN X12 d2_38 rfl 39 rfl ?_
  refine g_icmpNo X12 d2_39 (XT.ii_ne_f (by decide)) 42 rfl ?_
  refine g_aload X12 d2_42 rfl rfl 44 rfl ?_
  refine g_getF X12 (Or.inl (hw _ (List.mem_of_getElem? (i := 34) rfl))) (host := "") Via.refl (F0id.ext X12.old) d2_44 47 rfl ?_
  intro T13 X14
  refine g_iloadN X14 d2_47 rfl 48 rfl ?_
  refine g_icmpNo X14 d2_48 (XT.ii_ne_f (by decide)) 51 rfl ?_
  refine g_aload X14 d2_51 rfl rfl 53 rfl ?_
  refine g_callSv X14 (hw _ (List.mem_of_getElem? (i := 36) rfl)) (hw _ (List.mem_of_getElem? (i := 37) rfl)) (hw _ (List.mem_of_getElem? (i := 38) rfl)) (hw _ (List.mem_of_getElem? (i := 39) rfl)) (by decide) (c_oof l Z a0 G b0 h5) (by simp) (argsL := [.ref b0]) (rest := []) pd_4 rfl rfl rfl rfl 0 (Nat.le_of_eq rfl) (by decide) (by decide) (ck := 2) rfl (cs := 7) rfl (by decide) (by decide) d2_53 56 rfl ?_
  intro w17 T15 h19 X16 hq18
  obtain ⟨o20, rfl, E21, A22, F23⟩ := hq18
  exact g_retA X16 rfl rfl rfl d2_56 (by decide) (by decide) ⟨_, rfl, ⟨o20, rfl, (((Ext.refl h).trans E7).trans E21), A22, F23⟩⟩
theorem d1_0 : decode method_3_code 0 = .ok (.iload_n 1, 1) := by decide +kernel
theorem d1_1 : decode method_3_code 1 = .ok (.ifCond .eq 35, 3) := by decide +kernel
theorem d1_4 : decode method_3_code 4 = .ok (.iload_n 2, 1) := by decide +kernel
theorem d1_5 : decode method_3_code 5 = .ok (.ifCond .eq 17, 3) := by decide +kernel
theorem d1_8 : decode method_3_code 8 = .ok (.iload_n 0, 1) := by decide +kernel
theorem d1_9 : decode method_3_code 9 = .ok (.ifCond .eq 9, 3) := by decide +kernel
theorem d1_12 : decode method_3_code 12 = .ok (.getstatic 29, 3) := by decide +kernel
theorem d1_15 : decode method_3_code 15 = .ok (.goto 6, 3) := by decide +kernel
theorem d1_18 : decode method_3_code 18 = .ok (.getstatic 33, 3) := by decide +kernel
theorem d1_21 : decode method_3_code 21 = .ok (.areturn, 1) := by decide +kernel
theorem d1_22 : decode method_3_code 22 = .ok (.iload_n 0, 1) := by decide +kernel
theorem d1_23 : decode method_3_code 23 = .ok (.ifCond .eq 9, 3) := by decide +kernel
theorem d1_26 : decode method_3_code 26 = .ok (.getstatic 36, 3) := by decide +kernel
theorem d1_29 : decode method_3_code 29 = .ok (.goto 6, 3) := by decide +kernel
theorem d1_32 : decode method_3_code 32 = .ok (.getstatic 39, 3) := by decide +kernel
theorem d1_35 : decode method_3_code 35 = .ok (.areturn, 1) := by decide +kernel
theorem d1_36 : decode method_3_code 36 = .ok (.iload_n 2, 1) := by decide +kernel
theorem d1_37 : decode method_3_code 37 = .ok (.ifCond .eq 5, 3) := by decide +kernel
theorem d1_40 : decode method_3_code 40 = .ok (.aconst_null, 1) := by decide +kernel
theorem d1_41 : decode method_3_code 41 = .ok (.areturn, 1) := by decide +kernel
theorem d1_42 : decode method_3_code 42 = .ok (.iload_n 0, 1) := by decide +kernel
theorem d1_43 : decode method_3_code 43 = .ok (.ifCond .eq 9, 3) := by decide +kernel
theorem d1_46 : decode method_3_code 46 = .ok (.getstatic 42, 3) := by decide +kernel
theorem d1_49 : decode method_3_code 49 = .ok (.goto 6, 3) := by decide +kernel
theorem d1_52 : decode method_3_code 52 = .ok (.getstatic 45, 3) := by decide +kernel
theorem d1_55 : decode method_3_code 55 = .ok (.areturn, 1) := by decide +kernel
theorem pn_3 : plainName "com/example/rowpath/rowpath/core/TierOfPinLaw" = true := by first | (simp [plainName, overriddenIn]; done) | decide +kernel
set_option maxRecDepth 65536 in
set_option maxHeartbeats 40000000 in
theorem c_ex000 (l : Launch) (Z : State) (a0 : Array Value) (G : Gl Z a0) (b0 b1 b2 b3 b4 b5 bv eo : Addr) (kv : ClassId) (h : Heap) (TT : Tiers Z b0 b1 b2 b3 b4 b5 bv eo kv) :
    Ctr l Z EL nw (⟨"com/example/rowpath/rowpath/core/TierOfPinLaw", "expected", "(ZZZ)Lcom/example/rowpath/rowpath/core/NodeMatch$Tier;"⟩ : MethodName) method_3_code 3 (Option.some (Jvm.ClassFile.FieldType.object "com/example/rowpath/rowpath/core/NodeMatch$Tier")) ({ frames := 0, cells := 0, slots := 0, locals := 0 } : Room) #[.int (0 : Int32), .int (0 : Int32), .int (0 : Int32)] h [] (PureQ h fun v => v = .ref b5) := by
  have hw := G.1
  refine Ctr.enter (own := "com/example/rowpath/rowpath/core/TierOfPinLaw") (nm := "expected") rfl rfl G.2 (plainFor_of_name pn_3) #[.val (.int (0 : Int32)), .val (.int (0 : Int32)), .val (.int (0 : Int32))] (fun m => by first | rfl | (simp [entryFrame, mkF, argsToLocals, Value.category, maxLocals]; done)) ?_
  intro p e s m below meth c T X
  obtain ⟨S0, E0, F0level, F0type, F0id, S1, E1, F1level, F1type, F1id, S2, E2, F2level, F2type, F2id, S3, E3, F3level, F3type, F3id, S4, E4, F4level, F4type, F4id, S5, E5, F5level, F5type, F5id, SV, EV, AV, SO, EO, FO⟩ := TT
  refine g_iloadN X d1_0 rfl 1 rfl ?_
  refine g_ifYes X d1_1 (XT.ii_eq_t (by decide)) 36 (by decide) (by decide) ?_
  refine g_iloadN X d1_36 rfl 37 rfl ?_
  refine g_ifYes X d1_37 (XT.ii_eq_t (by decide)) 42 (by decide) (by decide) ?_
  refine g_iloadN X d1_42 rfl 43 rfl ?_
  refine g_ifYes X d1_43 (XT.ii_eq_t (by decide)) 52 (by decide) (by decide) ?_
  refine g_getS X (Or.inl (hw _ (List.mem_of_getElem? (i := 4) rfl))) (host := "") Via.refl (S5.ext X.old) d1_52 55 rfl ?_
  intro T1 X2
  exact g_retA X2 rfl rfl rfl d1_55 (by decide) (by decide) ⟨rfl, _, rfl, rfl⟩
set_option maxRecDepth 65536 in
set_option maxHeartbeats 40000000 in
theorem c_ex001 (l : Launch) (Z : State) (a0 : Array Value) (G : Gl Z a0) (b0 b1 b2 b3 b4 b5 bv eo : Addr) (kv : ClassId) (h : Heap) (TT : Tiers Z b0 b1 b2 b3 b4 b5 bv eo kv) :
    Ctr l Z EL nw (⟨"com/example/rowpath/rowpath/core/TierOfPinLaw", "expected", "(ZZZ)Lcom/example/rowpath/rowpath/core/NodeMatch$Tier;"⟩ : MethodName) method_3_code 3 (Option.some (Jvm.ClassFile.FieldType.object "com/example/rowpath/rowpath/core/NodeMatch$Tier")) ({ frames := 0, cells := 0, slots := 0, locals := 0 } : Room) #[.int (0 : Int32), .int (0 : Int32), .int (1 : Int32)] h [] (PureQ h fun v => v = .null) := by
  have hw := G.1
  refine Ctr.enter (own := "com/example/rowpath/rowpath/core/TierOfPinLaw") (nm := "expected") rfl rfl G.2 (plainFor_of_name pn_3) #[.val (.int (0 : Int32)), .val (.int (0 : Int32)), .val (.int (1 : Int32))] (fun m => by first | rfl | (simp [entryFrame, mkF, argsToLocals, Value.category, maxLocals]; done)) ?_
  intro p e s m below meth c T X
  obtain ⟨S0, E0, F0level, F0type, F0id, S1, E1, F1level, F1type, F1id, S2, E2, F2level, F2type, F2id, S3, E3, F3level, F3type, F3id, S4, E4, F4level, F4type, F4id, S5, E5, F5level, F5type, F5id, SV, EV, AV, SO, EO, FO⟩ := TT
  refine g_iloadN X d1_0 rfl 1 rfl ?_
  refine g_ifYes X d1_1 (XT.ii_eq_t (by decide)) 36 (by decide) (by decide) ?_
  refine g_iloadN X d1_36 rfl 37 rfl ?_
  refine g_ifNo X d1_37 (XT.ii_eq_f (by decide)) 40 rfl ?_
  refine g_aconstNull X d1_40 41 rfl ?_
  exact g_retA X rfl rfl rfl d1_41 (by decide) (by decide) ⟨rfl, _, rfl, rfl⟩
set_option maxRecDepth 65536 in
set_option maxHeartbeats 40000000 in
theorem c_ex010 (l : Launch) (Z : State) (a0 : Array Value) (G : Gl Z a0) (b0 b1 b2 b3 b4 b5 bv eo : Addr) (kv : ClassId) (h : Heap) (TT : Tiers Z b0 b1 b2 b3 b4 b5 bv eo kv) :
    Ctr l Z EL nw (⟨"com/example/rowpath/rowpath/core/TierOfPinLaw", "expected", "(ZZZ)Lcom/example/rowpath/rowpath/core/NodeMatch$Tier;"⟩ : MethodName) method_3_code 3 (Option.some (Jvm.ClassFile.FieldType.object "com/example/rowpath/rowpath/core/NodeMatch$Tier")) ({ frames := 0, cells := 0, slots := 0, locals := 0 } : Room) #[.int (0 : Int32), .int (1 : Int32), .int (0 : Int32)] h [] (PureQ h fun v => v = .ref b3) := by
  have hw := G.1
  refine Ctr.enter (own := "com/example/rowpath/rowpath/core/TierOfPinLaw") (nm := "expected") rfl rfl G.2 (plainFor_of_name pn_3) #[.val (.int (0 : Int32)), .val (.int (1 : Int32)), .val (.int (0 : Int32))] (fun m => by first | rfl | (simp [entryFrame, mkF, argsToLocals, Value.category, maxLocals]; done)) ?_
  intro p e s m below meth c T X
  obtain ⟨S0, E0, F0level, F0type, F0id, S1, E1, F1level, F1type, F1id, S2, E2, F2level, F2type, F2id, S3, E3, F3level, F3type, F3id, S4, E4, F4level, F4type, F4id, S5, E5, F5level, F5type, F5id, SV, EV, AV, SO, EO, FO⟩ := TT
  refine g_iloadN X d1_0 rfl 1 rfl ?_
  refine g_ifNo X d1_1 (XT.ii_eq_f (by decide)) 4 rfl ?_
  refine g_iloadN X d1_4 rfl 5 rfl ?_
  refine g_ifYes X d1_5 (XT.ii_eq_t (by decide)) 22 (by decide) (by decide) ?_
  refine g_iloadN X d1_22 rfl 23 rfl ?_
  refine g_ifYes X d1_23 (XT.ii_eq_t (by decide)) 32 (by decide) (by decide) ?_
  refine g_getS X (Or.inl (hw _ (List.mem_of_getElem? (i := 68) rfl))) (host := "") Via.refl (S3.ext X.old) d1_32 35 rfl ?_
  intro T1 X2
  exact g_retA X2 rfl rfl rfl d1_35 (by decide) (by decide) ⟨rfl, _, rfl, rfl⟩
set_option maxRecDepth 65536 in
set_option maxHeartbeats 40000000 in
theorem c_ex011 (l : Launch) (Z : State) (a0 : Array Value) (G : Gl Z a0) (b0 b1 b2 b3 b4 b5 bv eo : Addr) (kv : ClassId) (h : Heap) (TT : Tiers Z b0 b1 b2 b3 b4 b5 bv eo kv) :
    Ctr l Z EL nw (⟨"com/example/rowpath/rowpath/core/TierOfPinLaw", "expected", "(ZZZ)Lcom/example/rowpath/rowpath/core/NodeMatch$Tier;"⟩ : MethodName) method_3_code 3 (Option.some (Jvm.ClassFile.FieldType.object "com/example/rowpath/rowpath/core/NodeMatch$Tier")) ({ frames := 0, cells := 0, slots := 0, locals := 0 } : Room) #[.int (0 : Int32), .int (1 : Int32), .int (1 : Int32)] h [] (PureQ h fun v => v = .ref b1) := by
  have hw := G.1
  refine Ctr.enter (own := "com/example/rowpath/rowpath/core/TierOfPinLaw") (nm := "expected") rfl rfl G.2 (plainFor_of_name pn_3) #[.val (.int (0 : Int32)), .val (.int (1 : Int32)), .val (.int (1 : Int32))] (fun m => by first | rfl | (simp [entryFrame, mkF, argsToLocals, Value.category, maxLocals]; done)) ?_
  intro p e s m below meth c T X
  obtain ⟨S0, E0, F0level, F0type, F0id, S1, E1, F1level, F1type, F1id, S2, E2, F2level, F2type, F2id, S3, E3, F3level, F3type, F3id, S4, E4, F4level, F4type, F4id, S5, E5, F5level, F5type, F5id, SV, EV, AV, SO, EO, FO⟩ := TT
  refine g_iloadN X d1_0 rfl 1 rfl ?_
  refine g_ifNo X d1_1 (XT.ii_eq_f (by decide)) 4 rfl ?_
  refine g_iloadN X d1_4 rfl 5 rfl ?_
  refine g_ifNo X d1_5 (XT.ii_eq_f (by decide)) 8 rfl ?_
  refine g_iloadN X d1_8 rfl 9 rfl ?_
  refine g_ifYes X d1_9 (XT.ii_eq_t (by decide)) 18 (by decide) (by decide) ?_
  refine g_getS X (Or.inl (hw _ (List.mem_of_getElem? (i := 66) rfl))) (host := "") Via.refl (S1.ext X.old) d1_18 21 rfl ?_
  intro T1 X2
  exact g_retA X2 rfl rfl rfl d1_21 (by decide) (by decide) ⟨rfl, _, rfl, rfl⟩
set_option maxRecDepth 65536 in
set_option maxHeartbeats 40000000 in
theorem c_ex100 (l : Launch) (Z : State) (a0 : Array Value) (G : Gl Z a0) (b0 b1 b2 b3 b4 b5 bv eo : Addr) (kv : ClassId) (h : Heap) (TT : Tiers Z b0 b1 b2 b3 b4 b5 bv eo kv) :
    Ctr l Z EL nw (⟨"com/example/rowpath/rowpath/core/TierOfPinLaw", "expected", "(ZZZ)Lcom/example/rowpath/rowpath/core/NodeMatch$Tier;"⟩ : MethodName) method_3_code 3 (Option.some (Jvm.ClassFile.FieldType.object "com/example/rowpath/rowpath/core/NodeMatch$Tier")) ({ frames := 0, cells := 0, slots := 0, locals := 0 } : Room) #[.int (1 : Int32), .int (0 : Int32), .int (0 : Int32)] h [] (PureQ h fun v => v = .ref b4) := by
  have hw := G.1
  refine Ctr.enter (own := "com/example/rowpath/rowpath/core/TierOfPinLaw") (nm := "expected") rfl rfl G.2 (plainFor_of_name pn_3) #[.val (.int (1 : Int32)), .val (.int (0 : Int32)), .val (.int (0 : Int32))] (fun m => by first | rfl | (simp [entryFrame, mkF, argsToLocals, Value.category, maxLocals]; done)) ?_
  intro p e s m below meth c T X
  obtain ⟨S0, E0, F0level, F0type, F0id, S1, E1, F1level, F1type, F1id, S2, E2, F2level, F2type, F2id, S3, E3, F3level, F3type, F3id, S4, E4, F4level, F4type, F4id, S5, E5, F5level, F5type, F5id, SV, EV, AV, SO, EO, FO⟩ := TT
  refine g_iloadN X d1_0 rfl 1 rfl ?_
  refine g_ifYes X d1_1 (XT.ii_eq_t (by decide)) 36 (by decide) (by decide) ?_
  refine g_iloadN X d1_36 rfl 37 rfl ?_
  refine g_ifYes X d1_37 (XT.ii_eq_t (by decide)) 42 (by decide) (by decide) ?_
  refine g_iloadN X d1_42 rfl 43 rfl ?_
  refine g_ifNo X d1_43 (XT.ii_eq_f (by decide)) 46 rfl ?_
  refine g_getS X (Or.inl (hw _ (List.mem_of_getElem? (i := 69) rfl))) (host := "") Via.refl (S4.ext X.old) d1_46 49 rfl ?_
  intro T1 X2
  refine g_goto X2 d1_49 55 (by decide) (by decide) ?_
  exact g_retA X2 rfl rfl rfl d1_55 (by decide) (by decide) ⟨rfl, _, rfl, rfl⟩
set_option maxRecDepth 65536 in
set_option maxHeartbeats 40000000 in
theorem c_ex101 (l : Launch) (Z : State) (a0 : Array Value) (G : Gl Z a0) (b0 b1 b2 b3 b4 b5 bv eo : Addr) (kv : ClassId) (h : Heap) (TT : Tiers Z b0 b1 b2 b3 b4 b5 bv eo kv) :
    Ctr l Z EL nw (⟨"com/example/rowpath/rowpath/core/TierOfPinLaw", "expected", "(ZZZ)Lcom/example/rowpath/rowpath/core/NodeMatch$Tier;"⟩ : MethodName) method_3_code 3 (Option.some (Jvm.ClassFile.FieldType.object "com/example/rowpath/rowpath/core/NodeMatch$Tier")) ({ frames := 0, cells := 0, slots := 0, locals := 0 } : Room) #[.int (1 : Int32), .int (0 : Int32), .int (1 : Int32)] h [] (PureQ h fun v => v = .null) := by
  have hw := G.1
  refine Ctr.enter (own := "com/example/rowpath/rowpath/core/TierOfPinLaw") (nm := "expected") rfl rfl G.2 (plainFor_of_name pn_3) #[.val (.int (1 : Int32)), .val (.int (0 : Int32)), .val (.int (1 : Int32))] (fun m => by first | rfl | (simp [entryFrame, mkF, argsToLocals, Value.category, maxLocals]; done)) ?_
  intro p e s m below meth c T X
  obtain ⟨S0, E0, F0level, F0type, F0id, S1, E1, F1level, F1type, F1id, S2, E2, F2level, F2type, F2id, S3, E3, F3level, F3type, F3id, S4, E4, F4level, F4type, F4id, S5, E5, F5level, F5type, F5id, SV, EV, AV, SO, EO, FO⟩ := TT
  refine g_iloadN X d1_0 rfl 1 rfl ?_
  refine g_ifYes X d1_1 (XT.ii_eq_t (by decide)) 36 (by decide) (by decide) ?_
  refine g_iloadN X d1_36 rfl 37 rfl ?_
  refine g_ifNo X d1_37 (XT.ii_eq_f (by decide)) 40 rfl ?_
  refine g_aconstNull X d1_40 41 rfl ?_
  exact g_retA X rfl rfl rfl d1_41 (by decide) (by decide) ⟨rfl, _, rfl, rfl⟩
set_option maxRecDepth 65536 in
set_option maxHeartbeats 40000000 in
theorem c_ex110 (l : Launch) (Z : State) (a0 : Array Value) (G : Gl Z a0) (b0 b1 b2 b3 b4 b5 bv eo : Addr) (kv : ClassId) (h : Heap) (TT : Tiers Z b0 b1 b2 b3 b4 b5 bv eo kv) :
    Ctr l Z EL nw (⟨"com/example/rowpath/rowpath/core/TierOfPinLaw", "expected", "(ZZZ)Lcom/example/rowpath/rowpath/core/NodeMatch$Tier;"⟩ : MethodName) method_3_code 3 (Option.some (Jvm.ClassFile.FieldType.object "com/example/rowpath/rowpath/core/NodeMatch$Tier")) ({ frames := 0, cells := 0, slots := 0, locals := 0 } : Room) #[.int (1 : Int32), .int (1 : Int32), .int (0 : Int32)] h [] (PureQ h fun v => v = .ref b2) := by
  have hw := G.1
  refine Ctr.enter (own := "com/example/rowpath/rowpath/core/TierOfPinLaw") (nm := "expected") rfl rfl G.2 (plainFor_of_name pn_3) #[.val (.int (1 : Int32)), .val (.int (1 : Int32)), .val (.int (0 : Int32))] (fun m => by first | rfl | (simp [entryFrame, mkF, argsToLocals, Value.category, maxLocals]; done)) ?_
  intro p e s m below meth c T X
  obtain ⟨S0, E0, F0level, F0type, F0id, S1, E1, F1level, F1type, F1id, S2, E2, F2level, F2type, F2id, S3, E3, F3level, F3type, F3id, S4, E4, F4level, F4type, F4id, S5, E5, F5level, F5type, F5id, SV, EV, AV, SO, EO, FO⟩ := TT
  refine g_iloadN X d1_0 rfl 1 rfl ?_
  refine g_ifNo X d1_1 (XT.ii_eq_f (by decide)) 4 rfl ?_
  refine g_iloadN X d1_4 rfl 5 rfl ?_
  refine g_ifYes X d1_5 (XT.ii_eq_t (by decide)) 22 (by decide) (by decide) ?_
  refine g_iloadN X d1_22 rfl 23 rfl ?_
  refine g_ifNo X d1_23 (XT.ii_eq_f (by decide)) 26 rfl ?_
  refine g_getS X (Or.inl (hw _ (List.mem_of_getElem? (i := 65) rfl))) (host := "") Via.refl (S2.ext X.old) d1_26 29 rfl ?_
  intro T1 X2
  refine g_goto X2 d1_29 35 (by decide) (by decide) ?_
  exact g_retA X2 rfl rfl rfl d1_35 (by decide) (by decide) ⟨rfl, _, rfl, rfl⟩
set_option maxRecDepth 65536 in
set_option maxHeartbeats 40000000 in
theorem c_ex111 (l : Launch) (Z : State) (a0 : Array Value) (G : Gl Z a0) (b0 b1 b2 b3 b4 b5 bv eo : Addr) (kv : ClassId) (h : Heap) (TT : Tiers Z b0 b1 b2 b3 b4 b5 bv eo kv) :
    Ctr l Z EL nw (⟨"com/example/rowpath/rowpath/core/TierOfPinLaw", "expected", "(ZZZ)Lcom/example/rowpath/rowpath/core/NodeMatch$Tier;"⟩ : MethodName) method_3_code 3 (Option.some (Jvm.ClassFile.FieldType.object "com/example/rowpath/rowpath/core/NodeMatch$Tier")) ({ frames := 0, cells := 0, slots := 0, locals := 0 } : Room) #[.int (1 : Int32), .int (1 : Int32), .int (1 : Int32)] h [] (PureQ h fun v => v = .ref b0) := by
  have hw := G.1
  refine Ctr.enter (own := "com/example/rowpath/rowpath/core/TierOfPinLaw") (nm := "expected") rfl rfl G.2 (plainFor_of_name pn_3) #[.val (.int (1 : Int32)), .val (.int (1 : Int32)), .val (.int (1 : Int32))] (fun m => by first | rfl | (simp [entryFrame, mkF, argsToLocals, Value.category, maxLocals]; done)) ?_
  intro p e s m below meth c T X
  obtain ⟨S0, E0, F0level, F0type, F0id, S1, E1, F1level, F1type, F1id, S2, E2, F2level, F2type, F2id, S3, E3, F3level, F3type, F3id, S4, E4, F4level, F4type, F4id, S5, E5, F5level, F5type, F5id, SV, EV, AV, SO, EO, FO⟩ := TT
  refine g_iloadN X d1_0 rfl 1 rfl ?_
  refine g_ifNo X d1_1 (XT.ii_eq_f (by decide)) 4 rfl ?_
  refine g_iloadN X d1_4 rfl 5 rfl ?_
  refine g_ifNo X d1_5 (XT.ii_eq_f (by decide)) 8 rfl ?_
  refine g_iloadN X d1_8 rfl 9 rfl ?_
  refine g_ifNo X d1_9 (XT.ii_eq_f (by decide)) 12 rfl ?_
  refine g_getS X (Or.inl (hw _ (List.mem_of_getElem? (i := 67) rfl))) (host := "") Via.refl (S0.ext X.old) d1_12 15 rfl ?_
  intro T1 X2
  refine g_goto X2 d1_15 21 (by decide) (by decide) ?_
  exact g_retA X2 rfl rfl rfl d1_21 (by decide) (by decide) ⟨rfl, _, rfl, rfl⟩
set_option maxRecDepth 65536 in
set_option maxHeartbeats 40000000 in
theorem c_law (l : Launch) (Z : State) (a0 : Array Value) (G : Gl Z a0) (k : Int32) (b0 b1 b2 b3 b4 b5 bv eo : Addr) (kv : ClassId) (h : Heap) (TT : Tiers Z b0 b1 b2 b3 b4 b5 bv eo kv) :
    Ctr l Z EL nw x code maxLocals ret room_1 #[.int k] h [] (fun v _ => v = some (.int 1)) := by
  have hw := G.1
  refine Ctr.enter (own := "com/example/rowpath/rowpath/core/TierOfPinLaw") (nm := "law") rfl rfl G.2 (plainFor_of_name pn_3) #[.val (.int k), .unset, .unset, .unset, .unset, .unset] (fun m => by first | rfl | (simp [entryFrame, mkF, argsToLocals, Value.category, maxLocals]; done)) ?_
  intro p e s m below meth c T X
  refine g_iloadN X at_0 rfl 1 rfl ?_
  refine g_iconst X (1 : Int32) at_1 (by decide) 2 rfl ?_
  refine g_iand X at_2 _ rfl 3 rfl ?_
  by_cases hb3 : (k &&& (1 : Int32)) = (0 : Int32)
  · refine g_ifYes X at_3 (XT.ii_eq_t hb3) 10 (by decide) (by decide) ?_
    refine g_iconst X (0 : Int32) at_10 (by decide) 11 rfl ?_
    refine g_istoreN X at_11 (Ls' := #[.val (.int k), .val (.int (0 : Int32)), .unset, .unset, .unset, .unset]) rfl 12 rfl ?_
    refine g_iloadN X at_12 rfl 13 rfl ?_
    refine g_iconst X (2 : Int32) at_13 (by decide) 14 rfl ?_
    refine g_iand X at_14 _ rfl 15 rfl ?_
    by_cases hb15 : (k &&& (2 : Int32)) = (0 : Int32)
    · refine g_ifYes X at_15 (XT.ii_eq_t hb15) 22 (by decide) (by decide) ?_
      refine g_iconst X (0 : Int32) at_22 (by decide) 23 rfl ?_
      refine g_istoreN X at_23 (Ls' := #[.val (.int k), .val (.int (0 : Int32)), .val (.int (0 : Int32)), .unset, .unset, .unset]) rfl 24 rfl ?_
      refine g_iloadN X at_24 rfl 25 rfl ?_
      refine g_iconst X (4 : Int32) at_25 (by decide) 26 rfl ?_
      refine g_iand X at_26 _ rfl 27 rfl ?_
      by_cases hb27 : (k &&& (4 : Int32)) = (0 : Int32)
      · refine g_ifYes X at_27 (XT.ii_eq_t hb27) 34 (by decide) (by decide) ?_
        refine g_iconst X (0 : Int32) at_34 (by decide) 35 rfl ?_
        refine g_istoreN X at_35 (Ls' := #[.val (.int k), .val (.int (0 : Int32)), .val (.int (0 : Int32)), .val (.int (0 : Int32)), .unset, .unset]) rfl 36 rfl ?_
        refine g_iloadN X at_36 rfl 37 rfl ?_
        refine g_iloadN X at_37 rfl 38 rfl ?_
        refine g_iloadN X at_38 rfl 39 rfl ?_
        refine g_callSp X (hw _ (List.mem_of_getElem? (i := 0) rfl)) (hw _ (List.mem_of_getElem? (i := 1) rfl)) (hw _ (List.mem_of_getElem? (i := 2) rfl)) (hw _ (List.mem_of_getElem? (i := 3) rfl)) (by decide) (c_ex000 l Z a0 G b0 b1 b2 b3 b4 b5 bv eo kv h TT) (by simp) (argsL := [.int (0 : Int32), .int (0 : Int32), .int (0 : Int32)]) (rest := []) pd_8 rfl rfl rfl rfl 0 (Nat.le_of_eq rfl) (by decide) (by decide) (ck := 0) rfl (cs := 0) rfl (by decide) (by decide) at_39 42 rfl ?_
        intro w3 T1 X2 hq4
        subst hq4
        refine g_astore X2 at_42 rfl (Ls' := #[.val (.int k), .val (.int (0 : Int32)), .val (.int (0 : Int32)), .val (.int (0 : Int32)), .val (.ref b5), .unset]) rfl 44 rfl ?_
        refine g_iloadN X2 at_44 rfl 45 rfl ?_
        refine g_iloadN X2 at_45 rfl 46 rfl ?_
        refine g_iloadN X2 at_46 rfl 47 rfl ?_
        refine g_callSv X2 (hw _ (List.mem_of_getElem? (i := 7) rfl)) (hw _ (List.mem_of_getElem? (i := 8) rfl)) (hw _ (List.mem_of_getElem? (i := 5) rfl)) (hw _ (List.mem_of_getElem? (i := 9) rfl)) (by decide) (c_of000 l Z a0 G b0 b1 b2 b3 b4 b5 bv eo kv h TT) (by simp) (argsL := [.int (0 : Int32), .int (0 : Int32), .int (0 : Int32)]) (rest := []) pd_7 rfl rfl rfl rfl 0 (Nat.le_of_eq rfl) (by decide) (by decide) (ck := 2) rfl (cs := 7) rfl (by decide) (by decide) at_47 50 rfl ?_
        intro w7 T5 h9 X6 hq8
        obtain ⟨o10, rfl, E11, A12, F13⟩ := hq8
        refine g_astore X6 at_50 rfl (Ls' := #[.val (.int k), .val (.int (0 : Int32)), .val (.int (0 : Int32)), .val (.int (0 : Int32)), .val (.ref b5), .val (.ref o10)]) rfl 52 rfl ?_
        refine g_aload X6 at_52 rfl rfl 54 rfl ?_
        refine g_ifnonnullYes X6 at_54 71 (by decide) (by decide) ?_
        refine g_aload X6 at_71 rfl rfl 73 rfl ?_
        refine g_callVp X6 (hw _ (List.mem_of_getElem? (i := 55) rfl)) (hw _ (List.mem_of_getElem? (i := 56) rfl)) (hw _ (List.mem_of_getElem? (i := 58) rfl)) (hw _ (List.mem_of_getElem? (i := 57) rfl)) (hw _ (List.mem_of_getElem? (i := 38) rfl)) (hw _ (List.mem_of_getElem? (i := 59) rfl)) (nfSel (hw _ (List.mem_of_getElem? (i := 58) rfl))) (by decide) A12 (c_ip1 l Z a0 G o10 b5 h9 F13) (by simp) (argsL := []) (rest := []) pd_0 rfl rfl rfl rfl 0 (Nat.le_of_eq rfl) (by decide) (by decide) (ck := 2) rfl (cs := 7) rfl (by decide) (by decide) at_73 76 rfl ?_
        intro w16 T14 X15 hq17
        subst hq17
        refine g_ifNo X15 at_76 (XT.ii_eq_f (by decide)) 79 rfl ?_
        refine g_aload X15 at_79 rfl rfl 81 rfl ?_
        refine g_callVp X15 (hw _ (List.mem_of_getElem? (i := 60) rfl)) (hw _ (List.mem_of_getElem? (i := 61) rfl)) (hw _ (List.mem_of_getElem? (i := 63) rfl)) (hw _ (List.mem_of_getElem? (i := 62) rfl)) (hw _ (List.mem_of_getElem? (i := 38) rfl)) (hw _ (List.mem_of_getElem? (i := 64) rfl)) (nfSel (hw _ (List.mem_of_getElem? (i := 63) rfl))) (by decide) A12 (c_get l Z a0 G o10 b5 h9 F13) (by simp) (argsL := []) (rest := []) pd_1 rfl rfl rfl rfl 0 (Nat.le_of_eq rfl) (by decide) (by decide) (ck := 2) rfl (cs := 7) rfl (by decide) (by decide) at_81 84 rfl ?_
        intro w20 T18 X19 hq21
        subst hq21
        refine g_aload X19 at_84 rfl rfl 86 rfl ?_
        refine g_acmpNo X19 at_86 rfl rfl (XT.aa_ne_f rfl) 89 rfl ?_
        refine g_iconst X19 (1 : Int32) at_89 (by decide) 90 rfl ?_
        refine g_goto X19 at_90 94 (by decide) (by decide) ?_
        exact g_retN X19 (t := .boolean) rfl (by simp) at_94 _ rfl (by decide) (by decide) rfl
      · refine g_ifNo X at_27 (XT.ii_eq_f hb27) 30 rfl ?_
        refine g_iconst X (1 : Int32) at_30 (by decide) 31 rfl ?_
        refine g_goto X at_31 35 (by decide) (by decide) ?_
        refine g_istoreN X at_35 (Ls' := #[.val (.int k), .val (.int (0 : Int32)), .val (.int (0 : Int32)), .val (.int (1 : Int32)), .unset, .unset]) rfl 36 rfl ?_
        refine g_iloadN X at_36 rfl 37 rfl ?_
        refine g_iloadN X at_37 rfl 38 rfl ?_
        refine g_iloadN X at_38 rfl 39 rfl ?_
        refine g_callSp X (hw _ (List.mem_of_getElem? (i := 0) rfl)) (hw _ (List.mem_of_getElem? (i := 1) rfl)) (hw _ (List.mem_of_getElem? (i := 2) rfl)) (hw _ (List.mem_of_getElem? (i := 3) rfl)) (by decide) (c_ex001 l Z a0 G b0 b1 b2 b3 b4 b5 bv eo kv h TT) (by simp) (argsL := [.int (0 : Int32), .int (0 : Int32), .int (1 : Int32)]) (rest := []) pd_8 rfl rfl rfl rfl 0 (Nat.le_of_eq rfl) (by decide) (by decide) (ck := 0) rfl (cs := 0) rfl (by decide) (by decide) at_39 42 rfl ?_
        intro w24 T22 X23 hq25
        subst hq25
        refine g_astore X23 at_42 rfl (Ls' := #[.val (.int k), .val (.int (0 : Int32)), .val (.int (0 : Int32)), .val (.int (1 : Int32)), .val (.null), .unset]) rfl 44 rfl ?_
        refine g_iloadN X23 at_44 rfl 45 rfl ?_
        refine g_iloadN X23 at_45 rfl 46 rfl ?_
        refine g_iloadN X23 at_46 rfl 47 rfl ?_
        refine g_callSv X23 (hw _ (List.mem_of_getElem? (i := 7) rfl)) (hw _ (List.mem_of_getElem? (i := 8) rfl)) (hw _ (List.mem_of_getElem? (i := 5) rfl)) (hw _ (List.mem_of_getElem? (i := 9) rfl)) (by decide) (c_of001 l Z a0 G b0 b1 b2 b3 b4 b5 bv eo kv h TT) (by simp) (argsL := [.int (0 : Int32), .int (0 : Int32), .int (1 : Int32)]) (rest := []) pd_7 rfl rfl rfl rfl 0 (Nat.le_of_eq rfl) (by decide) (by decide) (ck := 1) rfl (cs := 6) rfl (by decide) (by decide) at_47 50 rfl ?_
        intro w28 T26 h30 X27 hq29
        obtain ⟨o31, rfl, E32, A33, F34⟩ := hq29
        refine g_astore X27 at_50 rfl (Ls' := #[.val (.int k), .val (.int (0 : Int32)), .val (.int (0 : Int32)), .val (.int (1 : Int32)), .val (.null), .val (.ref o31)]) rfl 52 rfl ?_
        refine g_aload X27 at_52 rfl rfl 54 rfl ?_
        refine g_ifnonnullNo X27 at_54 57 rfl ?_
        refine g_aload X27 at_57 rfl rfl 59 rfl ?_
        refine g_callVp X27 (hw _ (List.mem_of_getElem? (i := 55) rfl)) (hw _ (List.mem_of_getElem? (i := 56) rfl)) (hw _ (List.mem_of_getElem? (i := 58) rfl)) (hw _ (List.mem_of_getElem? (i := 57) rfl)) (hw _ (List.mem_of_getElem? (i := 38) rfl)) (hw _ (List.mem_of_getElem? (i := 59) rfl)) (nfSel (hw _ (List.mem_of_getElem? (i := 58) rfl))) (by decide) A33 (c_ip0 l Z a0 G o31 h30 F34) (by simp) (argsL := []) (rest := []) pd_0 rfl rfl rfl rfl 0 (Nat.le_of_eq rfl) (by decide) (by decide) (ck := 1) rfl (cs := 6) rfl (by decide) (by decide) at_59 62 rfl ?_
        intro w37 T35 X36 hq38
        subst hq38
        refine g_ifNo X36 at_62 (XT.ii_ne_f (by decide)) 65 rfl ?_
        refine g_iconst X36 (1 : Int32) at_65 (by decide) 66 rfl ?_
        refine g_goto X36 at_66 70 (by decide) (by decide) ?_
        exact g_retN X36 (t := .boolean) rfl (by simp) at_70 _ rfl (by decide) (by decide) rfl
    · refine g_ifNo X at_15 (XT.ii_eq_f hb15) 18 rfl ?_
      refine g_iconst X (1 : Int32) at_18 (by decide) 19 rfl ?_
      refine g_goto X at_19 23 (by decide) (by decide) ?_
      refine g_istoreN X at_23 (Ls' := #[.val (.int k), .val (.int (0 : Int32)), .val (.int (1 : Int32)), .unset, .unset, .unset]) rfl 24 rfl ?_
      refine g_iloadN X at_24 rfl 25 rfl ?_
      refine g_iconst X (4 : Int32) at_25 (by decide) 26 rfl ?_
      refine g_iand X at_26 _ rfl 27 rfl ?_
      by_cases hb27 : (k &&& (4 : Int32)) = (0 : Int32)
      · refine g_ifYes X at_27 (XT.ii_eq_t hb27) 34 (by decide) (by decide) ?_
        refine g_iconst X (0 : Int32) at_34 (by decide) 35 rfl ?_
        refine g_istoreN X at_35 (Ls' := #[.val (.int k), .val (.int (0 : Int32)), .val (.int (1 : Int32)), .val (.int (0 : Int32)), .unset, .unset]) rfl 36 rfl ?_
        refine g_iloadN X at_36 rfl 37 rfl ?_
        refine g_iloadN X at_37 rfl 38 rfl ?_
        refine g_iloadN X at_38 rfl 39 rfl ?_
        refine g_callSp X (hw _ (List.mem_of_getElem? (i := 0) rfl)) (hw _ (List.mem_of_getElem? (i := 1) rfl)) (hw _ (List.mem_of_getElem? (i := 2) rfl)) (hw _ (List.mem_of_getElem? (i := 3) rfl)) (by decide) (c_ex010 l Z a0 G b0 b1 b2 b3 b4 b5 bv eo kv h TT) (by simp) (argsL := [.int (0 : Int32), .int (1 : Int32), .int (0 : Int32)]) (rest := []) pd_8 rfl rfl rfl rfl 0 (Nat.le_of_eq rfl) (by decide) (by decide) (ck := 0) rfl (cs := 0) rfl (by decide) (by decide) at_39 42 rfl ?_
        intro w41 T39 X40 hq42
        subst hq42
        refine g_astore X40 at_42 rfl (Ls' := #[.val (.int k), .val (.int (0 : Int32)), .val (.int (1 : Int32)), .val (.int (0 : Int32)), .val (.ref b3), .unset]) rfl 44 rfl ?_
        refine g_iloadN X40 at_44 rfl 45 rfl ?_
        refine g_iloadN X40 at_45 rfl 46 rfl ?_
        refine g_iloadN X40 at_46 rfl 47 rfl ?_
        refine g_callSv X40 (hw _ (List.mem_of_getElem? (i := 7) rfl)) (hw _ (List.mem_of_getElem? (i := 8) rfl)) (hw _ (List.mem_of_getElem? (i := 5) rfl)) (hw _ (List.mem_of_getElem? (i := 9) rfl)) (by decide) (c_of010 l Z a0 G b0 b1 b2 b3 b4 b5 bv eo kv h TT) (by simp) (argsL := [.int (0 : Int32), .int (1 : Int32), .int (0 : Int32)]) (rest := []) pd_7 rfl rfl rfl rfl 0 (Nat.le_of_eq rfl) (by decide) (by decide) (ck := 2) rfl (cs := 7) rfl (by decide) (by decide) at_47 50 rfl ?_
        intro w45 T43 h47 X44 hq46
        obtain ⟨o48, rfl, E49, A50, F51⟩ := hq46
        refine g_astore X44 at_50 rfl (Ls' := #[.val (.int k), .val (.int (0 : Int32)), .val (.int (1 : Int32)), .val (.int (0 : Int32)), .val (.ref b3), .val (.ref o48)]) rfl 52 rfl ?_
        refine g_aload X44 at_52 rfl rfl 54 rfl ?_
        refine g_ifnonnullYes X44 at_54 71 (by decide) (by decide) ?_
        refine g_aload X44 at_71 rfl rfl 73 rfl ?_
        refine g_callVp X44 (hw _ (List.mem_of_getElem? (i := 55) rfl)) (hw _ (List.mem_of_getElem? (i := 56) rfl)) (hw _ (List.mem_of_getElem? (i := 58) rfl)) (hw _ (List.mem_of_getElem? (i := 57) rfl)) (hw _ (List.mem_of_getElem? (i := 38) rfl)) (hw _ (List.mem_of_getElem? (i := 59) rfl)) (nfSel (hw _ (List.mem_of_getElem? (i := 58) rfl))) (by decide) A50 (c_ip1 l Z a0 G o48 b3 h47 F51) (by simp) (argsL := []) (rest := []) pd_0 rfl rfl rfl rfl 0 (Nat.le_of_eq rfl) (by decide) (by decide) (ck := 2) rfl (cs := 7) rfl (by decide) (by decide) at_73 76 rfl ?_
        intro w54 T52 X53 hq55
        subst hq55
        refine g_ifNo X53 at_76 (XT.ii_eq_f (by decide)) 79 rfl ?_
        refine g_aload X53 at_79 rfl rfl 81 rfl ?_
        refine g_callVp X53 (hw _ (List.mem_of_getElem? (i := 60) rfl)) (hw _ (List.mem_of_getElem? (i := 61) rfl)) (hw _ (List.mem_of_getElem? (i := 63) rfl)) (hw _ (List.mem_of_getElem? (i := 62) rfl)) (hw _ (List.mem_of_getElem? (i := 38) rfl)) (hw _ (List.mem_of_getElem? (i := 64) rfl)) (nfSel (hw _ (List.mem_of_getElem? (i := 63) rfl))) (by decide) A50 (c_get l Z a0 G o48 b3 h47 F51) (by simp) (argsL := []) (rest := []) pd_1 rfl rfl rfl rfl 0 (Nat.le_of_eq rfl) (by decide) (by decide) (ck := 2) rfl (cs := 7) rfl (by decide) (by decide) at_81 84 rfl ?_
        intro w58 T56 X57 hq59
        subst hq59
        refine g_aload X57 at_84 rfl rfl 86 rfl ?_
        refine g_acmpNo X57 at_86 rfl rfl (XT.aa_ne_f rfl) 89 rfl ?_
        refine g_iconst X57 (1 : Int32) at_89 (by decide) 90 rfl ?_
        refine g_goto X57 at_90 94 (by decide) (by decide) ?_
        exact g_retN X57 (t := .boolean) rfl (by simp) at_94 _ rfl (by decide) (by decide) rfl
      · refine g_ifNo X at_27 (XT.ii_eq_f hb27) 30 rfl ?_
        refine g_iconst X (1 : Int32) at_30 (by decide) 31 rfl ?_
        refine g_goto X at_31 35 (by decide) (by decide) ?_
        refine g_istoreN X at_35 (Ls' := #[.val (.int k), .val (.int (0 : Int32)), .val (.int (1 : Int32)), .val (.int (1 : Int32)), .unset, .unset]) rfl 36 rfl ?_
        refine g_iloadN X at_36 rfl 37 rfl ?_
        refine g_iloadN X at_37 rfl 38 rfl ?_
        refine g_iloadN X at_38 rfl 39 rfl ?_
        refine g_callSp X (hw _ (List.mem_of_getElem? (i := 0) rfl)) (hw _ (List.mem_of_getElem? (i := 1) rfl)) (hw _ (List.mem_of_getElem? (i := 2) rfl)) (hw _ (List.mem_of_getElem? (i := 3) rfl)) (by decide) (c_ex011 l Z a0 G b0 b1 b2 b3 b4 b5 bv eo kv h TT) (by simp) (argsL := [.int (0 : Int32), .int (1 : Int32), .int (1 : Int32)]) (rest := []) pd_8 rfl rfl rfl rfl 0 (Nat.le_of_eq rfl) (by decide) (by decide) (ck := 0) rfl (cs := 0) rfl (by decide) (by decide) at_39 42 rfl ?_
        intro w62 T60 X61 hq63
        subst hq63
        refine g_astore X61 at_42 rfl (Ls' := #[.val (.int k), .val (.int (0 : Int32)), .val (.int (1 : Int32)), .val (.int (1 : Int32)), .val (.ref b1), .unset]) rfl 44 rfl ?_
        refine g_iloadN X61 at_44 rfl 45 rfl ?_
        refine g_iloadN X61 at_45 rfl 46 rfl ?_
        refine g_iloadN X61 at_46 rfl 47 rfl ?_
        refine g_callSv X61 (hw _ (List.mem_of_getElem? (i := 7) rfl)) (hw _ (List.mem_of_getElem? (i := 8) rfl)) (hw _ (List.mem_of_getElem? (i := 5) rfl)) (hw _ (List.mem_of_getElem? (i := 9) rfl)) (by decide) (c_of011 l Z a0 G b0 b1 b2 b3 b4 b5 bv eo kv h TT) (by simp) (argsL := [.int (0 : Int32), .int (1 : Int32), .int (1 : Int32)]) (rest := []) pd_7 rfl rfl rfl rfl 0 (Nat.le_of_eq rfl) (by decide) (by decide) (ck := 2) rfl (cs := 7) rfl (by decide) (by decide) at_47 50 rfl ?_
        intro w66 T64 h68 X65 hq67
        obtain ⟨o69, rfl, E70, A71, F72⟩ := hq67
        refine g_astore X65 at_50 rfl (Ls' := #[.val (.int k), .val (.int (0 : Int32)), .val (.int (1 : Int32)), .val (.int (1 : Int32)), .val (.ref b1), .val (.ref o69)]) rfl 52 rfl ?_
        refine g_aload X65 at_52 rfl rfl 54 rfl ?_
        refine g_ifnonnullYes X65 at_54 71 (by decide) (by decide) ?_
        refine g_aload X65 at_71 rfl rfl 73 rfl ?_
        refine g_callVp X65 (hw _ (List.mem_of_getElem? (i := 55) rfl)) (hw _ (List.mem_of_getElem? (i := 56) rfl)) (hw _ (List.mem_of_getElem? (i := 58) rfl)) (hw _ (List.mem_of_getElem? (i := 57) rfl)) (hw _ (List.mem_of_getElem? (i := 38) rfl)) (hw _ (List.mem_of_getElem? (i := 59) rfl)) (nfSel (hw _ (List.mem_of_getElem? (i := 58) rfl))) (by decide) A71 (c_ip1 l Z a0 G o69 b1 h68 F72) (by simp) (argsL := []) (rest := []) pd_0 rfl rfl rfl rfl 0 (Nat.le_of_eq rfl) (by decide) (by decide) (ck := 2) rfl (cs := 7) rfl (by decide) (by decide) at_73 76 rfl ?_
        intro w75 T73 X74 hq76
        subst hq76
        refine g_ifNo X74 at_76 (XT.ii_eq_f (by decide)) 79 rfl ?_
        refine g_aload X74 at_79 rfl rfl 81 rfl ?_
        refine g_callVp X74 (hw _ (List.mem_of_getElem? (i := 60) rfl)) (hw _ (List.mem_of_getElem? (i := 61) rfl)) (hw _ (List.mem_of_getElem? (i := 63) rfl)) (hw _ (List.mem_of_getElem? (i := 62) rfl)) (hw _ (List.mem_of_getElem? (i := 38) rfl)) (hw _ (List.mem_of_getElem? (i := 64) rfl)) (nfSel (hw _ (List.mem_of_getElem? (i := 63) rfl))) (by decide) A71 (c_get l Z a0 G o69 b1 h68 F72) (by simp) (argsL := []) (rest := []) pd_1 rfl rfl rfl rfl 0 (Nat.le_of_eq rfl) (by decide) (by decide) (ck := 2) rfl (cs := 7) rfl (by decide) (by decide) at_81 84 rfl ?_
        intro w79 T77 X78 hq80
        subst hq80
        refine g_aload X78 at_84 rfl rfl 86 rfl ?_
        refine g_acmpNo X78 at_86 rfl rfl (XT.aa_ne_f rfl) 89 rfl ?_
        refine g_iconst X78 (1 : Int32) at_89 (by decide) 90 rfl ?_
        refine g_goto X78 at_90 94 (by decide) (by decide) ?_
        exact g_retN X78 (t := .boolean) rfl (by simp) at_94 _ rfl (by decide) (by decide) rfl
  · refine g_ifNo X at_3 (XT.ii_eq_f hb3) 6 rfl ?_
    refine g_iconst X (1 : Int32) at_6 (by decide) 7 rfl ?_
    refine g_goto X at_7 11 (by decide) (by decide) ?_
    refine g_istoreN X at_11 (Ls' := #[.val (.int k), .val (.int (1 : Int32)), .unset, .unset, .unset, .unset]) rfl 12 rfl ?_
    refine g_iloadN X at_12 rfl 13 rfl ?_
    refine g_iconst X (2 : Int32) at_13 (by decide) 14 rfl ?_
    refine g_iand X at_14 _ rfl 15 rfl ?_
    by_cases hb15 : (k &&& (2 : Int32)) = (0 : Int32)
    · refine g_ifYes X at_15 (XT.ii_eq_t hb15) 22 (by decide) (by decide) ?_
      refine g_iconst X (0 : Int32) at_22 (by decide) 23 rfl ?_
      refine g_istoreN X at_23 (Ls' := #[.val (.int k), .val (.int (1 : Int32)), .val (.int (0 : Int32)), .unset, .unset, .unset]) rfl 24 rfl ?_
      refine g_iloadN X at_24 rfl 25 rfl ?_
      refine g_iconst X (4 : Int32) at_25 (by decide) 26 rfl ?_
      refine g_iand X at_26 _ rfl 27 rfl ?_
      by_cases hb27 : (k &&& (4 : Int32)) = (0 : Int32)
      · refine g_ifYes X at_27 (XT.ii_eq_t hb27) 34 (by decide) (by decide) ?_
        refine g_iconst X (0 : Int32) at_34 (by decide) 35 rfl ?_
        refine g_istoreN X at_35 (Ls' := #[.val (.int k), .val (.int (1 : Int32)), .val (.int (0 : Int32)), .val (.int (0 : Int32)), .unset, .unset]) rfl 36 rfl ?_
        refine g_iloadN X at_36 rfl 37 rfl ?_
        refine g_iloadN X at_37 rfl 38 rfl ?_
        refine g_iloadN X at_38 rfl 39 rfl ?_
        refine g_callSp X (hw _ (List.mem_of_getElem? (i := 0) rfl)) (hw _ (List.mem_of_getElem? (i := 1) rfl)) (hw _ (List.mem_of_getElem? (i := 2) rfl)) (hw _ (List.mem_of_getElem? (i := 3) rfl)) (by decide) (c_ex100 l Z a0 G b0 b1 b2 b3 b4 b5 bv eo kv h TT) (by simp) (argsL := [.int (1 : Int32), .int (0 : Int32), .int (0 : Int32)]) (rest := []) pd_8 rfl rfl rfl rfl 0 (Nat.le_of_eq rfl) (by decide) (by decide) (ck := 0) rfl (cs := 0) rfl (by decide) (by decide) at_39 42 rfl ?_
        intro w83 T81 X82 hq84
        subst hq84
        refine g_astore X82 at_42 rfl (Ls' := #[.val (.int k), .val (.int (1 : Int32)), .val (.int (0 : Int32)), .val (.int (0 : Int32)), .val (.ref b4), .unset]) rfl 44 rfl ?_
        refine g_iloadN X82 at_44 rfl 45 rfl ?_
        refine g_iloadN X82 at_45 rfl 46 rfl ?_
        refine g_iloadN X82 at_46 rfl 47 rfl ?_
        refine g_callSv X82 (hw _ (List.mem_of_getElem? (i := 7) rfl)) (hw _ (List.mem_of_getElem? (i := 8) rfl)) (hw _ (List.mem_of_getElem? (i := 5) rfl)) (hw _ (List.mem_of_getElem? (i := 9) rfl)) (by decide) (c_of100 l Z a0 G b0 b1 b2 b3 b4 b5 bv eo kv h TT) (by simp) (argsL := [.int (1 : Int32), .int (0 : Int32), .int (0 : Int32)]) (rest := []) pd_7 rfl rfl rfl rfl 0 (Nat.le_of_eq rfl) (by decide) (by decide) (ck := 2) rfl (cs := 7) rfl (by decide) (by decide) at_47 50 rfl ?_
        intro w87 T85 h89 X86 hq88
        obtain ⟨o90, rfl, E91, A92, F93⟩ := hq88
        refine g_astore X86 at_50 rfl (Ls' := #[.val (.int k), .val (.int (1 : Int32)), .val (.int (0 : Int32)), .val (.int (0 : Int32)), .val (.ref b4), .val (.ref o90)]) rfl 52 rfl ?_
        refine g_aload X86 at_52 rfl rfl 54 rfl ?_
        refine g_ifnonnullYes X86 at_54 71 (by decide) (by decide) ?_
        refine g_aload X86 at_71 rfl rfl 73 rfl ?_
        refine g_callVp X86 (hw _ (List.mem_of_getElem? (i := 55) rfl)) (hw _ (List.mem_of_getElem? (i := 56) rfl)) (hw _ (List.mem_of_getElem? (i := 58) rfl)) (hw _ (List.mem_of_getElem? (i := 57) rfl)) (hw _ (List.mem_of_getElem? (i := 38) rfl)) (hw _ (List.mem_of_getElem? (i := 59) rfl)) (nfSel (hw _ (List.mem_of_getElem? (i := 58) rfl))) (by decide) A92 (c_ip1 l Z a0 G o90 b4 h89 F93) (by simp) (argsL := []) (rest := []) pd_0 rfl rfl rfl rfl 0 (Nat.le_of_eq rfl) (by decide) (by decide) (ck := 2) rfl (cs := 7) rfl (by decide) (by decide) at_73 76 rfl ?_
        intro w96 T94 X95 hq97
        subst hq97
        refine g_ifNo X95 at_76 (XT.ii_eq_f (by decide)) 79 rfl ?_
        refine g_aload X95 at_79 rfl rfl 81 rfl ?_
        refine g_callVp X95 (hw _ (List.mem_of_getElem? (i := 60) rfl)) (hw _ (List.mem_of_getElem? (i := 61) rfl)) (hw _ (List.mem_of_getElem? (i := 63) rfl)) (hw _ (List.mem_of_getElem? (i := 62) rfl)) (hw _ (List.mem_of_getElem? (i := 38) rfl)) (hw _ (List.mem_of_getElem? (i := 64) rfl)) (nfSel (hw _ (List.mem_of_getElem? (i := 63) rfl))) (by decide) A92 (c_get l Z a0 G o90 b4 h89 F93) (by simp) (argsL := []) (rest := []) pd_1 rfl rfl rfl rfl 0 (Nat.le_of_eq rfl) (by decide) (by decide) (ck := 2) rfl (cs := 7) rfl (by decide) (by decide) at_81 84 rfl ?_
        intro w100 T98 X99 hq101
        subst hq101
        refine g_aload X99 at_84 rfl rfl 86 rfl ?_
        refine g_acmpNo X99 at_86 rfl rfl (XT.aa_ne_f rfl) 89 rfl ?_
        refine g_iconst X99 (1 : Int32) at_89 (by decide) 90 rfl ?_
        refine g_goto X99 at_90 94 (by decide) (by decide) ?_
        exact g_retN X99 (t := .boolean) rfl (by simp) at_94 _ rfl (by decide) (by decide) rfl
      · refine g_ifNo X at_27 (XT.ii_eq_f hb27) 30 rfl ?_
        refine g_iconst X (1 : Int32) at_30 (by decide) 31 rfl ?_
        refine g_goto X at_31 35 (by decide) (by decide) ?_
        refine g_istoreN X at_35 (Ls' := #[.val (.int k), .val (.int (1 : Int32)), .val (.int (0 : Int32)), .val (.int (1 : Int32)), .unset, .unset]) rfl 36 rfl ?_
        refine g_iloadN X at_36 rfl 37 rfl ?_
        refine g_iloadN X at_37 rfl 38 rfl ?_
        refine g_iloadN X at_38 rfl 39 rfl ?_
        refine g_callSp X (hw _ (List.mem_of_getElem? (i := 0) rfl)) (hw _ (List.mem_of_getElem? (i := 1) rfl)) (hw _ (List.mem_of_getElem? (i := 2) rfl)) (hw _ (List.mem_of_getElem? (i := 3) rfl)) (by decide) (c_ex101 l Z a0 G b0 b1 b2 b3 b4 b5 bv eo kv h TT) (by simp) (argsL := [.int (1 : Int32), .int (0 : Int32), .int (1 : Int32)]) (rest := []) pd_8 rfl rfl rfl rfl 0 (Nat.le_of_eq rfl) (by decide) (by decide) (ck := 0) rfl (cs := 0) rfl (by decide) (by decide) at_39 42 rfl ?_
        intro w104 T102 X103 hq105
        subst hq105
        refine g_astore X103 at_42 rfl (Ls' := #[.val (.int k), .val (.int (1 : Int32)), .val (.int (0 : Int32)), .val (.int (1 : Int32)), .val (.null), .unset]) rfl 44 rfl ?_
        refine g_iloadN X103 at_44 rfl 45 rfl ?_
        refine g_iloadN X103 at_45 rfl 46 rfl ?_
        refine g_iloadN X103 at_46 rfl 47 rfl ?_
        refine g_callSv X103 (hw _ (List.mem_of_getElem? (i := 7) rfl)) (hw _ (List.mem_of_getElem? (i := 8) rfl)) (hw _ (List.mem_of_getElem? (i := 5) rfl)) (hw _ (List.mem_of_getElem? (i := 9) rfl)) (by decide) (c_of101 l Z a0 G b0 b1 b2 b3 b4 b5 bv eo kv h TT) (by simp) (argsL := [.int (1 : Int32), .int (0 : Int32), .int (1 : Int32)]) (rest := []) pd_7 rfl rfl rfl rfl 0 (Nat.le_of_eq rfl) (by decide) (by decide) (ck := 1) rfl (cs := 6) rfl (by decide) (by decide) at_47 50 rfl ?_
        intro w108 T106 h110 X107 hq109
        obtain ⟨o111, rfl, E112, A113, F114⟩ := hq109
        refine g_astore X107 at_50 rfl (Ls' := #[.val (.int k), .val (.int (1 : Int32)), .val (.int (0 : Int32)), .val (.int (1 : Int32)), .val (.null), .val (.ref o111)]) rfl 52 rfl ?_
        refine g_aload X107 at_52 rfl rfl 54 rfl ?_
        refine g_ifnonnullNo X107 at_54 57 rfl ?_
        refine g_aload X107 at_57 rfl rfl 59 rfl ?_
        refine g_callVp X107 (hw _ (List.mem_of_getElem? (i := 55) rfl)) (hw _ (List.mem_of_getElem? (i := 56) rfl)) (hw _ (List.mem_of_getElem? (i := 58) rfl)) (hw _ (List.mem_of_getElem? (i := 57) rfl)) (hw _ (List.mem_of_getElem? (i := 38) rfl)) (hw _ (List.mem_of_getElem? (i := 59) rfl)) (nfSel (hw _ (List.mem_of_getElem? (i := 58) rfl))) (by decide) A113 (c_ip0 l Z a0 G o111 h110 F114) (by simp) (argsL := []) (rest := []) pd_0 rfl rfl rfl rfl 0 (Nat.le_of_eq rfl) (by decide) (by decide) (ck := 1) rfl (cs := 6) rfl (by decide) (by decide) at_59 62 rfl ?_
        intro w117 T115 X116 hq118
        subst hq118
        refine g_ifNo X116 at_62 (XT.ii_ne_f (by decide)) 65 rfl ?_
        refine g_iconst X116 (1 : Int32) at_65 (by decide) 66 rfl ?_
        refine g_goto X116 at_66 70 (by decide) (by decide) ?_
        exact g_retN X116 (t := .boolean) rfl (by simp) at_70 _ rfl (by decide) (by decide) rfl
    · refine g_ifNo X at_15 (XT.ii_eq_f hb15) 18 rfl ?_
      refine g_iconst X (1 : Int32) at_18 (by decide) 19 rfl ?_
      refine g_goto X at_19 23 (by decide) (by decide) ?_
      refine g_istoreN X at_23 (Ls' := #[.val (.int k), .val (.int (1 : Int32)), .val (.int (1 : Int32)), .unset, .unset, .unset]) rfl 24 rfl ?_
      refine g_iloadN X at_24 rfl 25 rfl ?_
      refine g_iconst X (4 : Int32) at_25 (by decide) 26 rfl ?_
      refine g_iand X at_26 _ rfl 27 rfl ?_
      by_cases hb27 : (k &&& (4 : Int32)) = (0 : Int32)
      · refine g_ifYes X at_27 (XT.ii_eq_t hb27) 34 (by decide) (by decide) ?_
        refine g_iconst X (0 : Int32) at_34 (by decide) 35 rfl ?_
        refine g_istoreN X at_35 (Ls' := #[.val (.int k), .val (.int (1 : Int32)), .val (.int (1 : Int32)), .val (.int (0 : Int32)), .unset, .unset]) rfl 36 rfl ?_
        refine g_iloadN X at_36 rfl 37 rfl ?_
        refine g_iloadN X at_37 rfl 38 rfl ?_
        refine g_iloadN X at_38 rfl 39 rfl ?_
        refine g_callSp X (hw _ (List.mem_of_getElem? (i := 0) rfl)) (hw _ (List.mem_of_getElem? (i := 1) rfl)) (hw _ (List.mem_of_getElem? (i := 2) rfl)) (hw _ (List.mem_of_getElem? (i := 3) rfl)) (by decide) (c_ex110 l Z a0 G b0 b1 b2 b3 b4 b5 bv eo kv h TT) (by simp) (argsL := [.int (1 : Int32), .int (1 : Int32), .int (0 : Int32)]) (rest := []) pd_8 rfl rfl rfl rfl 0 (Nat.le_of_eq rfl) (by decide) (by decide) (ck := 0) rfl (cs := 0) rfl (by decide) (by decide) at_39 42 rfl ?_
        intro w121 T119 X120 hq122
        subst hq122
        refine g_astore X120 at_42 rfl (Ls' := #[.val (.int k), .val (.int (1 : Int32)), .val (.int (1 : Int32)), .val (.int (0 : Int32)), .val (.ref b2), .unset]) rfl 44 rfl ?_
        refine g_iloadN X120 at_44 rfl 45 rfl ?_
        refine g_iloadN X120 at_45 rfl 46 rfl ?_
        refine g_iloadN X120 at_46 rfl 47 rfl ?_
        refine g_callSv X120 (hw _ (List.mem_of_getElem? (i := 7) rfl)) (hw _ (List.mem_of_getElem? (i := 8) rfl)) (hw _ (List.mem_of_getElem? (i := 5) rfl)) (hw _ (List.mem_of_getElem? (i := 9) rfl)) (by decide) (c_of110 l Z a0 G b0 b1 b2 b3 b4 b5 bv eo kv h TT) (by simp) (argsL := [.int (1 : Int32), .int (1 : Int32), .int (0 : Int32)]) (rest := []) pd_7 rfl rfl rfl rfl 0 (Nat.le_of_eq rfl) (by decide) (by decide) (ck := 2) rfl (cs := 7) rfl (by decide) (by decide) at_47 50 rfl ?_
        intro w125 T123 h127 X124 hq126
        obtain ⟨o128, rfl, E129, A130, F131⟩ := hq126
        refine g_astore X124 at_50 rfl (Ls' := #[.val (.int k), .val (.int (1 : Int32)), .val (.int (1 : Int32)), .val (.int (0 : Int32)), .val (.ref b2), .val (.ref o128)]) rfl 52 rfl ?_
        refine g_aload X124 at_52 rfl rfl 54 rfl ?_
        refine g_ifnonnullYes X124 at_54 71 (by decide) (by decide) ?_
        refine g_aload X124 at_71 rfl rfl 73 rfl ?_
        refine g_callVp X124 (hw _ (List.mem_of_getElem? (i := 55) rfl)) (hw _ (List.mem_of_getElem? (i := 56) rfl)) (hw _ (List.mem_of_getElem? (i := 58) rfl)) (hw _ (List.mem_of_getElem? (i := 57) rfl)) (hw _ (List.mem_of_getElem? (i := 38) rfl)) (hw _ (List.mem_of_getElem? (i := 59) rfl)) (nfSel (hw _ (List.mem_of_getElem? (i := 58) rfl))) (by decide) A130 (c_ip1 l Z a0 G o128 b2 h127 F131) (by simp) (argsL := []) (rest := []) pd_0 rfl rfl rfl rfl 0 (Nat.le_of_eq rfl) (by decide) (by decide) (ck := 2) rfl (cs := 7) rfl (by decide) (by decide) at_73 76 rfl ?_
        intro w134 T132 X133 hq135
        subst hq135
        refine g_ifNo X133 at_76 (XT.ii_eq_f (by decide)) 79 rfl ?_
        refine g_aload X133 at_79 rfl rfl 81 rfl ?_
        refine g_callVp X133 (hw _ (List.mem_of_getElem? (i := 60) rfl)) (hw _ (List.mem_of_getElem? (i := 61) rfl)) (hw _ (List.mem_of_getElem? (i := 63) rfl)) (hw _ (List.mem_of_getElem? (i := 62) rfl)) (hw _ (List.mem_of_getElem? (i := 38) rfl)) (hw _ (List.mem_of_getElem? (i := 64) rfl)) (nfSel (hw _ (List.mem_of_getElem? (i := 63) rfl))) (by decide) A130 (c_get l Z a0 G o128 b2 h127 F131) (by simp) (argsL := []) (rest := []) pd_1 rfl rfl rfl rfl 0 (Nat.le_of_eq rfl) (by decide) (by decide) (ck := 2) rfl (cs := 7) rfl (by decide) (by decide) at_81 84 rfl ?_
        intro w138 T136 X137 hq139
        subst hq139
        refine g_aload X137 at_84 rfl rfl 86 rfl ?_
        refine g_acmpNo X137 at_86 rfl rfl (XT.aa_ne_f rfl) 89 rfl ?_
        refine g_iconst X137 (1 : Int32) at_89 (by decide) 90 rfl ?_
        refine g_goto X137 at_90 94 (by decide) (by decide) ?_
        exact g_retN X137 (t := .boolean) rfl (by simp) at_94 _ rfl (by decide) (by decide) rfl
      · refine g_ifNo X at_27 (XT.ii_eq_f hb27) 30 rfl ?_
        refine g_iconst X (1 : Int32) at_30 (by decide) 31 rfl ?_
        refine g_goto X at_31 35 (by decide) (by decide) ?_
        refine g_istoreN X at_35 (Ls' := #[.val (.int k), .val (.int (1 : Int32)), .val (.int (1 : Int32)), .val (.int (1 : Int32)), .unset, .unset]) rfl 36 rfl ?_
        refine g_iloadN X at_36 rfl 37 rfl ?_
        refine g_iloadN X at_37 rfl 38 rfl ?_
        refine g_iloadN X at_38 rfl 39 rfl ?_
        refine g_callSp X (hw _ (List.mem_of_getElem? (i := 0) rfl)) (hw _ (List.mem_of_getElem? (i := 1) rfl)) (hw _ (List.mem_of_getElem? (i := 2) rfl)) (hw _ (List.mem_of_getElem? (i := 3) rfl)) (by decide) (c_ex111 l Z a0 G b0 b1 b2 b3 b4 b5 bv eo kv h TT) (by simp) (argsL := [.int (1 : Int32), .int (1 : Int32), .int (1 : Int32)]) (rest := []) pd_8 rfl rfl rfl rfl 0 (Nat.le_of_eq rfl) (by decide) (by decide) (ck := 0) rfl (cs := 0) rfl (by decide) (by decide) at_39 42 rfl ?_
        intro w142 T140 X141 hq143
        subst hq143
        refine g_astore X141 at_42 rfl (Ls' := #[.val (.int k), .val (.int (1 : Int32)), .val (.int (1 : Int32)), .val (.int (1 : Int32)), .val (.ref b0), .unset]) rfl 44 rfl ?_
        refine g_iloadN X141 at_44 rfl 45 rfl ?_
        refine g_iloadN X141 at_45 rfl 46 rfl ?_
        refine g_iloadN X141 at_46 rfl 47 rfl ?_
        refine g_callSv X141 (hw _ (List.mem_of_getElem? (i := 7) rfl)) (hw _ (List.mem_of_getElem? (i := 8) rfl)) (hw _ (List.mem_of_getElem? (i := 5) rfl)) (hw _ (List.mem_of_getElem? (i := 9) rfl)) (by decide) (c_of111 l Z a0 G b0 b1 b2 b3 b4 b5 bv eo kv h TT) (by simp) (argsL := [.int (1 : Int32), .int (1 : Int32), .int (1 : Int32)]) (rest := []) pd_7 rfl rfl rfl rfl 0 (Nat.le_of_eq rfl) (by decide) (by decide) (ck := 2) rfl (cs := 7) rfl (by decide) (by decide) at_47 50 rfl ?_
        intro w146 T144 h148 X145 hq147
        obtain ⟨o149, rfl, E150, A151, F152⟩ := hq147
        refine g_astore X145 at_50 rfl (Ls' := #[.val (.int k), .val (.int (1 : Int32)), .val (.int (1 : Int32)), .val (.int (1 : Int32)), .val (.ref b0), .val (.ref o149)]) rfl 52 rfl ?_
        refine g_aload X145 at_52 rfl rfl 54 rfl ?_
        refine g_ifnonnullYes X145 at_54 71 (by decide) (by decide) ?_
        refine g_aload X145 at_71 rfl rfl 73 rfl ?_
        refine g_callVp X145 (hw _ (List.mem_of_getElem? (i := 55) rfl)) (hw _ (List.mem_of_getElem? (i := 56) rfl)) (hw _ (List.mem_of_getElem? (i := 58) rfl)) (hw _ (List.mem_of_getElem? (i := 57) rfl)) (hw _ (List.mem_of_getElem? (i := 38) rfl)) (hw _ (List.mem_of_getElem? (i := 59) rfl)) (nfSel (hw _ (List.mem_of_getElem? (i := 58) rfl))) (by decide) A151 (c_ip1 l Z a0 G o149 b0 h148 F152) (by simp) (argsL := []) (rest := []) pd_0 rfl rfl rfl rfl 0 (Nat.le_of_eq rfl) (by decide) (by decide) (ck := 2) rfl (cs := 7) rfl (by decide) (by decide) at_73 76 rfl ?_
        intro w155 T153 X154 hq156
        subst hq156
        refine g_ifNo X154 at_76 (XT.ii_eq_f (by decide)) 79 rfl ?_
        refine g_aload X154 at_79 rfl rfl 81 rfl ?_
        refine g_callVp X154 (hw _ (List.mem_of_getElem? (i := 60) rfl)) (hw _ (List.mem_of_getElem? (i := 61) rfl)) (hw _ (List.mem_of_getElem? (i := 63) rfl)) (hw _ (List.mem_of_getElem? (i := 62) rfl)) (hw _ (List.mem_of_getElem? (i := 38) rfl)) (hw _ (List.mem_of_getElem? (i := 64) rfl)) (nfSel (hw _ (List.mem_of_getElem? (i := 63) rfl))) (by decide) A151 (c_get l Z a0 G o149 b0 h148 F152) (by simp) (argsL := []) (rest := []) pd_1 rfl rfl rfl rfl 0 (Nat.le_of_eq rfl) (by decide) (by decide) (ck := 2) rfl (cs := 7) rfl (by decide) (by decide) at_81 84 rfl ?_
        intro w159 T157 X158 hq160
        subst hq160
        refine g_aload X158 at_84 rfl rfl 86 rfl ?_
        refine g_acmpNo X158 at_86 rfl rfl (XT.aa_ne_f rfl) 89 rfl ?_
        refine g_iconst X158 (1 : Int32) at_89 (by decide) 90 rfl ?_
        refine g_goto X158 at_90 94 (by decide) (by decide) ?_
        exact g_retN X158 (t := .boolean) rfl (by simp) at_94 _ rfl (by decide) (by decide) rfl
set_option maxRecDepth 65536 in
set_option maxHeartbeats 40000000 in
theorem comes_1 {Post : Tables → Env → Array Value → State → Outcome → State → Prop} (hpost : ∀ tb e args s v u, (limb_1_1.after args s (.returned v) u = true ∧ limb_1_2.after args s (.returned v) u = true) → Framed s (.returned v) u (Jvm.fieldLocs frame_1_writes args s ++ Jvm.arrayLocs frame_1_arrays args s ++ Jvm.staticLocs frame_1_statics s) 16 128 → Post tb e args s (.returned v) u) :
    ArmFor flags0 classFile x code maxLocals ret World_1 tables_1 room_1 Calls_1 rest_1 Pre_1 Post := by
  intro l hfl _ _ p e ha hc hk s m args below hf hA hF happ hP
  obtain ⟨hcalls, hrest, hpre⟩ := hP
  obtain ⟨-, -, -, hnamed, -, -, -, hat⟩ := (Spec.applies_iff hf).mp happ
  obtain ⟨hg, hn⟩ := and_e (Cond.before_iff.mp (show (Jvm.Cond.and given_1 narrow_1).before args s = true from hpre))
  obtain ⟨h1, hg⟩ := and_e hg
  obtain ⟨w0, rfl⟩ : ∃ w0 : Value, args = #[w0] := by
    have hs : args.size = 1 := by simpa [Cond.value, given_1] using h1
    obtain ⟨L⟩ := args
    match L, hs with
    | [w0], _ => exact ⟨w0, rfl⟩
  have hw := fun d (hd : d ∈ tables_1) => atoms_spec (ws := Jvm.Cond.code x code maxLocals ret :: tables_1) hat d (List.mem_cons_of_mem _ hd)
  have g0 := hg
  obtain ⟨i0, e0⟩ := is_v g0
  obtain rfl : w0 = (.int i0) := Option.some.inj e0
  have hfit : Fit s := fun {y c} hc i hi => by
    obtain ⟨ha, rfl⟩ := Array.getElem?_eq_some_iff.mp hc
    have q := List.all_eq_true.mp ((Array.all_eq_true_iff_forall_mem.mp hF) _ (Array.getElem_mem ha)) i (List.mem_range.mpr hi)
    simpa [Array.getElem?_eq_getElem hi] using q
  obtain ⟨q0, hn⟩ := and_e hn
  obtain ⟨q1, hn⟩ := and_e hn
  obtain ⟨q2, hn⟩ := and_e hn
  obtain ⟨q3, hn⟩ := and_e hn
  obtain ⟨q4, hn⟩ := and_e hn
  obtain ⟨q5, hn⟩ := and_e hn
  obtain ⟨q6, hn⟩ := and_e hn
  obtain ⟨q7, hn⟩ := and_e hn
  obtain ⟨q8, hn⟩ := and_e hn
  obtain ⟨q9, hn⟩ := and_e hn
  obtain ⟨q10, hn⟩ := and_e hn
  obtain ⟨q11, hn⟩ := and_e hn
  obtain ⟨q12, hn⟩ := and_e hn
  obtain ⟨q13, hn⟩ := and_e hn
  obtain ⟨q14, hn⟩ := and_e hn
  obtain ⟨q15, hn⟩ := and_e hn
  obtain ⟨q16, hn⟩ := and_e hn
  obtain ⟨q17, hn⟩ := and_e hn
  obtain ⟨q18, hn⟩ := and_e hn
  obtain ⟨q19, hn⟩ := and_e hn
  obtain ⟨q20, hn⟩ := and_e hn
  obtain ⟨q21, hn⟩ := and_e hn
  obtain ⟨q22, hn⟩ := and_e hn
  obtain ⟨q23, hn⟩ := and_e hn
  obtain ⟨q24, hn⟩ := and_e hn
  obtain ⟨q25, hn⟩ := and_e hn
  obtain ⟨q26, hn⟩ := and_e hn
  obtain ⟨q27, hn⟩ := and_e hn
  obtain ⟨q28, hn⟩ := and_e hn
  obtain ⟨q29, hn⟩ := and_e hn
  obtain ⟨q30, hn⟩ := and_e hn
  obtain ⟨q31, hn⟩ := and_e hn
  have q32 := hn
  obtain ⟨hsets, hown0⟩ := atoms_of _ (rest_1_c_eq ▸ (show rest_1_c.before _ s = true from hrest))
  obtain ⟨b0, t_b0⟩ := exa_v q4
  have S0 := Sta.start t_b0 (Or.inr ⟨(hw _ (List.mem_of_getElem? (i := 5) rfl)), (hw _ (List.mem_of_getElem? (i := 22) rfl))⟩)
  have E0 := Exa.start t_b0 q4
  have F0level := own_fldI t_b0 q15
  have F0type := own_fldI t_b0 q25
  have F0id := own_fldI t_b0 q26
  obtain ⟨b1, t_b1⟩ := exa_v q6
  have S1 := Sta.start t_b1 (Or.inr ⟨(hw _ (List.mem_of_getElem? (i := 5) rfl)), (hw _ (List.mem_of_getElem? (i := 23) rfl))⟩)
  have E1 := Exa.start t_b1 q6
  have F1level := own_fldI t_b1 q16
  have F1type := own_fldI t_b1 q17
  have F1id := own_fldI t_b1 q29
  obtain ⟨b2, t_b2⟩ := exa_v q8
  have S2 := Sta.start t_b2 (Or.inr ⟨(hw _ (List.mem_of_getElem? (i := 5) rfl)), (hw _ (List.mem_of_getElem? (i := 24) rfl))⟩)
  have E2 := Exa.start t_b2 q8
  have F2level := own_fldI t_b2 q18
  have F2type := own_fldI t_b2 q27
  have F2id := own_fldI t_b2 q28
  obtain ⟨b3, t_b3⟩ := exa_v q10
  have S3 := Sta.start t_b3 (Or.inr ⟨(hw _ (List.mem_of_getElem? (i := 5) rfl)), (hw _ (List.mem_of_getElem? (i := 25) rfl))⟩)
  have E3 := Exa.start t_b3 q10
  have F3level := own_fldI t_b3 q19
  have F3type := own_fldI t_b3 q20
  have F3id := own_fldI t_b3 q30
  obtain ⟨b4, t_b4⟩ := exa_v q12
  have S4 := Sta.start t_b4 (Or.inr ⟨(hw _ (List.mem_of_getElem? (i := 5) rfl)), (hw _ (List.mem_of_getElem? (i := 26) rfl))⟩)
  have E4 := Exa.start t_b4 q12
  have F4level := own_fldI t_b4 q21
  have F4type := own_fldI t_b4 q31
  have F4id := own_fldI t_b4 q32
  obtain ⟨b5, t_b5⟩ := exa_v q0
  have S5 := Sta.start t_b5 (Or.inr ⟨(hw _ (List.mem_of_getElem? (i := 5) rfl)), (hw _ (List.mem_of_getElem? (i := 6) rfl))⟩)
  have E5 := Exa.start t_b5 q0
  have F5level := own_fldI t_b5 q22
  have F5type := own_fldI t_b5 q23
  have F5id := own_fldI t_b5 q24
  obtain ⟨bv, t_bv⟩ := exa_v q2
  have SV := Sta.start t_bv (Or.inl (hw _ (List.mem_of_getElem? (i := 27) rfl)))
  have EV := Exa.start t_bv q2
  obtain ⟨cl_bv, A0_bv⟩ := Arr.start t_bv q1
  have l_bv := own_len A0_bv t_bv q3
  have AV : Arv s s.heap bv cl_bv.cls (Jvm.ClassFile.FieldType.object "com/example/rowpath/rowpath/core/NodeMatch$Tier") (6 : Int32) [.ref b0, .ref b1, .ref b2, .ref b3, .ref b4, .ref b5] .null := Arv.start hfit A0_bv l_bv.1 l_bv.2 (by decide) (by rfl) ⟨own_elem A0_bv t_bv t_b0 q5, own_elem A0_bv t_bv t_b1 q7, own_elem A0_bv t_bv t_b2 q9, own_elem A0_bv t_bv t_b3 q11, own_elem A0_bv t_bv t_b4 q13, own_elem A0_bv t_bv t_b5 q14, trivial⟩
  obtain ⟨eo, t_eo⟩ := exa_v (Cond.before_iff.mp (hsets _ (List.mem_of_getElem? (i := 2) rfl)))
  have SO := Sta.start t_eo (Or.inl (hsets _ (List.mem_of_getElem? (i := 1) rfl)))
  have EO := Exa.start t_eo (Cond.before_iff.mp (hsets _ (List.mem_of_getElem? (i := 2) rfl)))
  have FO := own_fld0 t_eo (Cond.before_iff.mp (hsets _ (List.mem_of_getElem? (i := 3) rfl)))
  have TT : Tiers s b0 b1 b2 b3 b4 b5 bv eo cl_bv.cls := ⟨S0, E0, F0level, F0type, F0id, S1, E1, F1level, F1type, F1id, S2, E2, F2level, F2type, F2id, S3, E3, F3level, F3type, F3id, S4, E4, F4level, F4type, F4id, S5, E5, F5level, F5type, F5id, SV, EV, AV, SO, EO, FO⟩
  have G : Gl s #[.int i0] := ⟨hw, EW.nil⟩
  obtain ⟨n, o, h1, h2, h3, v, L, rfl, hQ, N, -, -, hq, hnw⟩ := c_law l s _ G i0 b0 b1 b2 b3 b4 b5 bv eo _ s.heap TT tables_1 p e ha hc hk s m _ below hf ((Spec.applies_iff_loose hf).mp happ).1 ⟨rfl, State.Warmed39.refl s, rfl, Ext.refl _, (fun _ hp => by cases hp), fun _ q => nomatch q⟩ trivial
  obtain ⟨rfl⟩ : v = some (.int 1) := hQ
  exact ⟨n, _, h1, h2, h3, hpost _ _ _ _ _ _ ⟨Cond.after_iff.mpr rfl, Cond.after_iff.mpr (eq_i res_at (Term.int_eval (1)) rfl)⟩ ⟨hq.1, hnw rfl, (hq.2.2.2.sift fun y hy => Or.inr (N y hy)).mono (by decide) (by decide)⟩⟩
theorem main_1_1 : Claimed_1_1 := comes_1 fun _ _ _ _ _ _ h hF => ⟨h.1, hF⟩
theorem main_1_2 : Claimed_1_2 := comes_1 fun _ _ _ _ _ _ h hF => ⟨h.2, hF⟩
end Jvm.Pilot.@@N@@
namespace Jvm.Pilot.@@N@@
open Jvm Jvm.ClassFile Sem Op Lib Jvm.Free Jvm.Stand Jvm.Pilot.@@N@@.Jvm.D
/-! MADE BY PROGRAM (witnessworld.py) out of the Statement's table words and the real class files: 15 classes; the members and pool entries that the words name. The judged class is class 1, her method 1. -/
namespace start1
open Jvm.ClassFile
def u (s : String) : CpInfo := .utf8 (stringToUtf16 s)
/-- a pool by its gaps: so many unusable entries, then the entry; so many at the end -/
def gap : Nat → List CpInfo → List CpInfo
  | 0, r => r
  | n + 1, r => .unusable :: gap n r
def poolList (es : List (Nat × CpInfo)) (last : Nat) : List CpInfo := es.foldr (fun e r => gap e.1 (e.2 :: r)) (gap last [])
def pool (es : List (Nat × CpInfo)) (last : Nat) : Array CpInfo := ⟨poolList es last⟩
def fileOf (pool : Array CpInfo) (this : Nat) (attrs : Array Attribute := #[]) (ms : Array MethodInfo := #[]) (fl : Nat := 33) (sup : Nat := 0) (ifs : Array Nat := #[]) (fds : Array FieldInfo := #[]) : ClassFile where
  minorVersion := 0
  majorVersion := 65
  constantPool := pool
  accessFlags := fl
  thisClass := this
  superClass := sup
  interfaces := ifs
  fields := fds
  methods := ms
  attributes := attrs
def plain (name : String) (sup : Option ClassId) : Class where
  name := name
  kind := .ordinary
  loader := none
  accessFlags := 33
  super := sup
  interfaces := #[]
  cf := none
  fields := #[]
  methods := #[]
  instanceTypes := #[]
  staticTypes := #[]
  resolved := #[]
  callSites := []
  init := .initialized
  statics := none
  mirror := none

def pool0 : Array CpInfo := pool [(5, u "<init>"), (0, u "()V"), (1, .class_ 10), (1, u "java/lang/Object"), (85, u "clone"), (0, u "()Ljava/lang/Object;")] 26

def k0c0 : Code := { maxStack := 0, maxLocals := 1, code := object_method_1_code, exceptionTable := #[], attributes := #[] }
def k0m0 : Method := { name := "<init>", desc := "()V", sig := { parameters := [], returnType := none }, accessFlags := 1, code := some k0c0 }
def k0m1 : Method := { name := "clone", desc := "()Ljava/lang/Object;", sig := { parameters := [], returnType := some (.object "java/lang/Object") }, accessFlags := 260, code := none }
/-- java/lang/Object -/
def k0 : Class := { plain "java/lang/Object" none with
  accessFlags := 33
  interfaces := #[]
  cf := some (fileOf pool0 8 #[] #[{ accessFlags := 1, nameIndex := 5, descriptorIndex := 6, attributes := #[] }, { accessFlags := 260, nameIndex := 96, descriptorIndex := 97, attributes := #[] }] 33 0 #[] #[])
  fields := #[]
  methods := #[k0m0, k0m1]
  instanceTypes := #[]
  staticTypes := #[]
  resolved := Array.replicate 124 none
  statics := none }

def pool1 : Array CpInfo := pool [(2, .class_ 4), (1, u "java/lang/Object"), (0, u "<init>"), (0, u "()V"), (0, .methodref 8 9), (0, .class_ 10), (0, .nameAndType 11 12), (0, u "com/example/rowpath/rowpath/core/TierOfPinLaw"), (0, u "expected"), (0, u "(ZZZ)Lcom/example/rowpath/rowpath/core/NodeMatch$Tier;"), (0, .methodref 14 15), (0, .class_ 16), (0, .nameAndType 17 18), (0, u "com/example/rowpath/rowpath/core/NodeMatch$Tier"), (0, u "of"), (0, u "(ZZZ)Ljava/util/Optional;"), (0, .methodref 20 21), (0, .class_ 22), (0, .nameAndType 23 24), (0, u "java/util/Optional"), (0, u "isPresent"), (0, u "()Z"), (0, .methodref 20 26), (0, .nameAndType 27 28), (0, u "get"), (0, u "()Ljava/lang/Object;"), (0, .fieldref 14 30), (0, .nameAndType 31 32), (0, u "LEVEL_TYPE_ID"), (0, u "Lcom/example/rowpath/rowpath/core/NodeMatch$Tier;"), (0, .fieldref 14 34), (0, .nameAndType 35 32), (0, u "TYPE_ID"), (0, .fieldref 14 37), (0, .nameAndType 38 32), (0, u "LEVEL_TYPE"), (0, .fieldref 14 40), (0, .nameAndType 41 32), (0, u "TYPE"), (0, .fieldref 14 43), (0, .nameAndType 44 32), (0, u "LEVEL"), (0, .fieldref 14 46), (0, .nameAndType 47 32), (0, u "NONE"), (2, u "law"), (0, u "(I)Z")] 7

def k1m0 : Method := { name := "<init>", desc := "()V", sig := { parameters := [], returnType := none }, accessFlags := 1, code := none }
def k1c1 : Code := { maxStack := 3, maxLocals := 6, code := code, exceptionTable := #[], attributes := #[] }
def k1m1 : Method := { name := "law", desc := "(I)Z", sig := { parameters := [.int], returnType := some .boolean }, accessFlags := 9, code := some k1c1 }
def k1c2 : Code := { maxStack := 1, maxLocals := 3, code := method_3_code, exceptionTable := #[], attributes := #[] }
def k1m2 : Method := { name := "expected", desc := "(ZZZ)Lcom/example/rowpath/rowpath/core/NodeMatch$Tier;", sig := { parameters := [.boolean, .boolean, .boolean], returnType := some (.object "com/example/rowpath/rowpath/core/NodeMatch$Tier") }, accessFlags := 10, code := some k1c2 }
/-- com/example/rowpath/rowpath/core/TierOfPinLaw -/
def k1 : Class := { plain "com/example/rowpath/rowpath/core/TierOfPinLaw" (some 0) with
  accessFlags := 49
  interfaces := #[]
  cf := some (fileOf pool1 8 #[] #[{ accessFlags := 1, nameIndex := 5, descriptorIndex := 6, attributes := #[] }, { accessFlags := 9, nameIndex := 50, descriptorIndex := 51, attributes := #[] }, { accessFlags := 10, nameIndex := 11, descriptorIndex := 12, attributes := #[] }] 49 2 #[] #[])
  fields := #[]
  methods := #[k1m0, k1m1, k1m2]
  instanceTypes := #[]
  staticTypes := #[]
  resolved := Array.replicate 59 none
  statics := none }

def pool2 : Array CpInfo := pool [(1, .class_ 2), (0, u "java/lang/constant/Constable"), (0, .class_ 4), (0, u "java/lang/Object")] 6

/-- java/lang/constant/Constable -/
def k2 : Class := { plain "java/lang/constant/Constable" (some 0) with
  accessFlags := 1537
  interfaces := #[]
  cf := some (fileOf pool2 1 #[] #[] 1537 3 #[] #[])
  fields := #[]
  methods := #[]
  instanceTypes := #[]
  staticTypes := #[]
  resolved := Array.replicate 11 none
  statics := none }

def pool3 : Array CpInfo := pool [(1, .class_ 2), (0, u "java/lang/Comparable"), (0, .class_ 4), (0, u "java/lang/Object")] 7

/-- java/lang/Comparable -/
def k3 : Class := { plain "java/lang/Comparable" (some 0) with
  accessFlags := 1537
  interfaces := #[]
  cf := some (fileOf pool3 1 #[] #[] 1537 3 #[] #[])
  fields := #[]
  methods := #[]
  instanceTypes := #[]
  staticTypes := #[]
  resolved := Array.replicate 12 none
  statics := none }

def pool4 : Array CpInfo := pool [(1, .class_ 2), (0, u "java/io/Serializable"), (0, .class_ 4), (0, u "java/lang/Object")] 2

/-- java/io/Serializable -/
def k4 : Class := { plain "java/io/Serializable" (some 0) with
  accessFlags := 1537
  interfaces := #[]
  cf := some (fileOf pool4 1 #[] #[] 1537 3 #[] #[])
  fields := #[]
  methods := #[]
  instanceTypes := #[]
  staticTypes := #[]
  resolved := Array.replicate 7 none
  statics := none }

def pool5 : Array CpInfo := pool [(2, .class_ 4), (1, u "java/lang/Enum"), (0, u "name"), (0, u "Ljava/lang/String;"), (2, u "ordinal"), (0, u "I"), (1, .class_ 14), (1, u "java/lang/Object"), (4, u "hash"), (86, .class_ 108), (1, u "java/lang/Enum$EnumDesc"), (2, .class_ 112), (0, u "java/lang/constant/Constable"), (0, .class_ 114), (0, u "java/lang/Comparable"), (0, .class_ 116), (0, u "java/io/Serializable")] 87

/-- java/lang/Enum -/
def k5 : Class := { plain "java/lang/Enum" (some 0) with
  accessFlags := 1057
  interfaces := #[2, 3, 4]
  cf := some (fileOf pool5 2 #[.nestMembers #[106]] #[] 1057 12 #[111, 113, 115] #[{ accessFlags := 18, nameIndex := 5, descriptorIndex := 6, attributes := #[] }, { accessFlags := 18, nameIndex := 9, descriptorIndex := 10, attributes := #[] }, { accessFlags := 2, nameIndex := 19, descriptorIndex := 10, attributes := #[] }])
  fields := #[{ name := "name", type := (.object "java/lang/String"), accessFlags := 18, slot := 0, constantValue := 0 }, { name := "ordinal", type := .int, accessFlags := 18, slot := 1, constantValue := 0 }, { name := "hash", type := .int, accessFlags := 2, slot := 2, constantValue := 0 }]
  methods := #[]
  instanceTypes := #[(.object "java/lang/String"), .int, .int]
  staticTypes := #[]
  resolved := Array.replicate 204 none
  statics := none }

def pool6 : Array CpInfo := pool [(1, .class_ 2), (0, u "com/example/rowpath/rowpath/core/NodeMatch$Tier"), (2, u "LEVEL_TYPE_ID"), (0, u "Lcom/example/rowpath/rowpath/core/NodeMatch$Tier;"), (2, u "TYPE_ID"), (2, u "LEVEL_TYPE"), (2, u "TYPE"), (2, u "LEVEL"), (2, u "NONE"), (0, .fieldref 1 23), (0, .nameAndType 24 25), (0, u "$VALUES"), (0, u "[Lcom/example/rowpath/rowpath/core/NodeMatch$Tier;"), (0, .methodref 27 28), (0, .class_ 25), (0, .nameAndType 29 30), (0, u "clone"), (0, u "()Ljava/lang/Object;"), (1, .class_ 34), (1, u "java/lang/Enum"), (6, .fieldref 1 42), (0, .nameAndType 43 44), (0, u "level"), (0, u "Z"), (0, .fieldref 1 46), (0, .nameAndType 47 44), (0, u "type"), (0, .fieldref 1 49), (0, .nameAndType 50 44), (0, u "id"), (0, .methodref 1 52), (0, .nameAndType 53 54), (0, u "values"), (0, u "()[Lcom/example/rowpath/rowpath/core/NodeMatch$Tier;"), (0, .methodref 56 57), (0, .class_ 58), (0, .nameAndType 59 60), (0, u "java/util/Optional"), (0, u "of"), (0, u "(Ljava/lang/Object;)Ljava/util/Optional;"), (0, .methodref 56 62), (0, .nameAndType 63 64), (0, u "empty"), (0, u "()Ljava/util/Optional;"), (18, u "(ZZZ)Ljava/util/Optional;"), (8, .class_ 93), (0, u "com/example/rowpath/rowpath/core/NodeMatch")] 2

def k6c0 : Code := { maxStack := 1, maxLocals := 0, code := prog_48_method_1_code, exceptionTable := #[], attributes := #[] }
def k6m0 : Method := { name := "values", desc := "()[Lcom/example/rowpath/rowpath/core/NodeMatch$Tier;", sig := { parameters := [], returnType := some (.array (.object "com/example/rowpath/rowpath/core/NodeMatch$Tier")) }, accessFlags := 9, code := some k6c0 }
def k6c1 : Code := { maxStack := 2, maxLocals := 7, code := prog_48_method_4_code, exceptionTable := #[], attributes := #[] }
def k6m1 : Method := { name := "of", desc := "(ZZZ)Ljava/util/Optional;", sig := { parameters := [.boolean, .boolean, .boolean], returnType := some (.object "java/util/Optional") }, accessFlags := 9, code := some k6c1 }
/-- com/example/rowpath/rowpath/core/NodeMatch$Tier -/
def k6 : Class := { plain "com/example/rowpath/rowpath/core/NodeMatch$Tier" (some 5) with
  accessFlags := 16433
  interfaces := #[]
  cf := some (fileOf pool6 1 #[.nestHost 92] #[{ accessFlags := 9, nameIndex := 53, descriptorIndex := 54, attributes := #[] }, { accessFlags := 9, nameIndex := 59, descriptorIndex := 83, attributes := #[] }] 16433 32 #[] #[{ accessFlags := 16409, nameIndex := 5, descriptorIndex := 6, attributes := #[] }, { accessFlags := 16409, nameIndex := 9, descriptorIndex := 6, attributes := #[] }, { accessFlags := 16409, nameIndex := 12, descriptorIndex := 6, attributes := #[] }, { accessFlags := 16409, nameIndex := 15, descriptorIndex := 6, attributes := #[] }, { accessFlags := 16409, nameIndex := 18, descriptorIndex := 6, attributes := #[] }, { accessFlags := 16409, nameIndex := 21, descriptorIndex := 6, attributes := #[] }, { accessFlags := 18, nameIndex := 43, descriptorIndex := 44, attributes := #[] }, { accessFlags := 18, nameIndex := 47, descriptorIndex := 44, attributes := #[] }, { accessFlags := 18, nameIndex := 50, descriptorIndex := 44, attributes := #[] }, { accessFlags := 4122, nameIndex := 24, descriptorIndex := 25, attributes := #[] }])
  fields := #[{ name := "LEVEL_TYPE_ID", type := (.object "com/example/rowpath/rowpath/core/NodeMatch$Tier"), accessFlags := 16409, slot := 0, constantValue := 0 }, { name := "TYPE_ID", type := (.object "com/example/rowpath/rowpath/core/NodeMatch$Tier"), accessFlags := 16409, slot := 1, constantValue := 0 }, { name := "LEVEL_TYPE", type := (.object "com/example/rowpath/rowpath/core/NodeMatch$Tier"), accessFlags := 16409, slot := 2, constantValue := 0 }, { name := "TYPE", type := (.object "com/example/rowpath/rowpath/core/NodeMatch$Tier"), accessFlags := 16409, slot := 3, constantValue := 0 }, { name := "LEVEL", type := (.object "com/example/rowpath/rowpath/core/NodeMatch$Tier"), accessFlags := 16409, slot := 4, constantValue := 0 }, { name := "NONE", type := (.object "com/example/rowpath/rowpath/core/NodeMatch$Tier"), accessFlags := 16409, slot := 5, constantValue := 0 }, { name := "level", type := .boolean, accessFlags := 18, slot := 3, constantValue := 0 }, { name := "type", type := .boolean, accessFlags := 18, slot := 4, constantValue := 0 }, { name := "id", type := .boolean, accessFlags := 18, slot := 5, constantValue := 0 }, { name := "$VALUES", type := (.array (.object "com/example/rowpath/rowpath/core/NodeMatch$Tier")), accessFlags := 4122, slot := 6, constantValue := 0 }]
  methods := #[k6m0, k6m1]
  instanceTypes := #[(.object "java/lang/String"), .int, .int, .boolean, .boolean, .boolean]
  staticTypes := #[(.object "com/example/rowpath/rowpath/core/NodeMatch$Tier"), (.object "com/example/rowpath/rowpath/core/NodeMatch$Tier"), (.object "com/example/rowpath/rowpath/core/NodeMatch$Tier"), (.object "com/example/rowpath/rowpath/core/NodeMatch$Tier"), (.object "com/example/rowpath/rowpath/core/NodeMatch$Tier"), (.object "com/example/rowpath/rowpath/core/NodeMatch$Tier"), (.array (.object "com/example/rowpath/rowpath/core/NodeMatch$Tier"))]
  resolved := Array.replicate 96 none
  statics := some 0 }

def pool7 : Array CpInfo := pool [(1, .class_ 2), (0, u "java/lang/Cloneable"), (0, .class_ 4), (0, u "java/lang/Object")] 2

/-- java/lang/Cloneable -/
def k7 : Class := { plain "java/lang/Cloneable" (some 0) with
  accessFlags := 1537
  interfaces := #[]
  cf := some (fileOf pool7 1 #[] #[] 1537 3 #[] #[])
  fields := #[]
  methods := #[]
  instanceTypes := #[]
  staticTypes := #[]
  resolved := Array.replicate 7 none
  statics := none }

def pool8 : Array CpInfo := pool [(1, .fieldref 2 3), (0, .class_ 4), (0, .nameAndType 5 6), (0, u "java/util/Optional"), (0, u "EMPTY"), (0, u "Ljava/util/Optional;"), (0, .methodref 8 9), (0, .class_ 10), (0, .nameAndType 11 12), (0, u "java/lang/Object"), (0, u "<init>"), (0, u "()V"), (0, .fieldref 2 14), (0, .nameAndType 15 16), (0, u "value"), (0, u "Ljava/lang/Object;"), (0, .methodref 18 19), (0, .class_ 20), (0, .nameAndType 21 22), (0, u "java/util/Objects"), (0, u "requireNonNull"), (0, u "(Ljava/lang/Object;)Ljava/lang/Object;"), (0, .methodref 2 24), (0, .nameAndType 11 25), (0, u "(Ljava/lang/Object;)V"), (20, u "()Z"), (8, u "empty"), (0, u "()Ljava/util/Optional;"), (8, u "(Ljava/lang/Object;)Ljava/util/Optional;"), (2, u "isPresent"), (4, u "get"), (0, u "()Ljava/lang/Object;"), (7, u "of")] 104

def k8c0 : Code := { maxStack := 1, maxLocals := 1, code := jdk_32_method_1_code, exceptionTable := #[], attributes := #[] }
def k8m0 : Method := { name := "empty", desc := "()Ljava/util/Optional;", sig := { parameters := [], returnType := some (.object "java/util/Optional") }, accessFlags := 9, code := some k8c0 }
def k8c1 : Code := { maxStack := 2, maxLocals := 2, code := jdk_32_method_2_code, exceptionTable := #[], attributes := #[] }
def k8m1 : Method := { name := "<init>", desc := "(Ljava/lang/Object;)V", sig := { parameters := [(.object "java/lang/Object")], returnType := none }, accessFlags := 2, code := some k8c1 }
def k8c2 : Code := { maxStack := 3, maxLocals := 1, code := jdk_32_method_3_code, exceptionTable := #[], attributes := #[] }
def k8m2 : Method := { name := "of", desc := "(Ljava/lang/Object;)Ljava/util/Optional;", sig := { parameters := [(.object "java/lang/Object")], returnType := some (.object "java/util/Optional") }, accessFlags := 9, code := some k8c2 }
def k8c3 : Code := { maxStack := 3, maxLocals := 1, code := jdk_32_method_5_code, exceptionTable := #[], attributes := #[] }
def k8m3 : Method := { name := "get", desc := "()Ljava/lang/Object;", sig := { parameters := [], returnType := some (.object "java/lang/Object") }, accessFlags := 1, code := some k8c3 }
def k8c4 : Code := { maxStack := 1, maxLocals := 1, code := jdk_32_method_6_code, exceptionTable := #[], attributes := #[] }
def k8m4 : Method := { name := "isPresent", desc := "()Z", sig := { parameters := [], returnType := some .boolean }, accessFlags := 1, code := some k8c4 }
/-- java/util/Optional -/
def k8 : Class := { plain "java/util/Optional" (some 0) with
  accessFlags := 49
  interfaces := #[]
  cf := some (fileOf pool8 2 #[] #[{ accessFlags := 9, nameIndex := 55, descriptorIndex := 56, attributes := #[] }, { accessFlags := 2, nameIndex := 11, descriptorIndex := 25, attributes := #[] }, { accessFlags := 9, nameIndex := 82, descriptorIndex := 65, attributes := #[] }, { accessFlags := 1, nameIndex := 73, descriptorIndex := 74, attributes := #[] }, { accessFlags := 1, nameIndex := 68, descriptorIndex := 46, attributes := #[] }] 49 8 #[] #[{ accessFlags := 26, nameIndex := 5, descriptorIndex := 6, attributes := #[] }, { accessFlags := 18, nameIndex := 15, descriptorIndex := 16, attributes := #[] }])
  fields := #[{ name := "EMPTY", type := (.object "java/util/Optional"), accessFlags := 26, slot := 0, constantValue := 0 }, { name := "value", type := (.object "java/lang/Object"), accessFlags := 18, slot := 0, constantValue := 0 }]
  methods := #[k8m0, k8m1, k8m2, k8m3, k8m4]
  instanceTypes := #[(.object "java/lang/Object")]
  staticTypes := #[(.object "java/util/Optional")]
  resolved := Array.replicate 187 none
  statics := some 1 }

def pool9 : Array CpInfo := pool [(2, .class_ 4), (1, u "java/lang/Object"), (0, u "<init>"), (0, u "()V"), (35, .class_ 44), (1, u "java/util/Objects"), (0, u "requireNonNull"), (0, u "(Ljava/lang/Object;)Ljava/lang/Object;")] 137

def k9m0 : Method := { name := "<init>", desc := "()V", sig := { parameters := [], returnType := none }, accessFlags := 2, code := none }
def k9c1 : Code := { maxStack := 2, maxLocals := 1, code := jdk_31_method_10_code, exceptionTable := #[], attributes := #[] }
def k9m1 : Method := { name := "requireNonNull", desc := "(Ljava/lang/Object;)Ljava/lang/Object;", sig := { parameters := [(.object "java/lang/Object")], returnType := some (.object "java/lang/Object") }, accessFlags := 9, code := some k9c1 }
/-- java/util/Objects -/
def k9 : Class := { plain "java/util/Objects" (some 0) with
  accessFlags := 49
  interfaces := #[]
  cf := some (fileOf pool9 42 #[] #[{ accessFlags := 2, nameIndex := 5, descriptorIndex := 6, attributes := #[] }, { accessFlags := 9, nameIndex := 45, descriptorIndex := 46, attributes := #[] }] 49 2 #[] #[])
  fields := #[]
  methods := #[k9m0, k9m1]
  instanceTypes := #[]
  staticTypes := #[]
  resolved := Array.replicate 184 none
  statics := none }

/-- the primitive byte -/
def k10 : Class := { plain "byte" none with kind := .primitive 'B', accessFlags := 0x411 }
/-- [B -/
def k11 : Class := { plain "[B" (some 0) with kind := .array 10 .byte, interfaces := #[7, 4], accessFlags := 1041 }

/-- the primitive int -/
def k12 : Class := { plain "int" none with kind := .primitive 'I', accessFlags := 0x411 }
/-- [I -/
def k13 : Class := { plain "[I" (some 0) with kind := .array 12 .int, interfaces := #[7, 4], accessFlags := 1041 }

/-- [Lcom/example/rowpath/rowpath/core/NodeMatch$Tier; -/
def k14 : Class := { plain "[Lcom/example/rowpath/rowpath/core/NodeMatch$Tier;" (some 0) with kind := .array 6 (.object "com/example/rowpath/rowpath/core/NodeMatch$Tier"), interfaces := #[7, 4], accessFlags := 1041 }

def heap : Heap := #[{ cls := 6, slots := #[.ref 3, .ref 4, .ref 5, .ref 6, .ref 7, .ref 8, .ref 2], vm := .statics 6 },
  { cls := 8, slots := #[.ref 9], vm := .statics 8 },
  { cls := 14, slots := #[.ref 3, .ref 4, .ref 5, .ref 6, .ref 7, .ref 8], vm := .none },
  { cls := 6, slots := #[.null, .int 0, .int 0, .int 1, .int 1, .int 1], vm := .none },
  { cls := 6, slots := #[.null, .int 1, .int 0, .int 0, .int 1, .int 1], vm := .none },
  { cls := 6, slots := #[.null, .int 2, .int 0, .int 1, .int 1, .int 0], vm := .none },
  { cls := 6, slots := #[.null, .int 3, .int 0, .int 0, .int 1, .int 0], vm := .none },
  { cls := 6, slots := #[.null, .int 4, .int 0, .int 1, .int 0, .int 0], vm := .none },
  { cls := 6, slots := #[.null, .int 5, .int 0, .int 0, .int 0, .int 0], vm := .none },
  { cls := 8, slots := #[.null], vm := .none }]
def classes : Array Class := #[k0, k1, k2, k3, k4, k5, k6, k7, k8, k9, k10, k11, k12, k13, k14]
def interned : List (Array UInt16 × Addr) := []
def slotsUsed : Nat := 51
def theMethod : MethodId := ⟨1, 1⟩
def args0 : Array Value := #[.int 5]
def aboutOver (below : List Frame) : State where
  vm := { classes := classes, interned := interned.toArray }
  heap := heap
  slotsUsed := slotsUsed
  threads := #[{ frames := .invoking theMethod args0 :: below }]
def below0 : List Frame := [.native { method := ⟨0, 0⟩, args := #[] }]
def about1 : State := aboutOver below0
def p0 : Program := .bare "" "" ""
def e0 : Env := launch0.env 0 0 0
theorem w_frames : about1.frames = Frame.invoking theMethod args0 :: below0 := rfl
set_option maxRecDepth 65536 in
theorem w_args : argsFit about1.vm theMethod args0 = true := by decide +kernel
set_option maxRecDepth 65536 in
theorem w_heap : heapFits about1 = true := by decide +kernel
set_option maxRecDepth 65536 in
theorem w_runnable : about1.curStatus? = some .runnable := by decide +kernel
set_option maxRecDepth 65536 in
theorem w_alone : about1.alone = true := by decide +kernel
set_option maxRecDepth 65536 in
theorem w_named : about1.methodNamed? x = some theMethod := by decide +kernel
set_option maxRecDepth 65536 in
theorem w_hears : about1.hears theMethod below0 = true := by decide +kernel
set_option maxRecDepth 65536 in
theorem w_ripe : about1.ripe theMethod args0 below0 = true := by decide +kernel
theorem w_running : about1.status = .running := rfl
set_option maxRecDepth 65536 in
theorem w_room : about1.hasRoom e0.platform room_1 = true :=
  launch0.hasRoom_least _ room_1 (by decide +kernel) (by decide +kernel) (by decide +kernel) (by decide +kernel) (by decide +kernel) (by decide +kernel)
theorem allAtoms_all (ts : List Jvm.Cond) (a : Array Jvm.Value) (st : Jvm.State) : (allAtoms ts).before a st = ts.all (fun c => c.before a st) := by
  induction ts with
  | nil => rfl
  | cons c t ih =>
    show (Jvm.Cond.and c (allAtoms t)).before a st = _
    rw [Jvm.Cond.before_and, ih, List.all_cons]
def words1 : List Jvm.Cond := Jvm.Cond.code x code maxLocals ret :: tables_1
/-- a 'code' word, met by the world's own term for the bytes: nothing is compared byte by byte -/
theorem code_word {y : MethodName} {bytes : ByteArray} {mx : Nat} {rt : Option FieldType} {a : Array Value} {s : State} {m : MethodId} {meth : Method} {c : Code} (h1 : s.methodNamed? y = some m) (h2 : s.vm.method? m = some meth) (h3 : meth.code = some c) (h4 : c.code = bytes)
    (h5 : (c.maxLocals == mx && c.exceptionTable.isEmpty && decide (c.maxStack ≤ mostOperands) && decide (meth.sig.returnType = rt) && !meth.locks && decide (parseMethodDescriptor y.desc = some meth.sig)) = true) : (Jvm.Cond.code y bytes mx rt).before a s = true := by
  simp only [Bool.and_eq_true, beq_iff_eq, Bool.not_eq_true', decide_eq_true_eq] at h5
  obtain ⟨⟨⟨⟨⟨g1, g2⟩, g3⟩, g4⟩, g5⟩, g6⟩ := h5
  simp [Cond.before, Cond.holds, Cond.value, h1, h2, h3, h4, g1, g2, g3, g4, g5, g6]
def isCode : Jvm.Cond → Bool
  | .code _ _ _ _ => true
  | _ => false
theorem all_split {L : List Jvm.Cond} {P : Jvm.Cond → Bool} (h1 : L.all (fun c => isCode c || P c) = true) (h2 : ∀ c ∈ L.filter isCode, P c = true) : L.all P = true := by
  refine List.all_eq_true.mpr fun c hc => ?_
  have h := List.all_eq_true.mp h1 c hc
  rcases Bool.eq_false_or_eq_true (isCode c) with hi | hi
  · exact h2 c (List.mem_filter.mpr ⟨hc, hi⟩)
  · simpa [hi] using h
set_option maxRecDepth 65536 in
theorem w_c0 : (Jvm.Cond.code x code maxLocals ret).before args0 about1 = true := code_word (m := ⟨1, 1⟩) (meth := k1m1) (c := k1c1) (by decide +kernel) rfl rfl rfl (by decide +kernel)
set_option maxRecDepth 65536 in
theorem w_c1 : (Jvm.Cond.code ({ cls := "com/example/rowpath/rowpath/core/TierOfPinLaw", name := "expected", desc := "(ZZZ)Lcom/example/rowpath/rowpath/core/NodeMatch$Tier;" } : Jvm.MethodName) method_3_code (3 : Nat) (Option.some (Jvm.ClassFile.FieldType.object "com/example/rowpath/rowpath/core/NodeMatch$Tier"))).before args0 about1 = true := code_word (m := ⟨1, 2⟩) (meth := k1m2) (c := k1c2) (by decide +kernel) rfl rfl rfl (by decide +kernel)
set_option maxRecDepth 65536 in
theorem w_c2 : (Jvm.Cond.code ({ cls := "com/example/rowpath/rowpath/core/NodeMatch$Tier", name := "of", desc := "(ZZZ)Ljava/util/Optional;" } : Jvm.MethodName) prog_48_method_4_code (7 : Nat) (Option.some (Jvm.ClassFile.FieldType.object "java/util/Optional"))).before args0 about1 = true := code_word (m := ⟨6, 1⟩) (meth := k6m1) (c := k6c1) (by decide +kernel) rfl rfl rfl (by decide +kernel)
set_option maxRecDepth 65536 in
theorem w_c3 : (Jvm.Cond.code ({ cls := "com/example/rowpath/rowpath/core/NodeMatch$Tier", name := "values", desc := "()[Lcom/example/rowpath/rowpath/core/NodeMatch$Tier;" } : Jvm.MethodName) prog_48_method_1_code (0 : Nat) (Option.some (Jvm.ClassFile.FieldType.array (Jvm.ClassFile.FieldType.object "com/example/rowpath/rowpath/core/NodeMatch$Tier")))).before args0 about1 = true := code_word (m := ⟨6, 0⟩) (meth := k6m0) (c := k6c0) (by decide +kernel) rfl rfl rfl (by decide +kernel)
set_option maxRecDepth 65536 in
theorem w_c4 : (Jvm.Cond.code ({ cls := "java/util/Optional", name := "of", desc := "(Ljava/lang/Object;)Ljava/util/Optional;" } : Jvm.MethodName) jdk_32_method_3_code (1 : Nat) (Option.some (Jvm.ClassFile.FieldType.object "java/util/Optional"))).before args0 about1 = true := code_word (m := ⟨8, 2⟩) (meth := k8m2) (c := k8c2) (by decide +kernel) rfl rfl rfl (by decide +kernel)
set_option maxRecDepth 65536 in
theorem w_c5 : (Jvm.Cond.code ({ cls := "java/util/Objects", name := "requireNonNull", desc := "(Ljava/lang/Object;)Ljava/lang/Object;" } : Jvm.MethodName) jdk_31_method_10_code (1 : Nat) (Option.some (Jvm.ClassFile.FieldType.object "java/lang/Object"))).before args0 about1 = true := code_word (m := ⟨9, 1⟩) (meth := k9m1) (c := k9c1) (by decide +kernel) rfl rfl rfl (by decide +kernel)
set_option maxRecDepth 65536 in
theorem w_c6 : (Jvm.Cond.code ({ cls := "java/util/Optional", name := "<init>", desc := "(Ljava/lang/Object;)V" } : Jvm.MethodName) jdk_32_method_2_code (2 : Nat) (Option.none : Option Jvm.ClassFile.FieldType)).before args0 about1 = true := code_word (m := ⟨8, 1⟩) (meth := k8m1) (c := k8c1) (by decide +kernel) rfl rfl rfl (by decide +kernel)
set_option maxRecDepth 65536 in
theorem w_c7 : (Jvm.Cond.code ({ cls := "java/lang/Object", name := "<init>", desc := "()V" } : Jvm.MethodName) object_method_1_code (1 : Nat) (Option.none : Option Jvm.ClassFile.FieldType)).before args0 about1 = true := code_word (m := ⟨0, 0⟩) (meth := k0m0) (c := k0c0) (by decide +kernel) rfl rfl rfl (by decide +kernel)
set_option maxRecDepth 65536 in
theorem w_c8 : (Jvm.Cond.code ({ cls := "java/util/Optional", name := "isPresent", desc := "()Z" } : Jvm.MethodName) jdk_32_method_6_code (1 : Nat) (Option.some Jvm.ClassFile.FieldType.boolean)).before args0 about1 = true := code_word (m := ⟨8, 4⟩) (meth := k8m4) (c := k8c4) (by decide +kernel) rfl rfl rfl (by decide +kernel)
set_option maxRecDepth 65536 in
theorem w_c9 : (Jvm.Cond.code ({ cls := "java/util/Optional", name := "get", desc := "()Ljava/lang/Object;" } : Jvm.MethodName) jdk_32_method_5_code (1 : Nat) (Option.some (Jvm.ClassFile.FieldType.object "java/lang/Object"))).before args0 about1 = true := code_word (m := ⟨8, 3⟩) (meth := k8m3) (c := k8c3) (by decide +kernel) rfl rfl rfl (by decide +kernel)
set_option maxRecDepth 65536 in
theorem w_c10 : (Jvm.Cond.code ({ cls := "java/util/Optional", name := "empty", desc := "()Ljava/util/Optional;" } : Jvm.MethodName) jdk_32_method_1_code (1 : Nat) (Option.some (Jvm.ClassFile.FieldType.object "java/util/Optional"))).before args0 about1 = true := code_word (m := ⟨8, 0⟩) (meth := k8m0) (c := k8c0) (by decide +kernel) rfl rfl rfl (by decide +kernel)
def codes1 : List Jvm.Cond := [Jvm.Cond.code x code maxLocals ret, Jvm.Cond.code ({ cls := "com/example/rowpath/rowpath/core/TierOfPinLaw", name := "expected", desc := "(ZZZ)Lcom/example/rowpath/rowpath/core/NodeMatch$Tier;" } : Jvm.MethodName) method_3_code (3 : Nat) (Option.some (Jvm.ClassFile.FieldType.object "com/example/rowpath/rowpath/core/NodeMatch$Tier")), Jvm.Cond.code ({ cls := "com/example/rowpath/rowpath/core/NodeMatch$Tier", name := "of", desc := "(ZZZ)Ljava/util/Optional;" } : Jvm.MethodName) prog_48_method_4_code (7 : Nat) (Option.some (Jvm.ClassFile.FieldType.object "java/util/Optional")), Jvm.Cond.code ({ cls := "com/example/rowpath/rowpath/core/NodeMatch$Tier", name := "values", desc := "()[Lcom/example/rowpath/rowpath/core/NodeMatch$Tier;" } : Jvm.MethodName) prog_48_method_1_code (0 : Nat) (Option.some (Jvm.ClassFile.FieldType.array (Jvm.ClassFile.FieldType.object "com/example/rowpath/rowpath/core/NodeMatch$Tier"))), Jvm.Cond.code ({ cls := "java/util/Optional", name := "of", desc := "(Ljava/lang/Object;)Ljava/util/Optional;" } : Jvm.MethodName) jdk_32_method_3_code (1 : Nat) (Option.some (Jvm.ClassFile.FieldType.object "java/util/Optional")), Jvm.Cond.code ({ cls := "java/util/Objects", name := "requireNonNull", desc := "(Ljava/lang/Object;)Ljava/lang/Object;" } : Jvm.MethodName) jdk_31_method_10_code (1 : Nat) (Option.some (Jvm.ClassFile.FieldType.object "java/lang/Object")), Jvm.Cond.code ({ cls := "java/util/Optional", name := "<init>", desc := "(Ljava/lang/Object;)V" } : Jvm.MethodName) jdk_32_method_2_code (2 : Nat) (Option.none : Option Jvm.ClassFile.FieldType), Jvm.Cond.code ({ cls := "java/lang/Object", name := "<init>", desc := "()V" } : Jvm.MethodName) object_method_1_code (1 : Nat) (Option.none : Option Jvm.ClassFile.FieldType), Jvm.Cond.code ({ cls := "java/util/Optional", name := "isPresent", desc := "()Z" } : Jvm.MethodName) jdk_32_method_6_code (1 : Nat) (Option.some Jvm.ClassFile.FieldType.boolean), Jvm.Cond.code ({ cls := "java/util/Optional", name := "get", desc := "()Ljava/lang/Object;" } : Jvm.MethodName) jdk_32_method_5_code (1 : Nat) (Option.some (Jvm.ClassFile.FieldType.object "java/lang/Object")), Jvm.Cond.code ({ cls := "java/util/Optional", name := "empty", desc := "()Ljava/util/Optional;" } : Jvm.MethodName) jdk_32_method_1_code (1 : Nat) (Option.some (Jvm.ClassFile.FieldType.object "java/util/Optional"))]
set_option maxRecDepth 65536 in
theorem codes_eq : words1.filter isCode = codes1 := rfl
theorem w_codes : ∀ c ∈ words1.filter isCode, c.before args0 about1 = true := by
  rw [codes_eq]
  intro c hc
  simp only [codes1, List.mem_cons, List.not_mem_nil, or_false] at hc
  rcases hc with rfl | rfl | rfl | rfl | rfl | rfl | rfl | rfl | rfl | rfl | rfl
  · exact w_c0
  · exact w_c1
  · exact w_c2
  · exact w_c3
  · exact w_c4
  · exact w_c5
  · exact w_c6
  · exact w_c7
  · exact w_c8
  · exact w_c9
  · exact w_c10
set_option maxRecDepth 65536 in
theorem w_t1 : (words1.take 24).all (fun c => isCode c || c.before args0 about1) = true := by decide +kernel
set_option maxRecDepth 65536 in
theorem w_t2 : ((words1.drop 24).take 24).all (fun c => isCode c || c.before args0 about1) = true := by decide +kernel
set_option maxRecDepth 65536 in
theorem w_t3 : (((words1.drop 24).drop 24).take 24).all (fun c => isCode c || c.before args0 about1) = true := by decide +kernel
set_option maxRecDepth 65536 in
theorem w_t4 : (((words1.drop 24).drop 24).drop 24).all (fun c => isCode c || c.before args0 about1) = true := by decide +kernel
theorem w_tables : (allAtoms (Jvm.Cond.code x code maxLocals ret :: tables_1)).before args0 about1 = true := by
  rw [allAtoms_all]
  show words1.all (fun c => c.before args0 about1) = true
  refine all_split ?_ w_codes
  rw [← List.take_append_drop 24 words1, List.all_append, w_t1, ← List.take_append_drop 24 (words1.drop 24), List.all_append, w_t2, ← List.take_append_drop 24 ((words1.drop 24).drop 24), List.all_append, w_t3, w_t4]
  rfl
set_option maxRecDepth 65536 in
theorem w_rest : rest_1_c.before args0 about1 = true := by decide +kernel
set_option maxRecDepth 65536 in
theorem w_case : (Jvm.Cond.and given_1 narrow_1).before args0 about1 = true := by decide +kernel
theorem w_applies : (headSpec (Jvm.Cond.code x code maxLocals ret :: tables_1) room_1).applies x e0.platform about1 = true :=
  (Spec.applies_iff w_frames).mpr ⟨w_running, w_runnable, w_alone, w_named, w_hears, w_ripe, w_room, w_tables⟩
theorem atStart : AtStart classFile x code maxLocals ret World_1 tables_1 room_1 Calls_1 rest_1 Pre_1 launch0 p0 e0 about1 theMethod args0 below0 :=
  ⟨lists_1, trivial, launch0.admits_env _ _ _, launch0.least_env, fairChoices_fair.cas, fairChoices_fair.clock, w_frames, w_args, w_heap, w_applies, trivial, w_rest, w_case⟩
end start1
theorem witness_1 : WitnessClaimed_1 := ⟨start1.p0, start1.e0, start1.about1, start1.theMethod, start1.args0, start1.below0, start1.atStart⟩
end Jvm.Pilot.@@N@@
