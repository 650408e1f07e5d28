import JvmDerived
import JvmDerived.Pilot.@@N@@Statement
import JvmDerived.Pilot.@@N@@Code
set_option linter.unusedVariables false
set_option linter.unusedSimpArgs false
namespace Jvm.RoadKit
theorem Ext.refl (h : Heap) : Ext h h := ⟨Nat.le_refl _, fun _ _ q => q⟩
theorem Ext.trans {h h1 h2 : Heap} (A : Ext h h1) (B : Ext h1 h2) : Ext h h2 := ⟨Nat.le_trans A.1 B.1, fun a c q => B.2 a c (A.2 a c q)⟩
end Jvm.RoadKit
namespace Jvm.OwnKit
open Sem ClassFile Op Lib Jvm.Stand Jvm.Free Jvm.LawKit Jvm.RoadKit

/-- where the walk stands: the tables so far, nothing old written, the String constants held, the objects under construction -/
def St (p : Program) (l : Launch) (e : Env) (R : Room) (s : State) (m : MethodId) (args : Array Value) (below : List Frame) (meth : Method) (c : Code)
    (own : String) (bytes : ByteArray) (maxL : Nat) (ret : Option FieldType) (nm : String) (Z : State) (EL : List (String × Nat)) (nw : Bool) (us : List Addr)
    (T : State) (h : Heap) (cells slots : Nat) : Prop :=
  (p.tables.exec = Jvm.exec ∧ c.code = bytes ∧ c.maxLocals = maxL ∧ meth.sig.returnType = ret ∧ meth.name = nm ∧ meth.locks = false ∧ ∃ a0, EW Z a0 EL) ∧
  ∃ (vm0 : Vm) (locs : List Loc), Stand p l e R (s.setVm vm0) m args below meth c T locs cells slots ∧ Fr Z.heap.size locs ∧ T.heap = h ∧ s.Since vm0 h.size ∧
    Z.Warmed39 vm0 ∧ vm0.findClass own = some m.cls ∧ Ext Z.heap h ∧ CHr Z EL s.vm s.heap vm0 h ∧
    (∀ x ∈ us, Z.heap.size ≤ x ∧ x < h.size ∧ Safe Z EL vm0 h x) ∧ (nw = true → s.WarmedH vm0)

/-- from here the method returns, with Q of what it returns and of the heap it leaves -/
def Goes (p : Program) (e : Env) (below : List Frame) (s Z : State) (EL : List (String × Nat)) (nw : Bool) (Q : Option Value → Heap → Prop) (kk nn : Nat) (S : State) : Prop :=
  ∃ U o, Steps p.tables e below S U ∧ U.status = .running ∧ Ended U below o ∧ ∃ v L, o = .returned v ∧ Q v U.heap ∧ Fr Z.heap.size L ∧ Ext Z.heap U.heap ∧
    CHr Z EL s.vm s.heap U.vm U.heap ∧ ReturnedEndW s o U L kk nn ∧ (nw = true → s.WarmedH U.vm)

/-- the contract of a method for the arguments as' at the heap h -/
def Ctr (l : Launch) (Z : State) (EL : List (String × Nat)) (nw : Bool) (y : MethodName) (bytes : ByteArray) (maxL : Nat) (ret : Option FieldType) (rm : Room) (as' : Array Value) (h : Heap) (us : List Addr)
    (Q : Option Value → Heap → Prop) : Prop :=
  ∀ ws : List Jvm.Cond, MetFree l y (head1 (Jvm.Cond.code y bytes maxL ret :: ws) rm)
    (fun a U => a = as' ∧ Z.Warmed39 U.vm ∧ U.heap = h ∧ Ext Z.heap h ∧ CHv Z EL U.vm h ∧ ∀ x ∈ us, Z.heap.size ≤ x ∧ x < h.size ∧ Safe Z EL U.vm h x)
    (fun _ _ _ _ _ => True)
    (fun _ U o U' => ∃ v L, o = .returned v ∧ Q v U'.heap ∧ Fr Z.heap.size L ∧ Ext Z.heap U'.heap ∧ CHr Z EL U.vm U.heap U'.vm U'.heap ∧ ReturnedEndW U o U' L rm.cells rm.slots ∧ (nw = true → U.WarmedH U'.vm))

def PureQ (h : Heap) (Qv : Value → Prop) : Option Value → Heap → Prop := fun v h' => h' = h ∧ ∃ w, v = some w ∧ Qv w
def ValQ (Qv : Value → Heap → Prop) : Option Value → Heap → Prop := fun v h' => ∃ w, v = some w ∧ Qv w h'
def VoidQ (Qn : Heap → Prop) : Option Value → Heap → Prop := fun v h' => v = none ∧ Qn h'
section Base
variable {p : Program} {l : Launch} {e : Env} {R : Room} {s : State} {m : MethodId} {args : Array Value} {below : List Frame} {meth : Method} {c : Code}
  {own : String} {bytes : ByteArray} {maxL : Nat} {ret : Option FieldType} {nm : String} {Z : State} {EL : List (String × Nat)} {nw : Bool} {us : List Addr}
  {T : State} {h : Heap} {cells slots : Nat} {Q : Option Value → Heap → Prop} {kk nn : Nat} {a0 : Array Value}

theorem ext_keep {h h1 h2 : Heap} {ws : List Addr} (A : Ext h h1) (K : Keep h1 h2 ws) (q : ∀ x ∈ ws, h.size ≤ x) : Ext h h2 :=
  ⟨Nat.le_trans A.1 K.1, fun a c r => K.2.1 a c (A.2 a c r) fun z => absurd (Array.getElem?_eq_some_iff.mp r).1 (Nat.not_lt.mpr (q a z))⟩
theorem ext_wr {h h1 h2 : Heap} {a : Addr} {sl : Nat} {v : Value} (A : Ext h h1) (W : Wr h1 h2 a sl v) (q : h.size ≤ a) : Ext h h2 :=
  ext_keep A (Keep.of_wr W) (fun x hx => by cases List.mem_singleton.mp hx; exact q)
theorem nar_mask (x : Int32) : nar .char (x &&& 255) = x &&& 255 := i2c_mask x
theorem ref_nar {v : Value} {t : FieldType} (h : v.isRef = true) (ht : t.isReference = true) : narrow t v = v := by
  rcases ref_cases h with rfl | ⟨a, rfl⟩ <;> cases t <;> first | rfl | simp [FieldType.isReference] at ht
theorem ref_fit {v : Value} {t : FieldType} (h : v.isRef = true) (ht : t.isReference = true) : fits t v = true := by
  rcases ref_cases h with rfl | ⟨a, rfl⟩ <;> cases t <;> first | rfl | simp [FieldType.isReference] at ht
theorem Sta.keepN {h1 h2 : Heap} {C n d : String} {v : Value} {ws : List Addr} (F : Sta Z Z.heap C n d v) (E : Ext Z.heap h2) : Sta Z h2 C n d v := Sta.ext E F

theorem St.at (X : St p l e R s m args below meth c own bytes maxL ret nm Z EL nw us T h cells slots) : At T m c below := by obtain ⟨-, _, _, Y, -⟩ := X; exact Y.here
theorem St.std (X : St p l e R s m args below meth c own bytes maxL ret nm Z EL nw us T h cells slots) : ∃ vm0 locs, Stand p l e R (s.setVm vm0) m args below meth c T locs cells slots := by obtain ⟨-, vm0, locs, Y, -⟩ := X; exact ⟨vm0, locs, Y⟩
theorem St.hx (X : St p l e R s m args below meth c own bytes maxL ret nm Z EL nw us T h cells slots) : p.tables.exec = Jvm.exec := X.1.1
theorem St.by (X : St p l e R s m args below meth c own bytes maxL ret nm Z EL nw us T h cells slots) : c.code = bytes := X.1.2.1
theorem St.old (X : St p l e R s m args below meth c own bytes maxL ret nm Z EL nw us T h cells slots) : Ext Z.heap h := by obtain ⟨-, _, _, -, -, -, -, -, -, q, -⟩ := X; exact q
theorem St.new (X : St p l e R s m args below meth c own bytes maxL ret nm Z EL nw us T h cells slots) {x : Addr} (hx : x ∈ us) : Z.heap.size ≤ x ∧ x < h.size := by
  obtain ⟨-, _, _, -, -, -, -, -, -, -, -, q, -⟩ := X; exact ⟨(q x hx).1, (q x hx).2.1⟩
theorem St.mono (X : St p l e R s m args below meth c own bytes maxL ret nm Z EL nw us T h cells slots) {cells' slots' : Nat} (hc : cells ≤ cells') (hs : slots ≤ slots') : St p l e R s m args below meth c own bytes maxL ret nm Z EL nw us T h cells' slots' := by
  obtain ⟨cx, vm0, locs, Y, r⟩ := X
  exact ⟨cx, vm0, locs, Y.mono hc hs, r⟩
theorem St.sub (X : St p l e R s m args below meth c own bytes maxL ret nm Z EL nw us T h cells slots) {us' : List Addr} (q : ∀ x ∈ us', x ∈ us) : St p l e R s m args below meth c own bytes maxL ret nm Z EL nw us' T h cells slots := by
  obtain ⟨cx, vm0, locs, Y, r1, r2, r3, r4, r5, r6, r7, r8, r9⟩ := X
  exact ⟨cx, vm0, locs, Y, r1, r2, r3, r4, r5, r6, r7, fun x hx => r8 x (q x hx), r9⟩

theorem Goes.step {S S' : State} (f : ∀ t, Steps p.tables e below S' t → Steps p.tables e below S t) (K : Goes p e below s Z EL nw Q kk nn S') : Goes p e below s Z EL nw Q kk nn S := by
  obtain ⟨U, o, hs, r⟩ := K; exact ⟨U, o, f _ hs, r⟩
theorem Goes.imp {Q' : Option Value → Heap → Prop} {S : State} (f : ∀ v h, Q v h → Q' v h) (K : Goes p e below s Z EL nw Q kk nn S) : Goes p e below s Z EL nw Q' kk nn S := by
  obtain ⟨U, o, h1, h2, h3, v, L, h4, h5, r⟩ := K; exact ⟨U, o, h1, h2, h3, v, L, h4, f _ _ h5, r⟩

/-- entering a method -/
theorem Ctr.enter {y : MethodName} {rm : Room} {as' : Array Value} (h1 : y.cls = own) (h2 : y.name = nm) (hEL : EW Z a0 EL) (hn : plainFor y = true) (Ls : Array Slot) (ef : ∀ m, entryFrame m as' maxL = mkF m 0 Ls [])
    (body : ∀ (p : Program) (e : Env) (s : State) (m : MethodId) (below : List Frame) (meth : Method) (c : Code) (T : State),
      St p l e rm s m as' below meth c own bytes maxL ret nm Z EL nw us T h 0 0 → Goes p e below s Z EL nw Q rm.cells rm.slots (T.setTop (mkF m 0 Ls []))) :
    Ctr l Z EL nw y bytes maxL ret rm as' h us Q := by
  subst h1 h2
  intro ws
  refine MetFree.of_bodySF hn hisR ?_
  intro p e s m args below meth c s₁ Bd hml0 hP _
  obtain ⟨rfl, hZ, hh, hE, hC, hU⟩ := hP
  have hnm := (name_of_methodNamed Bd.named Bd.method).1
  have hown : s.vm.findClass y.cls = some m.cls := findClass_of_methodNamed Bd.named
  have e0 : s₁.heap = h := by rw [← hh, Bd.state]; rfl
  have X0 : Stand p l e rm (s.setVm s.vm) m args below meth c s₁ [] 0 0 := Stand.of_body Bd
  have X : St p l e rm s m args below meth c y.cls bytes maxL ret y.name Z EL nw us s₁ h 0 0 :=
    ⟨⟨Bd.exec, Bd.bytes, hml0, Bd.returns, hnm, Bd.notSynchronized, a0, hEL⟩, s.vm, [], X0, Fr.nil _, e0, (State.WarmedH.refl s).since _, hZ, hown, hE, by rw [hh]; exact CHr.refl hC, hU, fun _ => State.WarmedH.refl s⟩
  obtain ⟨U, o, h1, h2, h3, h4⟩ := body p e s m below meth c s₁ X
  refine ⟨U, o, ?_, h2, h3, h4⟩
  rw [ef m]; exact h1

theorem leave0 (X : St p l e R s m args below meth c own bytes maxL ret nm Z EL nw us T h cells slots) {v : Option Value} (hv : ret = none → v = none) (hc : cells ≤ kk) (hn : slots ≤ nn) (hQ : Q v h)
    {S : State} (f : ∀ fs, (∀ (f : JFrame) (acts : List Action), f.method = m → f.locked = none → f.entered = [] → (doReturn e (T.setTop f) acts v).1 = T.setFrames fs) → Steps p.tables e below S (T.setFrames fs)) :
    Goes p e below s Z EL nw Q kk nn S := by
  obtain ⟨⟨h1, h2, h3, h4, h5, h6, a0', hEL⟩, vm0, locs, Y, N, eT, hS, hZ, hown, hE, hC, hU, hW⟩ := X
  have Y' := Y.mono hc hn
  obtain ⟨fs, g1, g2, g3, g4⟩ := Y'.leaveW hS (Nat.le_of_eq (by rw [eT])) (v := v) (fun q => hv (h4 ▸ q)) h6
  have hal : CHr Z EL s.vm s.heap (T.setFrames fs).vm (T.setFrames fs).heap := by
    show CHr Z EL s.vm s.heap T.vm T.heap
    rw [eT]
    exact hC.trans (CHv.at Y hZ hEL hC.1)
  exact ⟨_, _, f fs g1, g2, g3, v, locs, rfl, by show Q v T.heap; rw [eT]; exact hQ, N, by show Ext Z.heap T.heap; rw [eT]; exact hE, hal, g4, fun q => State.WarmedH.trans (t := s.setVm vm0) (hW q) Y.warmed⟩
end Base
section Ops
variable {p : Program} {l : Launch} {e : Env} {R : Room} {s : State} {m : MethodId} {args : Array Value} {below : List Frame} {meth : Method} {c : Code}
  {own : String} {bytes : ByteArray} {maxL : Nat} {ret : Option FieldType} {nm : String} {Z : State} {EL : List (String × Nat)} {nw : Bool} {us : List Addr}
  {T : State} {h : Heap} {cells slots : Nat} {Q : Option Value → Heap → Prop} {kk nn : Nat} {a0 : Array Value} {pc : Nat} {Ls : Array Slot} {st : List Value}
theorem g_aload (X : St p l e R s m args below meth c own bytes maxL ret nm Z EL nw us T h cells slots) {k : Nat} {v : Value} (hd : decode bytes pc = .ok (.aload k, 2)) (hl : Ls[k]? = some (.val v)) (hv : v.isRef = true) (pc' : Nat) (hp : pc + 2 = pc')
    (K : Goes p e below s Z EL nw Q kk nn (T.setTop (mkF m pc' Ls (v :: st)))) : Goes p e below s Z EL nw Q kk nn (T.setTop (mkF m pc Ls (st))) := by
  subst hp
  exact K.step fun t k => XS.aload X.at X.hx rfl (hb X.by hd) hl hv k

theorem g_aloadN (X : St p l e R s m args below meth c own bytes maxL ret nm Z EL nw us T h cells slots) {k : Fin 4} {v : Value} (hd : decode bytes pc = .ok (.aload_n k, 1)) (hl : Ls[k.val]? = some (.val v)) (hv : v.isRef = true) (pc' : Nat) (hp : pc + 1 = pc')
    (K : Goes p e below s Z EL nw Q kk nn (T.setTop (mkF m pc' Ls (v :: st)))) : Goes p e below s Z EL nw Q kk nn (T.setTop (mkF m pc Ls (st))) := by
  subst hp
  exact K.step fun t k => XS.aloadN X.at X.hx rfl (hb X.by hd) hl hv k

theorem g_iload (X : St p l e R s m args below meth c own bytes maxL ret nm Z EL nw us T h cells slots) {k : Nat} {v : Int32} (hd : decode bytes pc = .ok (.iload k, 2)) (hl : Ls[k]? = some (.val (.int v))) (pc' : Nat) (hp : pc + 2 = pc')
    (K : Goes p e below s Z EL nw Q kk nn (T.setTop (mkF m pc' Ls (.int v :: st)))) : Goes p e below s Z EL nw Q kk nn (T.setTop (mkF m pc Ls (st))) := by
  subst hp
  exact K.step fun t k => XS.iload X.at X.hx rfl (hb X.by hd) hl k

theorem g_iloadN (X : St p l e R s m args below meth c own bytes maxL ret nm Z EL nw us T h cells slots) {k : Fin 4} {v : Int32} (hd : decode bytes pc = .ok (.iload_n k, 1)) (hl : Ls[k.val]? = some (.val (.int v))) (pc' : Nat) (hp : pc + 1 = pc')
    (K : Goes p e below s Z EL nw Q kk nn (T.setTop (mkF m pc' Ls (.int v :: st)))) : Goes p e below s Z EL nw Q kk nn (T.setTop (mkF m pc Ls (st))) := by
  subst hp
  exact K.step fun t k => XS.iloadN X.at X.hx rfl (hb X.by hd) hl k

theorem g_istore (X : St p l e R s m args below meth c own bytes maxL ret nm Z EL nw us T h cells slots) {k : Nat} {x : Int32} {Ls' : Array Slot} (hd : decode bytes pc = .ok (.istore k, 2)) (hl : storeLocals Ls k (.int x) = some Ls') (pc' : Nat) (hp : pc + 2 = pc')
    (K : Goes p e below s Z EL nw Q kk nn (T.setTop (mkF m pc' Ls' (st)))) : Goes p e below s Z EL nw Q kk nn (T.setTop (mkF m pc Ls (.int x :: st))) := by
  subst hp
  exact K.step fun t k => XS.istore X.at X.hx rfl (hb X.by hd) rfl hl k

theorem g_istoreN (X : St p l e R s m args below meth c own bytes maxL ret nm Z EL nw us T h cells slots) {k : Fin 4} {x : Int32} {Ls' : Array Slot} (hd : decode bytes pc = .ok (.istore_n k, 1)) (hl : storeLocals Ls k.val (.int x) = some Ls') (pc' : Nat) (hp : pc + 1 = pc')
    (K : Goes p e below s Z EL nw Q kk nn (T.setTop (mkF m pc' Ls' (st)))) : Goes p e below s Z EL nw Q kk nn (T.setTop (mkF m pc Ls (.int x :: st))) := by
  subst hp
  exact K.step fun t k => XS.istoreN X.at X.hx rfl (hb X.by hd) rfl hl k

theorem g_astore (X : St p l e R s m args below meth c own bytes maxL ret nm Z EL nw us T h cells slots) {k : Nat} {x : Value} {Ls' : Array Slot} (hd : decode bytes pc = .ok (.astore k, 2)) (hv : x.isRef = true) (hl : storeLocals Ls k x = some Ls') (pc' : Nat) (hp : pc + 2 = pc')
    (K : Goes p e below s Z EL nw Q kk nn (T.setTop (mkF m pc' Ls' (st)))) : Goes p e below s Z EL nw Q kk nn (T.setTop (mkF m pc Ls (x :: st))) := by
  subst hp
  exact K.step fun t k => XS.astore X.at X.hx rfl (hb X.by hd) rfl hv hl k

theorem g_astoreN (X : St p l e R s m args below meth c own bytes maxL ret nm Z EL nw us T h cells slots) {k : Fin 4} {x : Value} {Ls' : Array Slot} (hd : decode bytes pc = .ok (.astore_n k, 1)) (hv : x.isRef = true) (hl : storeLocals Ls k.val x = some Ls') (pc' : Nat) (hp : pc + 1 = pc')
    (K : Goes p e below s Z EL nw Q kk nn (T.setTop (mkF m pc' Ls' (st)))) : Goes p e below s Z EL nw Q kk nn (T.setTop (mkF m pc Ls (x :: st))) := by
  subst hp
  exact K.step fun t k => XS.astoreN X.at X.hx rfl (hb X.by hd) rfl hv hl k

theorem g_iconst (X : St p l e R s m args below meth c own bytes maxL ret nm Z EL nw us T h cells slots) {i : Int} (w : Int32) (hd : decode bytes pc = .ok (.iconst i, 1)) (hw : Int32.ofInt i = w) (pc' : Nat) (hp : pc + 1 = pc')
    (K : Goes p e below s Z EL nw Q kk nn (T.setTop (mkF m pc' Ls (.int w :: st)))) : Goes p e below s Z EL nw Q kk nn (T.setTop (mkF m pc Ls (st))) := by
  subst hp
  exact K.step fun t k => XS.iconst X.at X.hx rfl (hb X.by hd) (by rw [hw]; exact k)

theorem g_bipush (X : St p l e R s m args below meth c own bytes maxL ret nm Z EL nw us T h cells slots) {i : Int} (w : Int32) (hd : decode bytes pc = .ok (.bipush i, 2)) (hw : (Int8.ofInt i).toInt32 = w) (pc' : Nat) (hp : pc + 2 = pc')
    (K : Goes p e below s Z EL nw Q kk nn (T.setTop (mkF m pc' Ls (.int w :: st)))) : Goes p e below s Z EL nw Q kk nn (T.setTop (mkF m pc Ls (st))) := by
  subst hp
  exact K.step fun t k => XS.bipush X.at X.hx rfl (hb X.by hd) (by rw [hw]; exact k)

theorem g_sipush (X : St p l e R s m args below meth c own bytes maxL ret nm Z EL nw us T h cells slots) {i : Int} (w : Int32) (hd : decode bytes pc = .ok (.sipush i, 3)) (hw : (Int16.ofInt i).toInt32 = w) (pc' : Nat) (hp : pc + 3 = pc')
    (K : Goes p e below s Z EL nw Q kk nn (T.setTop (mkF m pc' Ls (.int w :: st)))) : Goes p e below s Z EL nw Q kk nn (T.setTop (mkF m pc Ls (st))) := by
  subst hp
  exact K.step fun t k => XS.sipush X.at X.hx rfl (hb X.by hd) (by rw [hw]; exact k)

theorem g_aconstNull (X : St p l e R s m args below meth c own bytes maxL ret nm Z EL nw us T h cells slots)  (hd : decode bytes pc = .ok (.aconst_null, 1))  (pc' : Nat) (hp : pc + 1 = pc')
    (K : Goes p e below s Z EL nw Q kk nn (T.setTop (mkF m pc' Ls (.null :: st)))) : Goes p e below s Z EL nw Q kk nn (T.setTop (mkF m pc Ls (st))) := by
  subst hp
  exact K.step fun t k => XS.aconstNull X.at X.hx rfl (hb X.by hd) k

theorem g_iadd (X : St p l e R s m args below meth c own bytes maxL ret nm Z EL nw us T h cells slots) {x y : Int32} (hd : decode bytes pc = .ok (.iadd, 1)) (w : Int32) (hw : x + y = w) (pc' : Nat) (hp : pc + 1 = pc')
    (K : Goes p e below s Z EL nw Q kk nn (T.setTop (mkF m pc' Ls (.int w :: st)))) : Goes p e below s Z EL nw Q kk nn (T.setTop (mkF m pc Ls (.int y :: .int x :: st))) := by
  subst hp
  exact K.step fun t k => XS.iadd X.at X.hx rfl (hb X.by hd) rfl (by rw [hw]; exact k)

theorem g_isub (X : St p l e R s m args below meth c own bytes maxL ret nm Z EL nw us T h cells slots) {x y : Int32} (hd : decode bytes pc = .ok (.isub, 1)) (w : Int32) (hw : x - y = w) (pc' : Nat) (hp : pc + 1 = pc')
    (K : Goes p e below s Z EL nw Q kk nn (T.setTop (mkF m pc' Ls (.int w :: st)))) : Goes p e below s Z EL nw Q kk nn (T.setTop (mkF m pc Ls (.int y :: .int x :: st))) := by
  subst hp
  exact K.step fun t k => XS.isub X.at X.hx rfl (hb X.by hd) rfl (by rw [hw]; exact k)

theorem g_iand (X : St p l e R s m args below meth c own bytes maxL ret nm Z EL nw us T h cells slots) {x y : Int32} (hd : decode bytes pc = .ok (.iand, 1)) (w : Int32) (hw : x &&& y = w) (pc' : Nat) (hp : pc + 1 = pc')
    (K : Goes p e below s Z EL nw Q kk nn (T.setTop (mkF m pc' Ls (.int w :: st)))) : Goes p e below s Z EL nw Q kk nn (T.setTop (mkF m pc Ls (.int y :: .int x :: st))) := by
  subst hp
  exact K.step fun t k => XS.iand X.at X.hx rfl (hb X.by hd) rfl (by rw [hw]; exact k)

theorem g_imul (X : St p l e R s m args below meth c own bytes maxL ret nm Z EL nw us T h cells slots) {x y : Int32} (hd : decode bytes pc = .ok (.imul, 1)) (w : Int32) (hw : x * y = w) (pc' : Nat) (hp : pc + 1 = pc')
    (K : Goes p e below s Z EL nw Q kk nn (T.setTop (mkF m pc' Ls (.int w :: st)))) : Goes p e below s Z EL nw Q kk nn (T.setTop (mkF m pc Ls (.int y :: .int x :: st))) := by
  subst hp
  exact K.step fun t k => XS.imul X.at X.hx rfl (hb X.by hd) rfl (by rw [hw]; exact k)

theorem g_ixor (X : St p l e R s m args below meth c own bytes maxL ret nm Z EL nw us T h cells slots) {x y : Int32} (hd : decode bytes pc = .ok (.ixor, 1)) (w : Int32) (hw : x ^^^ y = w) (pc' : Nat) (hp : pc + 1 = pc')
    (K : Goes p e below s Z EL nw Q kk nn (T.setTop (mkF m pc' Ls (.int w :: st)))) : Goes p e below s Z EL nw Q kk nn (T.setTop (mkF m pc Ls (.int y :: .int x :: st))) := by
  subst hp
  exact K.step fun t k => XT.ixor X.at X.hx rfl (hb X.by hd) rfl (by rw [hw]; exact k)

theorem g_ior (X : St p l e R s m args below meth c own bytes maxL ret nm Z EL nw us T h cells slots) {x y : Int32} (hd : decode bytes pc = .ok (.ior, 1)) (w : Int32) (hw : x ||| y = w) (pc' : Nat) (hp : pc + 1 = pc')
    (K : Goes p e below s Z EL nw Q kk nn (T.setTop (mkF m pc' Ls (.int w :: st)))) : Goes p e below s Z EL nw Q kk nn (T.setTop (mkF m pc Ls (.int y :: .int x :: st))) := by
  subst hp
  exact K.step fun t k => XT.ior X.at X.hx rfl (hb X.by hd) rfl (by rw [hw]; exact k)

theorem g_irem (X : St p l e R s m args below meth c own bytes maxL ret nm Z EL nw us T h cells slots) {x y : Int32} (hd : decode bytes pc = .ok (.irem, 1)) (hy : y ≠ 0) (w : Int32) (hw : x % y = w) (pc' : Nat) (hp : pc + 1 = pc')
    (K : Goes p e below s Z EL nw Q kk nn (T.setTop (mkF m pc' Ls (.int w :: st)))) : Goes p e below s Z EL nw Q kk nn (T.setTop (mkF m pc Ls (.int y :: .int x :: st))) := by
  subst hp hw
  obtain ⟨vm0, locs, Y⟩ := X.std
  exact K.step fun t k => iremM Y X.hx rfl (hb X.by hd) rfl hy k

theorem g_idiv (X : St p l e R s m args below meth c own bytes maxL ret nm Z EL nw us T h cells slots) {x y : Int32} (hd : decode bytes pc = .ok (.idiv, 1)) (hy : y ≠ 0) (w : Int32) (hw : x / y = w) (pc' : Nat) (hp : pc + 1 = pc')
    (K : Goes p e below s Z EL nw Q kk nn (T.setTop (mkF m pc' Ls (.int w :: st)))) : Goes p e below s Z EL nw Q kk nn (T.setTop (mkF m pc Ls (.int y :: .int x :: st))) := by
  subst hp
  exact K.step fun t k => XS.idiv X.at X.hx rfl (hb X.by hd) rfl hy (by rw [hw]; exact k)

theorem g_ineg (X : St p l e R s m args below meth c own bytes maxL ret nm Z EL nw us T h cells slots) {x : Int32} (hd : decode bytes pc = .ok (.ineg, 1)) (w : Int32) (hw : -x = w) (pc' : Nat) (hp : pc + 1 = pc')
    (K : Goes p e below s Z EL nw Q kk nn (T.setTop (mkF m pc' Ls (.int w :: st)))) : Goes p e below s Z EL nw Q kk nn (T.setTop (mkF m pc Ls (.int x :: st))) := by
  subst hp
  exact K.step fun t k => XS.ineg X.at X.hx rfl (hb X.by hd) rfl (by rw [hw]; exact k)

theorem g_iushr (X : St p l e R s m args below meth c own bytes maxL ret nm Z EL nw us T h cells slots) {x y : Int32} (hd : decode bytes pc = .ok (.iushr, 1)) (w : Int32) (hw : XT.ushr x y = w) (pc' : Nat) (hp : pc + 1 = pc')
    (K : Goes p e below s Z EL nw Q kk nn (T.setTop (mkF m pc' Ls (.int w :: st)))) : Goes p e below s Z EL nw Q kk nn (T.setTop (mkF m pc Ls (.int y :: .int x :: st))) := by
  subst hp
  exact K.step fun t k => XT.iushr X.at X.hx rfl (hb X.by hd) rfl (by rw [hw]; exact k)

theorem g_ishr (X : St p l e R s m args below meth c own bytes maxL ret nm Z EL nw us T h cells slots) {x y : Int32} (hd : decode bytes pc = .ok (.ishr, 1)) (w : Int32) (hw : x >>> (y &&& 31) = w) (pc' : Nat) (hp : pc + 1 = pc')
    (K : Goes p e below s Z EL nw Q kk nn (T.setTop (mkF m pc' Ls (.int w :: st)))) : Goes p e below s Z EL nw Q kk nn (T.setTop (mkF m pc Ls (.int y :: .int x :: st))) := by
  subst hp
  exact K.step fun t k => XT.ishr X.at X.hx rfl (hb X.by hd) rfl (by rw [hw]; exact k)

theorem g_ishl (X : St p l e R s m args below meth c own bytes maxL ret nm Z EL nw us T h cells slots) {x y : Int32} (hd : decode bytes pc = .ok (.ishl, 1)) (w : Int32) (hw : x <<< (y &&& 31) = w) (pc' : Nat) (hp : pc + 1 = pc')
    (K : Goes p e below s Z EL nw Q kk nn (T.setTop (mkF m pc' Ls (.int w :: st)))) : Goes p e below s Z EL nw Q kk nn (T.setTop (mkF m pc Ls (.int y :: .int x :: st))) := by
  subst hp
  exact K.step fun t k => XT.ishl X.at X.hx rfl (hb X.by hd) rfl (by rw [hw]; exact k)

theorem g_i2c (X : St p l e R s m args below meth c own bytes maxL ret nm Z EL nw us T h cells slots) {x : Int32} (hd : decode bytes pc = .ok (.i2c, 1)) (w : Int32) (hw : x.toUInt32.toUInt16.toUInt32.toInt32 = w) (pc' : Nat) (hp : pc + 1 = pc')
    (K : Goes p e below s Z EL nw Q kk nn (T.setTop (mkF m pc' Ls (.int w :: st)))) : Goes p e below s Z EL nw Q kk nn (T.setTop (mkF m pc Ls (.int x :: st))) := by
  subst hp
  exact K.step fun t k => XT.i2c X.at X.hx rfl (hb X.by hd) rfl (by rw [hw]; exact k)

theorem g_i2b (X : St p l e R s m args below meth c own bytes maxL ret nm Z EL nw us T h cells slots) {x : Int32} (hd : decode bytes pc = .ok (.i2b, 1)) (w : Int32) (hw : x.toInt8.toInt32 = w) (pc' : Nat) (hp : pc + 1 = pc')
    (K : Goes p e below s Z EL nw Q kk nn (T.setTop (mkF m pc' Ls (.int w :: st)))) : Goes p e below s Z EL nw Q kk nn (T.setTop (mkF m pc Ls (.int x :: st))) := by
  subst hp
  exact K.step fun t k => XT.i2b X.at X.hx rfl (hb X.by hd) rfl (by rw [hw]; exact k)

theorem g_i2l (X : St p l e R s m args below meth c own bytes maxL ret nm Z EL nw us T h cells slots) {x : Int32} (hd : decode bytes pc = .ok (.i2l, 1)) (w : Int64) (hw : x.toInt64 = w) (pc' : Nat) (hp : pc + 1 = pc')
    (K : Goes p e below s Z EL nw Q kk nn (T.setTop (mkF m pc' Ls (.long w :: st)))) : Goes p e below s Z EL nw Q kk nn (T.setTop (mkF m pc Ls (.int x :: st))) := by
  subst hp
  exact K.step fun t k => XT.i2l X.at X.hx rfl (hb X.by hd) rfl (by rw [hw]; exact k)

theorem g_lsub (X : St p l e R s m args below meth c own bytes maxL ret nm Z EL nw us T h cells slots) {x y : Int64} (hd : decode bytes pc = .ok (.lsub, 1)) (w : Int64) (hw : x - y = w) (pc' : Nat) (hp : pc + 1 = pc')
    (K : Goes p e below s Z EL nw Q kk nn (T.setTop (mkF m pc' Ls (.long w :: st)))) : Goes p e below s Z EL nw Q kk nn (T.setTop (mkF m pc Ls (.long y :: .long x :: st))) := by
  subst hp
  exact K.step fun t k => XT.lsub X.at X.hx rfl (hb X.by hd) rfl (by rw [hw]; exact k)

theorem g_lcmp (X : St p l e R s m args below meth c own bytes maxL ret nm Z EL nw us T h cells slots) {x y : Int64} (hd : decode bytes pc = .ok (.lcmp, 1)) (w : Int32) (hw : XT.cmpL x y = w) (pc' : Nat) (hp : pc + 1 = pc')
    (K : Goes p e below s Z EL nw Q kk nn (T.setTop (mkF m pc' Ls (.int w :: st)))) : Goes p e below s Z EL nw Q kk nn (T.setTop (mkF m pc Ls (.long y :: .long x :: st))) := by
  subst hp
  exact K.step fun t k => XT.lcmp X.at X.hx rfl (hb X.by hd) rfl (by rw [hw]; exact k)

theorem g_dup (X : St p l e R s m args below meth c own bytes maxL ret nm Z EL nw us T h cells slots) {x : Value} (hd : decode bytes pc = .ok (.dup, 1)) (hc : x.category = 1) (pc' : Nat) (hp : pc + 1 = pc')
    (K : Goes p e below s Z EL nw Q kk nn (T.setTop (mkF m pc' Ls (x :: x :: st)))) : Goes p e below s Z EL nw Q kk nn (T.setTop (mkF m pc Ls (x :: st))) := by
  subst hp
  exact K.step fun t k => XS.dup X.at X.hx rfl (hb X.by hd) rfl hc k

theorem g_pop (X : St p l e R s m args below meth c own bytes maxL ret nm Z EL nw us T h cells slots) {x : Value} (hd : decode bytes pc = .ok (.pop, 1)) (hc : x.category = 1) (pc' : Nat) (hp : pc + 1 = pc')
    (K : Goes p e below s Z EL nw Q kk nn (T.setTop (mkF m pc' Ls (st)))) : Goes p e below s Z EL nw Q kk nn (T.setTop (mkF m pc Ls (x :: st))) := by
  subst hp
  exact K.step fun t k => XT.pop X.at X.hx rfl (hb X.by hd) rfl hc k

theorem g_iinc (X : St p l e R s m args below meth c own bytes maxL ret nm Z EL nw us T h cells slots) {k : Nat} {i : Int} {x : Int32} {Ls' : Array Slot} (hd : decode bytes pc = .ok (.iinc k i, 3)) (hl : Ls[k]? = some (.val (.int x))) (w : Int32) (hw : x + Int32.ofInt i = w) (hl' : storeLocals Ls k (.int w) = some Ls') (pc' : Nat) (hp : pc + 3 = pc')
    (K : Goes p e below s Z EL nw Q kk nn (T.setTop (mkF m pc' Ls' (st)))) : Goes p e below s Z EL nw Q kk nn (T.setTop (mkF m pc Ls (st))) := by
  subst hp
  exact K.step fun t k => XS.iinc X.at X.hx rfl (hb X.by hd) hl (by rw [hw]; exact hl') k

theorem g_ifNo (X : St p l e R s m args below meth c own bytes maxL ret nm Z EL nw us T h cells slots) {cd : ClassFile.Cond} {o : Int} {x : Int32} (hd : decode bytes pc = .ok (.ifCond cd o, 3)) (hc : if_icmp.holds cd x 0 = false) (pc' : Nat) (hp : pc + 3 = pc')
    (K : Goes p e below s Z EL nw Q kk nn (T.setTop (mkF m pc' Ls (st)))) : Goes p e below s Z EL nw Q kk nn (T.setTop (mkF m pc Ls (.int x :: st))) := by
  subst hp
  exact K.step fun t k => XS.ifNo X.at X.hx rfl (hb X.by hd) rfl ((if0 cd x).trans hc) k

theorem g_icmpNo (X : St p l e R s m args below meth c own bytes maxL ret nm Z EL nw us T h cells slots) {cd : ClassFile.Cond} {o : Int} {x y : Int32} (hd : decode bytes pc = .ok (.if_icmp cd o, 3)) (hc : if_icmp.holds cd x y = false) (pc' : Nat) (hp : pc + 3 = pc')
    (K : Goes p e below s Z EL nw Q kk nn (T.setTop (mkF m pc' Ls (st)))) : Goes p e below s Z EL nw Q kk nn (T.setTop (mkF m pc Ls (.int y :: .int x :: st))) := by
  subst hp
  exact K.step fun t k => XS.icmpNo X.at X.hx rfl (hb X.by hd) rfl hc k

theorem g_ifnullNo (X : St p l e R s m args below meth c own bytes maxL ret nm Z EL nw us T h cells slots) {o : Int} {b : Addr} (hd : decode bytes pc = .ok (.ifnull o, 3))  (pc' : Nat) (hp : pc + 3 = pc')
    (K : Goes p e below s Z EL nw Q kk nn (T.setTop (mkF m pc' Ls (st)))) : Goes p e below s Z EL nw Q kk nn (T.setTop (mkF m pc Ls (.ref b :: st))) := by
  subst hp
  exact K.step fun t k => XS.ifnullNo X.at X.hx rfl (hb X.by hd) rfl k

theorem g_ifnonnullNo (X : St p l e R s m args below meth c own bytes maxL ret nm Z EL nw us T h cells slots) {o : Int} (hd : decode bytes pc = .ok (.ifnonnull o, 3))  (pc' : Nat) (hp : pc + 3 = pc')
    (K : Goes p e below s Z EL nw Q kk nn (T.setTop (mkF m pc' Ls (st)))) : Goes p e below s Z EL nw Q kk nn (T.setTop (mkF m pc Ls (.null :: st))) := by
  subst hp
  exact K.step fun t k => XT.ifnonnullNo X.at X.hx rfl (hb X.by hd) rfl k

theorem g_acmpNo (X : St p l e R s m args below meth c own bytes maxL ret nm Z EL nw us T h cells slots) {cd : ClassFile.ACond} {o : Int} {x y : Value} (hd : decode bytes pc = .ok (.if_acmp cd o, 3)) (hx' : x.isRef = true) (hy' : y.isRef = true) (hc : XT.acmp cd x y = false) (pc' : Nat) (hp : pc + 3 = pc')
    (K : Goes p e below s Z EL nw Q kk nn (T.setTop (mkF m pc' Ls (st)))) : Goes p e below s Z EL nw Q kk nn (T.setTop (mkF m pc Ls (y :: x :: st))) := by
  subst hp
  exact K.step fun t k => XT.acmpNo X.at X.hx rfl (hb X.by hd) rfl hx' hy' hc k

theorem g_goto (X : St p l e R s m args below meth c own bytes maxL ret nm Z EL nw us T h cells slots)  {o : Int} (hd : decode bytes pc = .ok (.goto o, 3))  (pc' : Nat) (ho : 0 ≤ (pc : Int) + o) (hp : ((pc : Int) + o).toNat = pc')
    (K : Goes p e below s Z EL nw Q kk nn (T.setTop (mkF m pc' Ls (st)))) : Goes p e below s Z EL nw Q kk nn (T.setTop (mkF m pc Ls (st))) :=
  K.step fun t k => XS.goto X.at X.hx rfl (pc0 := pc) rfl (hb X.by hd) ho hp k

theorem g_ifYes (X : St p l e R s m args below meth c own bytes maxL ret nm Z EL nw us T h cells slots) {cd : ClassFile.Cond} {x : Int32} {o : Int} (hd : decode bytes pc = .ok (.ifCond cd o, 3)) (hc : if_icmp.holds cd x 0 = true) (pc' : Nat) (ho : 0 ≤ (pc : Int) + o) (hp : ((pc : Int) + o).toNat = pc')
    (K : Goes p e below s Z EL nw Q kk nn (T.setTop (mkF m pc' Ls (st)))) : Goes p e below s Z EL nw Q kk nn (T.setTop (mkF m pc Ls (.int x :: st))) :=
  K.step fun t k => XS.ifYes X.at X.hx rfl (pc0 := pc) rfl (hb X.by hd) rfl ((if0 cd x).trans hc) ho hp k

theorem g_icmpYes (X : St p l e R s m args below meth c own bytes maxL ret nm Z EL nw us T h cells slots) {cd : ClassFile.Cond} {x y : Int32} {o : Int} (hd : decode bytes pc = .ok (.if_icmp cd o, 3)) (hc : if_icmp.holds cd x y = true) (pc' : Nat) (ho : 0 ≤ (pc : Int) + o) (hp : ((pc : Int) + o).toNat = pc')
    (K : Goes p e below s Z EL nw Q kk nn (T.setTop (mkF m pc' Ls (st)))) : Goes p e below s Z EL nw Q kk nn (T.setTop (mkF m pc Ls (.int y :: .int x :: st))) :=
  K.step fun t k => XS.icmpYes X.at X.hx rfl (pc0 := pc) rfl (hb X.by hd) rfl hc ho hp k

theorem g_ifnullYes (X : St p l e R s m args below meth c own bytes maxL ret nm Z EL nw us T h cells slots)  {o : Int} (hd : decode bytes pc = .ok (.ifnull o, 3))  (pc' : Nat) (ho : 0 ≤ (pc : Int) + o) (hp : ((pc : Int) + o).toNat = pc')
    (K : Goes p e below s Z EL nw Q kk nn (T.setTop (mkF m pc' Ls (st)))) : Goes p e below s Z EL nw Q kk nn (T.setTop (mkF m pc Ls (.null :: st))) :=
  K.step fun t k => XS.ifnullYes X.at X.hx rfl (pc0 := pc) rfl (hb X.by hd) rfl ho hp k

theorem g_ifnonnullYes (X : St p l e R s m args below meth c own bytes maxL ret nm Z EL nw us T h cells slots) {b : Addr} {o : Int} (hd : decode bytes pc = .ok (.ifnonnull o, 3))  (pc' : Nat) (ho : 0 ≤ (pc : Int) + o) (hp : ((pc : Int) + o).toNat = pc')
    (K : Goes p e below s Z EL nw Q kk nn (T.setTop (mkF m pc' Ls (st)))) : Goes p e below s Z EL nw Q kk nn (T.setTop (mkF m pc Ls (.ref b :: st))) :=
  K.step fun t k => XT.ifnonnullYes X.at X.hx rfl (pc0 := pc) rfl (hb X.by hd) rfl ho hp k

theorem g_acmpYes (X : St p l e R s m args below meth c own bytes maxL ret nm Z EL nw us T h cells slots) {cd : ClassFile.ACond} {x y : Value} {o : Int} (hd : decode bytes pc = .ok (.if_acmp cd o, 3)) (hx' : x.isRef = true) (hy' : y.isRef = true) (hc : XT.acmp cd x y = true) (pc' : Nat) (ho : 0 ≤ (pc : Int) + o) (hp : ((pc : Int) + o).toNat = pc')
    (K : Goes p e below s Z EL nw Q kk nn (T.setTop (mkF m pc' Ls (st)))) : Goes p e below s Z EL nw Q kk nn (T.setTop (mkF m pc Ls (y :: x :: st))) :=
  K.step fun t k => XT.acmpYes X.at X.hx rfl (pc0 := pc) rfl (hb X.by hd) rfl hx' hy' hc ho hp k
end Ops
section Rets
variable {p : Program} {l : Launch} {e : Env} {R : Room} {s : State} {m : MethodId} {args : Array Value} {below : List Frame} {meth : Method} {c : Code}
  {own : String} {bytes : ByteArray} {maxL : Nat} {ret : Option FieldType} {nm : String} {Z : State} {EL : List (String × Nat)} {nw : Bool} {us : List Addr}
  {T : State} {h : Heap} {cells slots : Nat} {Q : Option Value → Heap → Prop} {kk nn : Nat} {a0 : Array Value} {pc : Nat} {Ls : Array Slot} {st : List Value}

theorem g_retN (X : St p l e R s m args below meth c own bytes maxL ret nm Z EL nw us T h cells slots) {z : Int32} {t : FieldType} {rest : List Value} (hret : ret = some t) (ht : t = .boolean ∨ t = .byte ∨ t = .char ∨ t = .short) (hd : decode bytes pc = .ok (.ireturn, 1)) (w : Int32) (hw : nar t z = w) (hc : cells ≤ kk) (hn : slots ≤ nn) (hQ : Q (some (.int w)) h) :
    Goes p e below s Z EL nw Q kk nn (T.setTop (mkF m pc Ls (.int z :: rest))) := by
  subst hw
  have h4 := X.1.2.2.2.1
  exact leave0 X (fun q => by rw [hret] at q; cases q) hc hn hQ fun fs g1 => by
    obtain ⟨vm0, locs, Y⟩ := X.std
    exact retN Y X.hx (h4.trans hret) ht (hb X.by hd) g1
theorem g_retI (X : St p l e R s m args below meth c own bytes maxL ret nm Z EL nw us T h cells slots) {z : Int32} {rest : List Value} (hret : ret = some .int) (hd : decode bytes pc = .ok (.ireturn, 1)) (hc : cells ≤ kk) (hn : slots ≤ nn) (hQ : Q (some (.int z)) h) :
    Goes p e below s Z EL nw Q kk nn (T.setTop (mkF m pc Ls (.int z :: rest))) := by
  have h4 := X.1.2.2.2.1
  exact leave0 X (fun q => by rw [hret] at q; cases q) hc hn hQ fun fs g1 => by
    obtain ⟨vm0, locs, Y⟩ := X.std
    exact retOut Y X.hx (h4.trans hret) rfl (Or.inl ⟨rfl, Or.inl rfl, z, rfl⟩) (hb X.by hd) g1
theorem g_retA (X : St p l e R s m args below meth c own bytes maxL ret nm Z EL nw us T h cells slots) {w : Value} {t : FieldType} {rest : List Value} (hret : ret = some t) (ht : t.isReference = true) (hw : w.isRef = true) (hd : decode bytes pc = .ok (.areturn, 1)) (hc : cells ≤ kk) (hn : slots ≤ nn) (hQ : Q (some w) h) :
    Goes p e below s Z EL nw Q kk nn (T.setTop (mkF m pc Ls (w :: rest))) := by
  have h4 := X.1.2.2.2.1
  have hnar : narrow t w = w := by
    rcases ref_cases hw with rfl | ⟨a, rfl⟩ <;> cases t <;> first | rfl | simp [FieldType.isReference] at ht
  exact leave0 X (fun q => by rw [hret] at q; cases q) hc hn hQ fun fs g1 => by
    obtain ⟨vm0, locs, Y⟩ := X.std
    exact retOut Y X.hx (h4.trans hret) hnar (Or.inr (Or.inr (Or.inr (Or.inr ⟨rfl, ht, hw⟩)))) (hb X.by hd) g1
theorem g_ret (X : St p l e R s m args below meth c own bytes maxL ret nm Z EL nw us T h cells slots) (hret : ret = none) (hd : decode bytes pc = .ok (.return_, 1)) (hc : cells ≤ kk) (hn : slots ≤ nn) (hQ : Q none h) :
    Goes p e below s Z EL nw Q kk nn (T.setTop (mkF m pc Ls [])) := by
  have h4 := X.1.2.2.2.1
  exact leave0 X (fun _ => rfl) hc hn hQ fun fs g1 => by
    obtain ⟨vm0, locs, Y⟩ := X.std
    exact Y.returnOut X.hx (h4.trans hret) (hb X.by hd) g1
end Rets
section HeapOps
variable {p : Program} {l : Launch} {e : Env} {R : Room} {s : State} {m : MethodId} {args : Array Value} {below : List Frame} {meth : Method} {c : Code}
  {own : String} {bytes : ByteArray} {maxL : Nat} {ret : Option FieldType} {nm : String} {Z : State} {EL : List (String × Nat)} {nw : Bool} {us : List Addr}
  {T : State} {h : Heap} {cells slots : Nat} {Q : Option Value → Heap → Prop} {kk nn : Nat} {a0 : Array Value} {pc : Nat} {Ls : Array Slot} {st : List Value}

theorem g_ldcI (X : St p l e R s m args below meth c own bytes maxL ret nm Z EL nw us T h cells slots) {ix : Nat} {v : Int32} (w : (Jvm.Cond.constant own ix v).before a0 Z = true) (hd : decode bytes pc = .ok (.ldc ix, 2)) (pc' : Nat) (hp : pc + 2 = pc')
    (K : Goes p e below s Z EL nw Q kk nn (T.setTop (mkF m pc' Ls (.int v :: st)))) : Goes p e below s Z EL nw Q kk nn (T.setTop (mkF m pc Ls st)) := by
  subst hp
  obtain ⟨cx, vm0, locs, Y, N, eT, hS, hZ, hown, r⟩ := X
  exact K.step fun t k => Y.ldcI cx.1 hown (mv (s := s.setVm vm0) hZ w) rfl (hb cx.2.1 hd) k
theorem g_getF (X : St p l e R s m args below meth c own bytes maxL ret nm Z EL nw us T h cells slots) {R0 O n d host : String} {ix : Nat} {a : Addr} {v : Value} (w : (Jvm.Cond.fieldLink own ix R0 n d).before a0 Z = true ∨ (Jvm.Cond.fieldLinkNest own ix R0 n d host).before a0 Z = true) (via : Via Z R0 O n d) (F : Fld Z h a O n d v)
    (hd : decode bytes pc = .ok (.getfield ix, 3)) (pc' : Nat) (hp : pc + 3 = pc')
    (K : ∀ T', St p l e R s m args below meth c own bytes maxL ret nm Z EL nw us T' h cells slots → Goes p e below s Z EL nw Q kk nn (T'.setTop (mkF m pc' Ls (v :: st)))) : Goes p e below s Z EL nw Q kk nn (T.setTop (mkF m pc Ls (.ref a :: st))) := by
  subst hp
  obtain ⟨cx, vm0, locs, Y, N, eT, hS, hZ, hown, r⟩ := X
  obtain ⟨T', Y', e', stp⟩ := getF Y cx.1 hZ hown w via eT F (g := mkF m pc Ls (.ref a :: st)) rfl rfl (hb cx.2.1 hd)
  exact (K T' ⟨cx, vm0, locs, Y', N, e', hS, hZ, hown, r⟩).step stp
theorem g_getS (X : St p l e R s m args below meth c own bytes maxL ret nm Z EL nw us T h cells slots) {R0 O n d host : String} {ix : Nat} {v : Value} (w : (Jvm.Cond.fieldLink own ix R0 n d).before a0 Z = true ∨ (Jvm.Cond.fieldLinkNest own ix R0 n d host).before a0 Z = true) (via : Via Z R0 O n d) (F : Sta Z h O n d v)
    (hd : decode bytes pc = .ok (.getstatic ix, 3)) (pc' : Nat) (hp : pc + 3 = pc')
    (K : ∀ T', St p l e R s m args below meth c own bytes maxL ret nm Z EL nw us T' h cells slots → Goes p e below s Z EL nw Q kk nn (T'.setTop (mkF m pc' Ls (v :: st)))) : Goes p e below s Z EL nw Q kk nn (T.setTop (mkF m pc Ls st)) := by
  subst hp
  obtain ⟨cx, vm0, locs, Y, N, eT, hS, hZ, hown, r⟩ := X
  obtain ⟨T', Y', e', stp⟩ := getS2 Y cx.1 hZ hown w via eT F (g := mkF m pc Ls st) rfl (hb cx.2.1 hd)
  exact (K T' ⟨cx, vm0, locs, Y', N, e', hS, hZ, hown, r⟩).step stp
theorem g_cast (X : St p l e R s m args below meth c own bytes maxL ret nm Z EL nw us T h cells slots) {C : String} {ix : Nat} {a : Addr} (w : (Jvm.Cond.classLink own ix C).before a0 Z = true) (F : Ins Z h a C true) (hd : decode bytes pc = .ok (.checkcast ix, 3)) (pc' : Nat) (hp : pc + 3 = pc')
    (K : ∀ T', St p l e R s m args below meth c own bytes maxL ret nm Z EL nw us T' h cells slots → Goes p e below s Z EL nw Q kk nn (T'.setTop (mkF m pc' Ls (.ref a :: st)))) : Goes p e below s Z EL nw Q kk nn (T.setTop (mkF m pc Ls (.ref a :: st))) := by
  subst hp
  obtain ⟨cx, vm0, locs, Y, N, eT, hS, hZ, hown, r⟩ := X
  obtain ⟨T', Y', e', stp⟩ := castY Y cx.1 hZ hown w eT F (g := mkF m pc Ls (.ref a :: st)) rfl rfl (hb cx.2.1 hd)
  exact (K T' ⟨cx, vm0, locs, Y', N, e', hS, hZ, hown, r⟩).step stp
theorem g_instY (X : St p l e R s m args below meth c own bytes maxL ret nm Z EL nw us T h cells slots) {C : String} {ix : Nat} {a : Addr} (w : (Jvm.Cond.classLink own ix C).before a0 Z = true) (F : Ins Z h a C true) (hd : decode bytes pc = .ok (.instanceof ix, 3)) (pc' : Nat) (hp : pc + 3 = pc')
    (K : ∀ T', St p l e R s m args below meth c own bytes maxL ret nm Z EL nw us T' h cells slots → Goes p e below s Z EL nw Q kk nn (T'.setTop (mkF m pc' Ls (.int 1 :: st)))) : Goes p e below s Z EL nw Q kk nn (T.setTop (mkF m pc Ls (.ref a :: st))) := by
  subst hp
  obtain ⟨cx, vm0, locs, Y, N, eT, hS, hZ, hown, r⟩ := X
  obtain ⟨T', Y', e', stp⟩ := instY Y cx.1 hZ hown w eT F (g := mkF m pc Ls (.ref a :: st)) rfl rfl (hb cx.2.1 hd)
  exact (K T' ⟨cx, vm0, locs, Y', N, e', hS, hZ, hown, r⟩).step stp
theorem g_instNo (X : St p l e R s m args below meth c own bytes maxL ret nm Z EL nw us T h cells slots) {C D : String} {ix : Nat} {a : Addr} (w : (Jvm.Cond.classLink own ix D).before a0 Z = true) (E : Exa Z h a C) (F : ∃ c t, Z.vm.findClass C = some c ∧ Z.vm.findClass D = some t ∧ Z.vm.assignable c t = false) (hd : decode bytes pc = .ok (.instanceof ix, 3)) (pc' : Nat) (hp : pc + 3 = pc')
    (K : ∀ T', St p l e R s m args below meth c own bytes maxL ret nm Z EL nw us T' h cells slots → Goes p e below s Z EL nw Q kk nn (T'.setTop (mkF m pc' Ls (.int 0 :: st)))) : Goes p e below s Z EL nw Q kk nn (T.setTop (mkF m pc Ls (.ref a :: st))) := by
  subst hp
  obtain ⟨cx, vm0, locs, Y, N, eT, hS, hZ, hown, r⟩ := X
  obtain ⟨T', Y', e', stp⟩ := instNo Y cx.1 hZ hown w eT E F (g := mkF m pc Ls (.ref a :: st)) rfl rfl (hb cx.2.1 hd)
  exact (K T' ⟨cx, vm0, locs, Y', N, e', hS, hZ, hown, r⟩).step stp
/-- 'new': the new object is under construction -/
theorem g_new (X : St p l e R s m args below meth c own bytes maxL ret nm Z EL nw us T h cells slots) {C : String} {ix k : Nat} (w : (Jvm.Cond.classLink own ix C).before a0 Z = true) (wi : (Jvm.Cond.instantiable C k).before a0 Z = true) (wz : (Jvm.Cond.initialized C).before a0 Z = true)
    (hd : decode bytes pc = .ok (.new ix, 3)) {ck cs : Nat} (hck : cells + 1 = ck) (hcs : slots + k = cs) (hc : ck ≤ R.cells) (hl : cs ≤ R.slots) (pc' : Nat) (hp : pc + 3 = pc')
    (K : ∀ a T' h', a = h.size → St p l e R s m args below meth c own bytes maxL ret nm Z EL nw (a :: us) T' h' ck cs → Ext h h' → Exa Z h' a C →
      (∀ {O n d : String} {ty : FieldType}, Laid Z a0 C O n d → parseFieldDescriptor d = some ty → Fld Z h' a O n d (defaultValue ty)) → Goes p e below s Z EL nw Q kk nn (T'.setTop (mkF m pc' Ls (.ref a :: st)))) : Goes p e below s Z EL nw Q kk nn (T.setTop (mkF m pc Ls st)) := by
  subst hp hck hcs
  obtain ⟨cx, vm0, locs, Y, N, eT, hS, hZ, hown, hE, hC, hU, hW⟩ := X
  obtain ⟨T', h', Y', e', E, A, D, -, stp⟩ := newO Y cx.1 hZ hown w wi wz eT (g := mkF m pc Ls st) rfl (hb cx.2.1 hd) hc hl
  refine (K h.size T' h' rfl ⟨cx, vm0, locs, Y', N, e', ⟨hS.1, hS.2.mono E.1⟩, hZ, hown, hE.trans E, hC.trans (CHr.ext E hC.1), ?_, hW⟩ E A (fun L q => D L q)).step stp
  intro x hx
  rcases List.mem_cons.mp hx with rfl | hx
  · exact ⟨hE.1, A.lt, Safe.ext E hC.1 (Safe.new (Nat.le_refl _))⟩
  · obtain ⟨q1, q2, q3⟩ := hU x hx
    exact ⟨q1, Nat.lt_of_lt_of_le q2 E.1, Safe.ext E hC.1 q3⟩
/-- an array of a primitive kind, new -/
theorem g_newP (X : St p l e R s m args below meth c own bytes maxL ret nm Z EL nw us T h cells slots) {aty : ArrayType} {z : Int32} (w : (Jvm.Cond.arrayClass (newarray.typeOf aty)).before a0 Z = true) (hd : decode bytes pc = .ok (.newarray aty, 2)) (hn : ¬ z < 0) (cap : Nat) (hcap : z.toNatClampNeg ≤ cap) (hb' : cap * 8 ≤ 536870912)
    {ck cs : Nat} (hck : cells + 1 = ck) (hcs : slots + cap = cs) (hc : ck ≤ R.cells) (hl : cs ≤ R.slots) (pc' : Nat) (hp : pc + 2 = pc')
    (K : ∀ a T' h' k, a = h.size → St p l e R s m args below meth c own bytes maxL ret nm Z EL nw (a :: us) T' h' ck cs → Ext h h' → Arv Z h' a k (newarray.typeOf aty) z [] (defaultValue (newarray.typeOf aty)) →
      Goes p e below s Z EL nw Q kk nn (T'.setTop (mkF m pc' Ls (.ref a :: st)))) : Goes p e below s Z EL nw Q kk nn (T.setTop (mkF m pc Ls (.int z :: st))) := by
  subst hp hck hcs
  obtain ⟨cx, vm0, locs, Y, N, eT, hS, hZ, hown, hE, hC, hU, hW⟩ := X
  obtain ⟨T', h', cA, Y', e', E, A, stp⟩ := newP Y cx.1 hZ w eT (g := mkF m pc Ls (.int z :: st)) rfl (hb cx.2.1 hd) rfl hn hcap hb' hc hl
  refine (K h.size T' h' cA rfl ⟨cx, vm0, locs, Y', N, e', ⟨hS.1, hS.2.mono E.1⟩, hZ, hown, hE.trans E, hC.trans (CHr.ext E hC.1), ?_, hW⟩ E (Arv.new A hn)).step stp
  intro x hx
  rcases List.mem_cons.mp hx with rfl | hx
  · exact ⟨hE.1, A.lt, Safe.ext E hC.1 (Safe.new (Nat.le_refl _))⟩
  · obtain ⟨q1, q2, q3⟩ := hU x hx
    exact ⟨q1, Nat.lt_of_lt_of_le q2 E.1, Safe.ext E hC.1 q3⟩
/-- a store's part that is common -/
theorem St.wrote {vm0 : Vm} {locs : List Loc} {T' : State} {h' : Heap} {a : Addr} {sl : Nat} {v : Value}
    (cx : p.tables.exec = Jvm.exec ∧ c.code = bytes ∧ c.maxLocals = maxL ∧ meth.sig.returnType = ret ∧ meth.name = nm ∧ meth.locks = false ∧ ∃ a0, EW Z a0 EL)
    (Y : Stand p l e R (s.setVm vm0) m args below meth c T' (locs ++ [⟨a, sl⟩]) cells slots) (N : Fr Z.heap.size locs) (eT : T'.heap = h') (hS : s.Since vm0 h.size) (hZ : Z.Warmed39 vm0) (hown : vm0.findClass own = some m.cls) (hE : Ext Z.heap h) (hC : CHr Z EL s.vm s.heap vm0 h)
    (hU : ∀ x ∈ us, Z.heap.size ≤ x ∧ x < h.size ∧ Safe Z EL vm0 h x) (hW : nw = true → s.WarmedH vm0) (W : Wr h h' a sl v) (ha : a ∈ us) : St p l e R s m args below meth c own bytes maxL ret nm Z EL nw us T' h' cells slots := by
  obtain ⟨q1, q2, q3⟩ := hU a ha
  refine ⟨cx, vm0, locs ++ [⟨a, sl⟩], Y, Fr.snoc Y N q1, eT, ⟨hS.1, hS.2.mono (Nat.le_of_eq W.size.symm)⟩, hZ, hown, ext_wr hE W q1, hC.trans (CHr.wr W q3 hC.1), fun x hx => ?_, hW⟩
  obtain ⟨r1, r2, r3⟩ := hU x hx
  exact ⟨r1, by rw [W.size]; exact r2, Safe.wr W q3 hC.1 r3⟩
theorem g_putF (X : St p l e R s m args below meth c own bytes maxL ret nm Z EL nw us T h cells slots) {R0 O n d host C : String} {ix k : Nat} {ty : FieldType} {a : Addr} {v old : Value} (w : (Jvm.Cond.fieldLink own ix R0 n d).before a0 Z = true ∨ (Jvm.Cond.fieldLinkNest own ix R0 n d host).before a0 Z = true) (via : Via Z R0 O n d) (F : Fld Z h a O n d old) (E : Exa Z h a C)
    (L : (Jvm.Cond.lays C O n d).before a0 Z = true ∨ ((Jvm.Cond.laysFinal C O n d).before a0 Z = true ∧ own = O ∧ nm = "<init>")) (wi : (Jvm.Cond.instantiable C k).before a0 Z = true) (hty : parseFieldDescriptor d = some ty) (hn : narrow ty v = v) (hf : fits ty v = true) (ha : a ∈ us)
    (hd : decode bytes pc = .ok (.putfield ix, 3)) (pc' : Nat) (hp : pc + 3 = pc')
    (K : ∀ T' h', St p l e R s m args below meth c own bytes maxL ret nm Z EL nw us T' h' cells slots → Wr h h' a (Jvm.RoadKit.slotOf Z O n d) v → Fld Z h' a O n d v → Exa Z h' a C → Goes p e below s Z EL nw Q kk nn (T'.setTop (mkF m pc' Ls st))) : Goes p e below s Z EL nw Q kk nn (T.setTop (mkF m pc Ls (v :: .ref a :: st))) := by
  subst hp
  obtain ⟨cx, vm0, locs, Y, N, eT, hS, hZ, hown, hE, hC, hU, hW⟩ := X
  have L' : (Jvm.Cond.lays C O n d).before a0 Z = true ∨ ((Jvm.Cond.laysFinal C O n d).before a0 Z = true ∧ own = O ∧ meth.name = "<init>") := by
    rcases L with L | ⟨L1, L2, L3⟩
    · exact Or.inl L
    · exact Or.inr ⟨L1, L2, by rw [cx.2.2.2.2.1]; exact L3⟩
  obtain ⟨T', h', Y', e', W, stp⟩ := putF Y cx.1 hZ hown w via eT F E L' wi hty hn hf (g := mkF m pc Ls (v :: .ref a :: st)) rfl rfl (hb cx.2.1 hd)
  exact (K T' h' (St.wrote cx Y' N e' hS hZ hown hE hC hU hW W ha) W (F.same W) (E.wr W)).step stp
theorem g_castore (X : St p l e R s m args below meth c own bytes maxL ret nm Z EL nw us T h cells slots) {a : Addr} {k : ClassId} {z j x : Int32} {vs : List Value} {dv : Value} (A : Arv Z h a k .char z vs dv) (i : Nat) (hj : j.toNatClampNeg = i) (hj0 : ¬ j < 0) (hz : j < z) (hi : i < vs.length) (w : Int32) (hw : nar .char x = w) (ha : a ∈ us)
    (hd : decode bytes pc = .ok (.castore, 1)) (pc' : Nat) (hp : pc + 1 = pc')
    (K : ∀ T' h', St p l e R s m args below meth c own bytes maxL ret nm Z EL nw us T' h' cells slots → Wr h h' a i (.int w) → Arv Z h' a k .char z (vs.set i (.int w)) dv → Goes p e below s Z EL nw Q kk nn (T'.setTop (mkF m pc' Ls st))) : Goes p e below s Z EL nw Q kk nn (T.setTop (mkF m pc Ls (.int x :: .int j :: .ref a :: st))) := by
  subst hp hj hw
  obtain ⟨cx, vm0, locs, Y, N, eT, hS, hZ, hown, hE, hC, hU, hW⟩ := X
  obtain ⟨cl, Ar, q1, Sz, q3, H, Gt⟩ := A
  obtain ⟨T', h', Y', e', W, stp⟩ := stC Y cx.1 hZ eT Ar (inb_of Sz ⟨hj0, hz⟩) (g := mkF m pc Ls (.int x :: .int j :: .ref a :: st)) rfl rfl (hb cx.2.1 hd)
  exact (K T' h' (St.wrote cx Y' N e' hS hZ hown hE hC hU hW W ha) W (Arv.set Ar q1 Sz q3 H Gt (fits_nar_char x) W _ rfl hi)).step stp
theorem g_bastore (X : St p l e R s m args below meth c own bytes maxL ret nm Z EL nw us T h cells slots) {a : Addr} {k : ClassId} {z j x : Int32} {vs : List Value} {dv : Value} (A : Arv Z h a k .byte z vs dv) (i : Nat) (hj : j.toNatClampNeg = i) (hj0 : ¬ j < 0) (hz : j < z) (hi : i < vs.length) (w : Int32) (hw : nar .byte x = w) (ha : a ∈ us)
    (hd : decode bytes pc = .ok (.bastore, 1)) (pc' : Nat) (hp : pc + 1 = pc')
    (K : ∀ T' h', St p l e R s m args below meth c own bytes maxL ret nm Z EL nw us T' h' cells slots → Wr h h' a i (.int w) → Arv Z h' a k .byte z (vs.set i (.int w)) dv → Goes p e below s Z EL nw Q kk nn (T'.setTop (mkF m pc' Ls st))) : Goes p e below s Z EL nw Q kk nn (T.setTop (mkF m pc Ls (.int x :: .int j :: .ref a :: st))) := by
  subst hp hj hw
  obtain ⟨cx, vm0, locs, Y, N, eT, hS, hZ, hown, hE, hC, hU, hW⟩ := X
  obtain ⟨cl, Ar, q1, Sz, q3, H, Gt⟩ := A
  obtain ⟨T', h', Y', e', W, stp⟩ := stB Y cx.1 hZ eT Ar (inb_of Sz ⟨hj0, hz⟩) (g := mkF m pc Ls (.int x :: .int j :: .ref a :: st)) rfl rfl (hb cx.2.1 hd)
  exact (K T' h' (St.wrote cx Y' N e' hS hZ hown hE hC hU hW W ha) W (Arv.set Ar q1 Sz q3 H Gt (fits_nar_byte x) W _ rfl hi)).step stp
theorem arrOf {vm0 : Vm} {cl : Cell} {ty : FieldType} (hZ : Z.Warmed39 vm0) (q : Z.isArrayOf cl ty) : (s.setVm vm0).isArrayOf cl ty := State.isArrayOf_alike (show Z.vm.Alike (s.setVm vm0).vm from hZ.alike) q
theorem g_arrlen (X : St p l e R s m args below meth c own bytes maxL ret nm Z EL nw us T h cells slots) {a : Addr} {k : ClassId} {ty : FieldType} {z : Int32} {vs : List Value} {dv : Value} (A : Arv Z h a k ty z vs dv) (hd : decode bytes pc = .ok (.arraylength, 1)) (pc' : Nat) (hp : pc + 1 = pc')
    (K : Goes p e below s Z EL nw Q kk nn (T.setTop (mkF m pc' Ls (.int z :: st)))) : Goes p e below s Z EL nw Q kk nn (T.setTop (mkF m pc Ls (.ref a :: st))) := by
  subst hp
  obtain ⟨cx, vm0, locs, Y, N, eT, hS, hZ, r⟩ := X
  obtain ⟨cl, Ar, q1, Sz, q3, H, Gt⟩ := A
  refine K.step fun t k => Y.arraylength cx.1 (cell := cl) (by rw [eT]; exact Ar.1) (arrOf hZ Ar.2.1) (g := mkF m pc Ls (.ref a :: st)) rfl rfl (hb cx.2.1 hd) t ?_
  rw [len_of Sz q3]; exact k
theorem g_caload (X : St p l e R s m args below meth c own bytes maxL ret nm Z EL nw us T h cells slots) {a : Addr} {k : ClassId} {z j : Int32} {vs : List Value} {dv : Value} (A : Arv Z h a k .char z vs dv) (hj0 : ¬ j < 0) (hz : j < z) (v : Value) (hv : vs.getD j.toNatClampNeg dv = v) (hd : decode bytes pc = .ok (.caload, 1)) (pc' : Nat) (hp : pc + 1 = pc')
    (K : Goes p e below s Z EL nw Q kk nn (T.setTop (mkF m pc' Ls (v :: st)))) : Goes p e below s Z EL nw Q kk nn (T.setTop (mkF m pc Ls (.int j :: .ref a :: st))) := by
  subst hp
  obtain ⟨cx, vm0, locs, Y, N, eT, hS, hZ, r⟩ := X
  obtain ⟨cl, Ar, q1, Sz, q3, H, Gt⟩ := A
  have hin := inb_of Sz ⟨hj0, hz⟩
  exact K.step fun t k => Y.caload cx.1 (cell := cl) (by rw [eT]; exact Ar.1) (arrOf hZ Ar.2.1) Ar.2.2 hin (H.at hin hv) (g := mkF m pc Ls (.int j :: .ref a :: st)) rfl rfl (hb cx.2.1 hd) t k
theorem g_baload (X : St p l e R s m args below meth c own bytes maxL ret nm Z EL nw us T h cells slots) {a : Addr} {k : ClassId} {z j : Int32} {vs : List Value} {dv : Value} (A : Arv Z h a k .byte z vs dv) (hj0 : ¬ j < 0) (hz : j < z) (v : Value) (hv : vs.getD j.toNatClampNeg dv = v) (hd : decode bytes pc = .ok (.baload, 1)) (pc' : Nat) (hp : pc + 1 = pc')
    (K : Goes p e below s Z EL nw Q kk nn (T.setTop (mkF m pc' Ls (v :: st)))) : Goes p e below s Z EL nw Q kk nn (T.setTop (mkF m pc Ls (.int j :: .ref a :: st))) := by
  subst hp
  obtain ⟨cx, vm0, locs, Y, N, eT, hS, hZ, r⟩ := X
  obtain ⟨cl, Ar, q1, Sz, q3, H, Gt⟩ := A
  have hin := inb_of Sz ⟨hj0, hz⟩
  exact K.step fun t k => Y.baloadBytes cx.1 (cell := cl) (by rw [eT]; exact Ar.1) (arrOf hZ Ar.2.1) Ar.2.2 hin (H.at hin hv) (g := mkF m pc Ls (.int j :: .ref a :: st)) rfl rfl (hb cx.2.1 hd) t k
theorem g_aaload (X : St p l e R s m args below meth c own bytes maxL ret nm Z EL nw us T h cells slots) {a : Addr} {k : ClassId} {ty : FieldType} {z j : Int32} {vs : List Value} {dv : Value} (A : Arv Z h a k ty z vs dv) (hty : ty.isReference = true) (hj0 : ¬ j < 0) (hz : j < z) (v : Value) (hv : vs.getD j.toNatClampNeg dv = v) (hd : decode bytes pc = .ok (.aaload, 1)) (pc' : Nat) (hp : pc + 1 = pc')
    (K : Goes p e below s Z EL nw Q kk nn (T.setTop (mkF m pc' Ls (v :: st)))) : Goes p e below s Z EL nw Q kk nn (T.setTop (mkF m pc Ls (.int j :: .ref a :: st))) := by
  subst hp
  obtain ⟨cx, vm0, locs, Y, N, eT, hS, hZ, r⟩ := X
  obtain ⟨cl, Ar, q1, Sz, q3, H, Gt⟩ := A
  have hin := inb_of Sz ⟨hj0, hz⟩
  exact K.step fun t k => Y.aaload cx.1 (cell := cl) (by rw [eT]; exact Ar.1) (arrOf hZ Ar.2.1) hty Ar.2.2 hin (H.at hin hv) (g := mkF m pc Ls (.int j :: .ref a :: st)) rfl rfl (hb cx.2.1 hd) t k
theorem g_aaloadA (X : St p l e R s m args below meth c own bytes maxL ret nm Z EL nw us T h cells slots) {a : Addr} {cl : Cell} {ty : FieldType} {j : Int32} (A : Arr Z h a cl ty) (hty : ty.isReference = true) (hin : ¬ (j < 0 ∨ cl.slots.size ≤ j.toNatClampNeg)) {v : Value} (hv : cl.slots[j.toNatClampNeg]? = some v) (hd : decode bytes pc = .ok (.aaload, 1)) (pc' : Nat) (hp : pc + 1 = pc')
    (K : Goes p e below s Z EL nw Q kk nn (T.setTop (mkF m pc' Ls (v :: st)))) : Goes p e below s Z EL nw Q kk nn (T.setTop (mkF m pc Ls (.int j :: .ref a :: st))) := by
  subst hp
  obtain ⟨cx, vm0, locs, Y, N, eT, hS, hZ, r⟩ := X
  exact K.step fun t k => Y.aaload cx.1 (cell := cl) (by rw [eT]; exact A.1) (arrOf hZ A.2.1) hty A.2.2 hin hv (g := mkF m pc Ls (.int j :: .ref a :: st)) rfl rfl (hb cx.2.1 hd) t k
/-- System.arraycopy between two arrays of one primitive kind -/
theorem g_arrcopy (X : St p l e R s m args below meth c own bytes maxL ret nm Z EL nw us T h cells slots) {ix : Nat} {a b : Addr} {k k' : ClassId} {ty : FieldType} {z z' sp dp nn0 : Int32} {vs vd : List Value} {dv dd : Value} (w1 : (Jvm.Cond.methodLink own ix Jvm.Stand.acN).before a0 Z = true) (w2 : (Jvm.Cond.native Jvm.Stand.acN).before a0 Z = true) (w3 : (Jvm.Cond.static Jvm.Stand.acN).before a0 Z = true) (w4 : (Jvm.Cond.initialized "java/lang/System").before a0 Z = true)
    (A : Arv Z h a k ty z vs dv) (B : Arv Z h b k' ty z' vd dd) (hty : refKind ty = false) (h1 : ¬ sp < 0) (h2 : ¬ dp < 0) (h3 : ¬ nn0 < 0) (h4 : sp.toNatClampNeg + nn0.toNatClampNeg ≤ z.toNatClampNeg) (h5 : dp.toNatClampNeg + nn0.toNatClampNeg ≤ z'.toNatClampNeg) (hl : dp.toNatClampNeg + nn0.toNatClampNeg ≤ vd.length)
    (vr : List Value) (hvr : vd.take dp.toNatClampNeg ++ ((List.range nn0.toNatClampNeg).map fun i => vs.getD (sp.toNatClampNeg + i) dv) ++ vd.drop (dp.toNatClampNeg + nn0.toNatClampNeg) = vr) (hb' : b ∈ us) (hsize : Ls.size = maxL) (hd : decode bytes pc = .ok (.invokestatic ix, 3))
    (hf : 1 ≤ R.frames) (W : Nat) (hW : (st.map fun v => v.category).sum ≤ W) (hlo : W + (nativeFrameWords "java/lang/System" "arraycopy" 5 + 11) ≤ R.locals) (pc' : Nat) (hp : pc + 3 = pc')
    (K : ∀ T' h', St p l e R s m args below meth c own bytes maxL ret nm Z EL nw us T' h' cells slots → Keep h h' [b] → Arv Z h' b k' ty z' vr dd → Goes p e below s Z EL nw Q kk nn (T'.setTop (mkF m pc' Ls st))) : Goes p e below s Z EL nw Q kk nn (T.setTop (mkF m pc Ls (.int nn0 :: .int dp :: .ref b :: .int sp :: .ref a :: st))) := by
  subst hp hvr
  obtain ⟨cx, vm0, locs, Y, N, eT, hS, hZ, hown, hE, hC, hU, hWn⟩ := X
  obtain ⟨u1, u2, u3⟩ := hU b hb'
  obtain ⟨T', h', L, Y', e', N', K', A', stp⟩ := cpA Y cx.1 hZ hown w1 w2 w3 w4 eT A B (Or.inl ⟨rfl, hty⟩) h1 h2 h3 h4 h5 rfl hl N u1 (g := mkF m pc Ls (.int nn0 :: .int dp :: .ref b :: .int sp :: .ref a :: st)) rfl (by rw [cx.2.2.1]; exact hsize) rfl (hb cx.2.1 hd) hf (W := W) (by show 2 * 0 + _ ≤ _; omega) hlo
  have hsf : ∀ x ∈ [b], Safe Z EL vm0 h x := fun x hx => by cases List.mem_singleton.mp hx; exact u3
  exact (K T' h' ⟨cx, vm0, L, Y', N', e', ⟨hS.1, hS.2.mono K'.1⟩, hZ, hown, ext_keep hE K' (fun x hx => by cases List.mem_singleton.mp hx; exact u1), hC.trans (CHr.keep K' hsf hC.1), fun x hx => ⟨(hU x hx).1, Nat.lt_of_lt_of_le (hU x hx).2.1 K'.1, Safe.keep K' hsf hC.1 (hU x hx).2.2⟩, hWn⟩ K' A').step stp
/-- Object's constructor -/
theorem g_initO (X : St p l e R s m args below meth c own bytes maxL ret nm Z EL nw us T h cells slots) {ix : Nat} {a : Addr} (w1 : (Jvm.Cond.methodLink own ix Lib.objectInit).before a0 Z = true) (w2 : (Jvm.Cond.instanceMethod Lib.objectInit).before a0 Z = true) (w3 : (Jvm.Cond.code Lib.objectInit ⟨#[0xb1]⟩ 1 none).before a0 Z = true) (hsize : Ls.size = maxL)
    (hd : decode bytes pc = .ok (.invokespecial ix, 3)) (hf : 1 ≤ R.frames) (W : Nat) (hW : (st.map fun v => v.category).sum ≤ W) (hl : W + 12 ≤ R.locals) (pc' : Nat) (hp : pc + 3 = pc')
    (K : ∀ T', St p l e R s m args below meth c own bytes maxL ret nm Z EL nw us T' h cells slots → Goes p e below s Z EL nw Q kk nn (T'.setTop (mkF m pc' Ls st))) : Goes p e below s Z EL nw Q kk nn (T.setTop (mkF m pc Ls (.ref a :: st))) := by
  subst hp
  obtain ⟨cx, vm0, locs, Y, N, eT, hS, hZ, hown, r⟩ := X
  obtain ⟨T', Y', e', stp⟩ := initO Y cx.1 hZ hown w1 w2 w3 eT (g := mkF m pc Ls (.ref a :: st)) rfl (by rw [cx.2.2.1]; exact hsize) rfl (hb cx.2.1 hd) hf (W := W) (by show 2 * 0 + _ ≤ _; omega) hl
  exact (K T' ⟨cx, vm0, locs, Y', N, e', hS, hZ, hown, r⟩).step stp
/-- an array's clone -/
theorem g_clone (X : St p l e R s m args below meth c own bytes maxL ret nm Z EL nw us T h cells slots) {ad : String} {ix : Nat} {a : Addr} {k : ClassId} {ty : FieldType} {z : Int32} {vs : List Value} {dv : Value}
    (w1 : (Jvm.Cond.methodLink own ix ⟨ad, "clone", "()Ljava/lang/Object;"⟩).before a0 Z = true) (w2 : (Jvm.Cond.sameMethod ad "java/lang/Object" "clone" "()Ljava/lang/Object;").before a0 Z = true) (w3 : (Jvm.Cond.native ⟨"java/lang/Object", "clone", "()Ljava/lang/Object;"⟩).before a0 Z = true)
    (w4 : (Jvm.Cond.instanceMethod ⟨"java/lang/Object", "clone", "()Ljava/lang/Object;"⟩).before a0 Z = true) (w5 : (Jvm.Cond.selects ad ⟨ad, "clone", "()Ljava/lang/Object;"⟩ ⟨"java/lang/Object", "clone", "()Ljava/lang/Object;"⟩).before a0 Z = true) (w6 : (Jvm.Cond.castable ad "java/lang/Cloneable").before a0 Z = true)
    (A : Arv Z h a k ty z vs dv) (E : Exa Z h a ad) (hsize : Ls.size = maxL) (hd : decode bytes pc = .ok (.invokevirtual ix, 3)) (hf : 1 ≤ R.frames) (W : Nat) (hW : (st.map fun v => v.category).sum ≤ W) (hl : W + 14 ≤ R.locals) (cap : Nat) (hcap : z.toNatClampNeg ≤ cap)
    {ck cs : Nat} (hck : cells + 1 = ck) (hcs : slots + cap = cs) (hc : ck ≤ R.cells) (hs : cs ≤ R.slots) (pc' : Nat) (hp : pc + 3 = pc')
    (K : ∀ a' T' h', a' = h.size → St p l e R s m args below meth c own bytes maxL ret nm Z EL nw (a' :: us) T' h' ck cs → Ext h h' → Arv Z h' a' k ty z vs dv → Exa Z h' a' ad → Goes p e below s Z EL nw Q kk nn (T'.setTop (mkF m pc' Ls (.ref a' :: st)))) : Goes p e below s Z EL nw Q kk nn (T.setTop (mkF m pc Ls (.ref a :: st))) := by
  subst hp hck hcs
  obtain ⟨cx, vm0, locs, Y, N, eT, hS, hZ, hown, hE, hC, hU, hWn⟩ := X
  obtain ⟨T', h', Y', e', Ex, A', E', stp⟩ := cloneH Y cx.1 hZ hown w1 w2 w3 w4 w5 w6 eT A.arh E (g := mkF m pc Ls (.ref a :: st)) rfl (by rw [cx.2.2.1]; exact hsize) rfl (hb cx.2.1 hd) hf (W := W) (by show 2 * 0 + _ ≤ _; omega) hl hcap hc hs
  obtain ⟨cl, q1, q2, q3, q4, q5, q6⟩ := A'
  refine (K h.size T' h' rfl ⟨cx, vm0, locs, Y', N, e', ⟨hS.1, hS.2.mono Ex.1⟩, hZ, hown, hE.trans Ex, hC.trans (CHr.ext Ex hC.1), ?_, hWn⟩ Ex ⟨cl, q1, q2, q3, q4, fun i hi => q5 i hi, fun i hi => q6 i hi⟩ E').step stp
  intro x hx
  rcases List.mem_cons.mp hx with rfl | hx
  · exact ⟨hE.1, E'.lt, Safe.ext Ex hC.1 (Safe.new (Nat.le_refl _))⟩
  · obtain ⟨q1, q2, q3⟩ := hU x hx
    exact ⟨q1, Nat.lt_of_lt_of_le q2 Ex.1, Safe.ext Ex hC.1 q3⟩
end HeapOps
section CallOps
variable {p : Program} {l : Launch} {e : Env} {R : Room} {s : State} {m : MethodId} {args : Array Value} {below : List Frame} {meth : Method} {c : Code}
  {own : String} {bytes : ByteArray} {maxL : Nat} {ret : Option FieldType} {nm : String} {Z : State} {EL : List (String × Nat)} {nw : Bool} {us : List Addr}
  {T : State} {h : Heap} {cells slots : Nat} {Q : Option Value → Heap → Prop} {kk nn : Nat} {a0 : Array Value} {pc : Nat} {Ls : Array Slot} {st : List Value}

/-- who pays a call: the callee's contract -/
theorem backC {y : MethodName} {cb : ByteArray} {cm : Nat} {cr : Option FieldType} {rm : Room} {len W : Nat} {as' : Array Value} {us' : List Addr} {Qc : Option Value → Heap → Prop} {vm0 : Vm}
    (hM : Ctr l Z EL nw y cb cm cr rm as' h us' Qc) (hZ : Z.Warmed39 vm0) (wc : (Jvm.Cond.code y cb cm cr).before a0 Z = true) (wz : (Jvm.Cond.initialized y.cls).before a0 Z = true) (hf : rm.frames + 1 ≤ R.frames) (hl : W + (cm + 11) + rm.locals ≤ R.locals)
    {a1 : Array Value} (hEL : EW Z a1 EL) (hE : Ext Z.heap h) (H : CHv Z EL vm0 h) (hU : ∀ x ∈ us', Z.heap.size ≤ x ∧ x < h.size ∧ Safe Z EL vm0 h x) :
    BackS l R p e below (s.setVm vm0) args y len W (fun A a => a = as' ∧ A.U.heap = h ∧ A.cells + rm.cells ≤ R.cells ∧ A.slots + rm.slots ≤ R.slots)
      (fun A _ v B => ∃ L, Qc v B.U.heap ∧ Fr Z.heap.size L ∧ Ext Z.heap B.U.heap ∧ B.locs = A.locs ++ L ∧ B.cells = A.cells + rm.cells ∧ B.slots = A.slots + rm.slots ∧ CHr Z EL vm0 h B.U.vm B.U.heap ∧ (nw = true → (s.setVm vm0).WarmedH B.U.vm)) :=
  BackS.of_freeW (bytes := cb) (maxL := cm) (ret := cr)
    (E := fun _ first o t L k n => k = rm.cells ∧ n = rm.slots ∧ (∃ v, o = .returned v ∧ Qc v t.heap) ∧ Fr Z.heap.size L ∧ Ext Z.heap t.heap ∧ CHr Z EL first.vm first.heap t.vm t.heap ∧ (nw = true → first.WarmedH t.vm)) (hM []) hf hl
    (fun m meth c A a Y hp => have hU : Z.Warmed39 A.U.vm := wtrans (s := s.setVm vm0) hZ Y.warmed
      ⟨by show (Jvm.Cond.and _ .tt).before a A.U = true; rw [Jvm.Cond.before_and, mv hU wc]; rfl, mv hU wc, mv hU wz, hp.2.2.1, hp.2.2.2⟩)
    (fun m meth c A a g mk Y hp => ⟨hp.1, wtrans (s := s.setVm vm0) hZ Y.warmed, hp.2.1, hE, (CHv.at Y hZ hEL H).1, fun x hx => ⟨(hU x hx).1, (hU x hx).2.1, (CHv.at Y hZ hEL H).safe (hU x hx).2.1 (hU x hx).2.2⟩⟩) (fun _ _ _ _ _ _ _ _ _ => trivial)
    (fun _ _ _ _ ⟨v, L, h1, h2, h3, h4, h5, h6, h7⟩ => ⟨L, _, _, h6, rfl, rfl, ⟨v, h1, h2⟩, h3, h4, h5, h7⟩)
    (fun m meth c A a g mk v t L k n Y hp _ _ ⟨e1, e2, ⟨v', e3, e4⟩, e5, e6, e7, e8⟩ => by
      cases e3; subst e1 e2
      refine ⟨L, e4, e5, e6, rfl, rfl, rfl, (CHv.at Y hZ hEL H).trans ?_, fun q => State.WarmedH.trans (t := A.U) Y.warmed (e8 q)⟩
      rw [← hp.2.1]; exact e7)
/-- behind a call -/
theorem St.back {vm0 : Vm} {locs : List Loc} {B : Pt} {L : List Loc} {ck cs : Nat}
    (cx : p.tables.exec = Jvm.exec ∧ c.code = bytes ∧ c.maxLocals = maxL ∧ meth.sig.returnType = ret ∧ meth.name = nm ∧ meth.locks = false ∧ ∃ a0, EW Z a0 EL)
    (N : Fr Z.heap.size locs) (hS : s.Since vm0 h.size) (hZ : Z.Warmed39 vm0) (hown : vm0.findClass own = some m.cls) (hC : CHr Z EL s.vm s.heap vm0 h)
    (hU : ∀ x ∈ us, Z.heap.size ≤ x ∧ x < h.size ∧ Safe Z EL vm0 h x) (hW : nw = true → s.WarmedH vm0)
    (Y : Stand p l e R ((s.setVm vm0).setVm B.U.vm) m args below meth c B.U B.locs B.cells B.slots) (h2 : (s.setVm vm0).Since B.U.vm B.U.heap.size) (hg : h.size ≤ B.U.heap.size)
    (N' : Fr Z.heap.size L) (hE : Ext Z.heap B.U.heap) (l1 : B.locs = locs ++ L) (l2 : B.cells = ck) (l3 : B.slots = cs) (hC' : CHr Z EL vm0 h B.U.vm B.U.heap) (hW' : nw = true → (s.setVm vm0).WarmedH B.U.vm) :
    St p l e R s m args below meth c own bytes maxL ret nm Z EL nw us B.U B.U.heap ck cs := by
  subst l2 l3
  rw [l1] at Y
  exact ⟨cx, B.U.vm, locs ++ L, Y, N.app N', rfl, hS.trans h2 hg, State.Warmed39.trans hZ h2.1, (h2.1.alike.findClass _ _).trans hown, hE, hC.trans hC', fun x hx => ⟨(hU x hx).1, Nat.lt_of_lt_of_le (hU x hx).2.1 hg, hC'.safe (hU x hx).2.1 (hU x hx).2.2⟩, fun q => State.WarmedH.trans (t := s.setVm vm0) (hW q) (hW' q)⟩
theorem g_callS (X : St p l e R s m args below meth c own bytes maxL ret nm Z EL nw us T h cells slots) {y : MethodName} {cb : ByteArray} {cm : Nat} {cr : Option FieldType} {rm : Room} {as' : Array Value} {us' : List Addr} {Qc : Option Value → Heap → Prop} {ix : Nat}
    (w1 : (Jvm.Cond.methodLink own ix y).before a0 Z = true) (w2 : (Jvm.Cond.static y).before a0 Z = true) (w3 : (Jvm.Cond.initialized y.cls).before a0 Z = true) (w4 : (Jvm.Cond.code y cb cm cr).before a0 Z = true)
    (hy : y.cls ≠ "java/lang/invoke/MethodHandle" ∧ y.cls ≠ "java/lang/invoke/VarHandle") (hM : Ctr l Z EL nw y cb cm cr rm as' h us' Qc) (hus : ∀ x ∈ us', x ∈ us)
    {argsL rest : List Value} {ps : List FieldType} {rt : Option FieldType} (hpd : parseMethodDescriptor y.desc = some ⟨ps, rt⟩) (hlen : argsL.length = ps.length) (has : argsL.toArray = as') (hst : st = argsL.reverse ++ rest) (hsize : Ls.size = maxL)
    (W : Nat) (hW : (rest.map fun v => v.category).sum ≤ W) (hf : rm.frames + 1 ≤ R.frames) (hl : W + (cm + 11) + rm.locals ≤ R.locals) {ck cs : Nat} (hck : cells + rm.cells = ck) (hcs : slots + rm.slots = cs) (hc : ck ≤ R.cells) (hs : cs ≤ R.slots)
    (hd : decode bytes pc = .ok (.invokestatic ix, 3)) (pc' : Nat) (hp : pc + 3 = pc')
    (K : ∀ v T' h', St p l e R s m args below meth c own bytes maxL ret nm Z EL nw us T' h' ck cs → Qc v h' → Goes p e below s Z EL nw Q kk nn (T'.setTop (mkF m pc' Ls (v.toList ++ rest)))) : Goes p e below s Z EL nw Q kk nn (T.setTop (mkF m pc Ls st)) := by
  subst hp hck hcs
  obtain ⟨cx, vm0, locs, Y, N, eT, hS, hZ, hown, hE, hC, hU, hWn⟩ := X
  obtain ⟨a1, hEL⟩ := cx.2.2.2.2.2.2
  have w4' := mvT (s := s.setVm vm0) (args := args) hZ w4
  obtain ⟨mk, hnamed⟩ := Jvm.Cond.code_named w4'
  obtain ⟨methM, cM, hmethM, -, -, -, -, -, -, hsigM⟩ := Jvm.Cond.code_spec hnamed w4'
  obtain ⟨v, vm₁, B, -, Y', h2, hg, ⟨L, q1, q2, q3, q4, q5, q6, q7, q8⟩, stp⟩ := Y.staticBackS cx.1 (own := own) (index := ix) (y := y) hown (mvT (s := s.setVm vm0) hZ w1) (mvT (s := s.setVm vm0) hZ w2) (mvT (s := s.setVm vm0) hZ w3) hnamed hmethM hsigM hy
    (backC (W := W) hM hZ w4 w3 hf hl hEL hE hC.1 fun x hx => hU x (hus x hx)) (g := mkF m pc Ls st) rfl (by rw [cx.2.2.1]; exact hsize) (Steps.refl _) (argsL := argsL) (rest := rest) (lenOf hpd hlen) hst (by show 2 * 0 + _ ≤ _; omega) (hb cx.2.1 hd)
    (fun _ _ => ⟨has, eT, hc, hs⟩)
  exact (K v B.U B.U.heap (St.back cx N hS hZ hown hC hU hWn Y' h2 (by rw [← eT]; exact hg) q2 q3 q4 q5 q6 q7 q8) q1).step fun t k => stp.trans k
theorem g_callI (X : St p l e R s m args below meth c own bytes maxL ret nm Z EL nw us T h cells slots) {y : MethodName} {cb : ByteArray} {cm : Nat} {rm : Room} {as' : Array Value} {us' : List Addr} {Qc : Option Value → Heap → Prop} {ix : Nat} (hy1 : y.name = "<init>")
    (w1 : (Jvm.Cond.methodLink own ix y).before a0 Z = true) (w2 : (Jvm.Cond.instanceMethod y).before a0 Z = true) (w3 : (Jvm.Cond.initialized y.cls).before a0 Z = true) (w4 : (Jvm.Cond.code y cb cm none).before a0 Z = true)
    (hy : y.cls ≠ "java/lang/invoke/MethodHandle" ∧ y.cls ≠ "java/lang/invoke/VarHandle") (hM : Ctr l Z EL nw y cb cm none rm as' h us' Qc) (hus : ∀ x ∈ us', x ∈ us)
    {a : Addr} {argsL rest : List Value} {ps : List FieldType} {rt : Option FieldType} (hpd : parseMethodDescriptor y.desc = some ⟨ps, rt⟩) (hlen : argsL.length = ps.length) (has : (.ref a :: argsL).toArray = as') (hst : st = argsL.reverse ++ .ref a :: rest) (hsize : Ls.size = maxL)
    (W : Nat) (hW : (rest.map fun v => v.category).sum ≤ W) (hf : rm.frames + 1 ≤ R.frames) (hl : W + (cm + 11) + rm.locals ≤ R.locals) {ck cs : Nat} (hck : cells + rm.cells = ck) (hcs : slots + rm.slots = cs) (hc : ck ≤ R.cells) (hs : cs ≤ R.slots)
    (hd : decode bytes pc = .ok (.invokespecial ix, 3)) (pc' : Nat) (hp : pc + 3 = pc')
    (K : ∀ v T' h', St p l e R s m args below meth c own bytes maxL ret nm Z EL nw us T' h' ck cs → Qc v h' → Goes p e below s Z EL nw Q kk nn (T'.setTop (mkF m pc' Ls (v.toList ++ rest)))) : Goes p e below s Z EL nw Q kk nn (T.setTop (mkF m pc Ls st)) := by
  subst hp hck hcs
  obtain ⟨cx, vm0, locs, Y, N, eT, hS, hZ, hown, hE, hC, hU, hWn⟩ := X
  obtain ⟨a1, hEL⟩ := cx.2.2.2.2.2.2
  obtain ⟨v, vm₁, B, -, Y', h2, hg, ⟨L, q1, q2, q3, q4, q5, q6, q7, q8⟩, stp⟩ := Y.specialBackS cx.1 (own := own) (index := ix) (y := y) hy1 hown (mvT (s := s.setVm vm0) hZ w1) (mvT (s := s.setVm vm0) hZ w2) (mvT (s := s.setVm vm0) hZ w4) hy
    (backC (W := W) hM hZ w4 w3 hf hl hEL hE hC.1 fun x hx => hU x (hus x hx)) (g := mkF m pc Ls st) rfl (by rw [cx.2.2.1]; exact hsize) (Steps.refl _) (a := a) (argsL := argsL) (rest := rest) (lenOf hpd hlen) hst (by show 2 * 0 + _ ≤ _; omega) (hb cx.2.1 hd)
    (fun _ _ => ⟨has, eT, hc, hs⟩)
  exact (K v B.U B.U.heap (St.back cx N hS hZ hown hC hU hWn Y' h2 (by rw [← eT]; exact hg) q2 q3 q4 q5 q6 q7 q8) q1).step fun t k => stp.trans k
theorem nfSel {C : String} {y : MethodName} (w : (Jvm.Cond.selects C y y).before a0 Z = true) : ∀ s' : State, Z.Warmed39 s'.vm → NotFace s' y := fun s' hZ => notFace_of_selects (args := #[]) (mvT (s := s') hZ w)
theorem g_callV (X : St p l e R s m args below meth c own bytes maxL ret nm Z EL nw us T h cells slots) {C : String} {y z : MethodName} {cb : ByteArray} {cm : Nat} {cr : Option FieldType} {rm : Room} {as' : Array Value} {us' : List Addr} {Qc : Option Value → Heap → Prop} {ix : Nat}
    (w1 : (Jvm.Cond.methodLink own ix y).before a0 Z = true) (w2 : (Jvm.Cond.declares y).before a0 Z = true) (w3 : (Jvm.Cond.selects C y z).before a0 Z = true) (w4 : (Jvm.Cond.instanceMethod z).before a0 Z = true) (w5 : (Jvm.Cond.initialized z.cls).before a0 Z = true) (w6 : (Jvm.Cond.code z cb cm cr).before a0 Z = true)
    (hnf : ∀ s' : State, Z.Warmed39 s'.vm → NotFace s' y) (hy : y.cls ≠ "java/lang/invoke/MethodHandle" ∧ y.cls ≠ "java/lang/invoke/VarHandle") {a : Addr} (Ex : Exa Z h a C) (hM : Ctr l Z EL nw z cb cm cr rm as' h us' Qc) (hus : ∀ x ∈ us', x ∈ us)
    {argsL rest : List Value} {ps : List FieldType} {rt : Option FieldType} (hpd : parseMethodDescriptor y.desc = some ⟨ps, rt⟩) (hlen : argsL.length = ps.length) (has : (.ref a :: argsL).toArray = as') (hst : st = argsL.reverse ++ .ref a :: rest) (hsize : Ls.size = maxL)
    (W : Nat) (hW : (rest.map fun v => v.category).sum ≤ W) (hf : rm.frames + 1 ≤ R.frames) (hl : W + (cm + 11) + rm.locals ≤ R.locals) {ck cs : Nat} (hck : cells + rm.cells = ck) (hcs : slots + rm.slots = cs) (hc : ck ≤ R.cells) (hs : cs ≤ R.slots)
    (hd : decode bytes pc = .ok (.invokevirtual ix, 3)) (pc' : Nat) (hp : pc + 3 = pc')
    (K : ∀ v T' h', St p l e R s m args below meth c own bytes maxL ret nm Z EL nw us T' h' ck cs → Qc v h' → Goes p e below s Z EL nw Q kk nn (T'.setTop (mkF m pc' Ls (v.toList ++ rest)))) : Goes p e below s Z EL nw Q kk nn (T.setTop (mkF m pc Ls st)) := by
  subst hp hck hcs
  obtain ⟨cx, vm0, locs, Y, N, eT, hS, hZ, hown, hE, hC, hU, hWn⟩ := X
  obtain ⟨a1, hEL⟩ := cx.2.2.2.2.2.2
  obtain ⟨cq, kq, qa, qb, qc⟩ := isOf (s := s.setVm vm0) hZ eT Ex
  obtain ⟨v, vm₁, B, -, Y', h2, hg, ⟨L, q1, q2, q3, q4, q5, q6, q7, q8⟩, stp⟩ := Y.virtualBackS cx.1 (own := own) (index := ix) (y := y) (z := z) hown (mvT (s := s.setVm vm0) hZ w1) (mvT (s := s.setVm vm0) hZ w2) (hnf (s.setVm vm0) hZ) (mvT (s := s.setVm vm0) hZ w3) (mvT (s := s.setVm vm0) hZ w4) hy
    (backC (W := W) hM hZ w6 w5 hf hl hEL hE hC.1 fun x hx => hU x (hus x hx)) qa qc (g := mkF m pc Ls st) rfl (by rw [cx.2.2.1]; exact hsize) (Steps.refl _) (argsL := argsL) (rest := rest) (lenOf hpd hlen) hst (by show 2 * 0 + _ ≤ _; omega) (hb cx.2.1 hd)
    (fun _ _ => ⟨has, eT, hc, hs⟩)
  exact (K v B.U B.U.heap (St.back cx N hS hZ hown hC hU hWn Y' h2 (by rw [← eT]; exact hg) q2 q3 q4 q5 q6 q7 q8) q1).step fun t k => stp.trans k
theorem g_callSp (X : St p l e R s m args below meth c own bytes maxL ret nm Z EL nw us T h cells slots) {y : MethodName} {cb : ByteArray} {cm : Nat} {cr : Option FieldType} {rm : Room} {as' : Array Value} {us' : List Addr} {Qv : Value → Prop} {ix : Nat}
    (w1 : (Jvm.Cond.methodLink own ix y).before a0 Z = true) (w2 : (Jvm.Cond.static y).before a0 Z = true) (w3 : (Jvm.Cond.initialized y.cls).before a0 Z = true) (w4 : (Jvm.Cond.code y cb cm cr).before a0 Z = true)
    (hy : y.cls ≠ "java/lang/invoke/MethodHandle" ∧ y.cls ≠ "java/lang/invoke/VarHandle") (hM : Ctr l Z EL nw y cb cm cr rm as' h us' (PureQ h Qv)) (hus : ∀ x ∈ us', x ∈ us)
    {argsL rest : List Value} {ps : List FieldType} {rt : Option FieldType} (hpd : parseMethodDescriptor y.desc = some ⟨ps, rt⟩) (hlen : argsL.length = ps.length) (has : argsL.toArray = as') (hst : st = argsL.reverse ++ rest) (hsize : Ls.size = maxL)
    (W : Nat) (hW : (rest.map fun v => v.category).sum ≤ W) (hf : rm.frames + 1 ≤ R.frames) (hl : W + (cm + 11) + rm.locals ≤ R.locals) {ck cs : Nat} (hck : cells + rm.cells = ck) (hcs : slots + rm.slots = cs) (hc : ck ≤ R.cells) (hs : cs ≤ R.slots)
    (hd : decode bytes pc = .ok (.invokestatic ix, 3)) (pc' : Nat) (hp : pc + 3 = pc')
    (K : ∀ w T', St p l e R s m args below meth c own bytes maxL ret nm Z EL nw us T' h ck cs → Qv w → Goes p e below s Z EL nw Q kk nn (T'.setTop (mkF m pc' Ls (w :: rest)))) : Goes p e below s Z EL nw Q kk nn (T.setTop (mkF m pc Ls st)) :=
  g_callS X w1 w2 w3 w4 hy hM hus hpd hlen has hst hsize W hW hf hl hck hcs hc hs hd pc' hp (by
    intro v T' h' X' hq
    obtain ⟨rfl, w, rfl, hw⟩ := hq
    exact K w T' X' hw)
theorem g_callSv (X : St p l e R s m args below meth c own bytes maxL ret nm Z EL nw us T h cells slots) {y : MethodName} {cb : ByteArray} {cm : Nat} {cr : Option FieldType} {rm : Room} {as' : Array Value} {us' : List Addr} {Qv : Value → Heap → Prop} {ix : Nat}
    (w1 : (Jvm.Cond.methodLink own ix y).before a0 Z = true) (w2 : (Jvm.Cond.static y).before a0 Z = true) (w3 : (Jvm.Cond.initialized y.cls).before a0 Z = true) (w4 : (Jvm.Cond.code y cb cm cr).before a0 Z = true)
    (hy : y.cls ≠ "java/lang/invoke/MethodHandle" ∧ y.cls ≠ "java/lang/invoke/VarHandle") (hM : Ctr l Z EL nw y cb cm cr rm as' h us' (ValQ Qv)) (hus : ∀ x ∈ us', x ∈ us)
    {argsL rest : List Value} {ps : List FieldType} {rt : Option FieldType} (hpd : parseMethodDescriptor y.desc = some ⟨ps, rt⟩) (hlen : argsL.length = ps.length) (has : argsL.toArray = as') (hst : st = argsL.reverse ++ rest) (hsize : Ls.size = maxL)
    (W : Nat) (hW : (rest.map fun v => v.category).sum ≤ W) (hf : rm.frames + 1 ≤ R.frames) (hl : W + (cm + 11) + rm.locals ≤ R.locals) {ck cs : Nat} (hck : cells + rm.cells = ck) (hcs : slots + rm.slots = cs) (hc : ck ≤ R.cells) (hs : cs ≤ R.slots)
    (hd : decode bytes pc = .ok (.invokestatic ix, 3)) (pc' : Nat) (hp : pc + 3 = pc')
    (K : ∀ w T' h', St p l e R s m args below meth c own bytes maxL ret nm Z EL nw us T' h' ck cs → Qv w h' → Goes p e below s Z EL nw Q kk nn (T'.setTop (mkF m pc' Ls (w :: rest)))) : Goes p e below s Z EL nw Q kk nn (T.setTop (mkF m pc Ls st)) :=
  g_callS X w1 w2 w3 w4 hy hM hus hpd hlen has hst hsize W hW hf hl hck hcs hc hs hd pc' hp (by
    intro v T' h' X' hq
    obtain ⟨w, rfl, hw⟩ := hq
    exact K w T' h' X' hw)
theorem g_callSn (X : St p l e R s m args below meth c own bytes maxL ret nm Z EL nw us T h cells slots) {y : MethodName} {cb : ByteArray} {cm : Nat} {cr : Option FieldType} {rm : Room} {as' : Array Value} {us' : List Addr} {Qn : Heap → Prop} {ix : Nat}
    (w1 : (Jvm.Cond.methodLink own ix y).before a0 Z = true) (w2 : (Jvm.Cond.static y).before a0 Z = true) (w3 : (Jvm.Cond.initialized y.cls).before a0 Z = true) (w4 : (Jvm.Cond.code y cb cm cr).before a0 Z = true)
    (hy : y.cls ≠ "java/lang/invoke/MethodHandle" ∧ y.cls ≠ "java/lang/invoke/VarHandle") (hM : Ctr l Z EL nw y cb cm cr rm as' h us' (VoidQ Qn)) (hus : ∀ x ∈ us', x ∈ us)
    {argsL rest : List Value} {ps : List FieldType} {rt : Option FieldType} (hpd : parseMethodDescriptor y.desc = some ⟨ps, rt⟩) (hlen : argsL.length = ps.length) (has : argsL.toArray = as') (hst : st = argsL.reverse ++ rest) (hsize : Ls.size = maxL)
    (W : Nat) (hW : (rest.map fun v => v.category).sum ≤ W) (hf : rm.frames + 1 ≤ R.frames) (hl : W + (cm + 11) + rm.locals ≤ R.locals) {ck cs : Nat} (hck : cells + rm.cells = ck) (hcs : slots + rm.slots = cs) (hc : ck ≤ R.cells) (hs : cs ≤ R.slots)
    (hd : decode bytes pc = .ok (.invokestatic ix, 3)) (pc' : Nat) (hp : pc + 3 = pc')
    (K : ∀ T' h', St p l e R s m args below meth c own bytes maxL ret nm Z EL nw us T' h' ck cs → Qn h' → Goes p e below s Z EL nw Q kk nn (T'.setTop (mkF m pc' Ls rest))) : Goes p e below s Z EL nw Q kk nn (T.setTop (mkF m pc Ls st)) :=
  g_callS X w1 w2 w3 w4 hy hM hus hpd hlen has hst hsize W hW hf hl hck hcs hc hs hd pc' hp (by
    intro v T' h' X' hq
    obtain ⟨rfl, hw⟩ := hq
    exact K T' h' X' hw)
theorem g_callIn (X : St p l e R s m args below meth c own bytes maxL ret nm Z EL nw us T h cells slots) {y : MethodName} {cb : ByteArray} {cm : Nat} {rm : Room} {as' : Array Value} {us' : List Addr} {Qn : Heap → Prop} {ix : Nat} (hy1 : y.name = "<init>")
    (w1 : (Jvm.Cond.methodLink own ix y).before a0 Z = true) (w2 : (Jvm.Cond.instanceMethod y).before a0 Z = true) (w3 : (Jvm.Cond.initialized y.cls).before a0 Z = true) (w4 : (Jvm.Cond.code y cb cm none).before a0 Z = true)
    (hy : y.cls ≠ "java/lang/invoke/MethodHandle" ∧ y.cls ≠ "java/lang/invoke/VarHandle") (hM : Ctr l Z EL nw y cb cm none rm as' h us' (VoidQ Qn)) (hus : ∀ x ∈ us', x ∈ us)
    {a : Addr} {argsL rest : List Value} {ps : List FieldType} {rt : Option FieldType} (hpd : parseMethodDescriptor y.desc = some ⟨ps, rt⟩) (hlen : argsL.length = ps.length) (has : (.ref a :: argsL).toArray = as') (hst : st = argsL.reverse ++ .ref a :: rest) (hsize : Ls.size = maxL)
    (W : Nat) (hW : (rest.map fun v => v.category).sum ≤ W) (hf : rm.frames + 1 ≤ R.frames) (hl : W + (cm + 11) + rm.locals ≤ R.locals) {ck cs : Nat} (hck : cells + rm.cells = ck) (hcs : slots + rm.slots = cs) (hc : ck ≤ R.cells) (hs : cs ≤ R.slots)
    (hd : decode bytes pc = .ok (.invokespecial ix, 3)) (pc' : Nat) (hp : pc + 3 = pc')
    (K : ∀ T' h', St p l e R s m args below meth c own bytes maxL ret nm Z EL nw us T' h' ck cs → Qn h' → Goes p e below s Z EL nw Q kk nn (T'.setTop (mkF m pc' Ls rest))) : Goes p e below s Z EL nw Q kk nn (T.setTop (mkF m pc Ls st)) :=
  g_callI X hy1 w1 w2 w3 w4 hy hM hus hpd hlen has hst hsize W hW hf hl hck hcs hc hs hd pc' hp (by
    intro v T' h' X' hq
    obtain ⟨rfl, hw⟩ := hq
    exact K T' h' X' hw)
theorem g_callVp (X : St p l e R s m args below meth c own bytes maxL ret nm Z EL nw us T h cells slots) {C : String} {y z : MethodName} {cb : ByteArray} {cm : Nat} {cr : Option FieldType} {rm : Room} {as' : Array Value} {us' : List Addr} {Qv : Value → Prop} {ix : Nat}
    (w1 : (Jvm.Cond.methodLink own ix y).before a0 Z = true) (w2 : (Jvm.Cond.declares y).before a0 Z = true) (w3 : (Jvm.Cond.selects C y z).before a0 Z = true) (w4 : (Jvm.Cond.instanceMethod z).before a0 Z = true) (w5 : (Jvm.Cond.initialized z.cls).before a0 Z = true) (w6 : (Jvm.Cond.code z cb cm cr).before a0 Z = true)
    (hnf : ∀ s' : State, Z.Warmed39 s'.vm → NotFace s' y) (hy : y.cls ≠ "java/lang/invoke/MethodHandle" ∧ y.cls ≠ "java/lang/invoke/VarHandle") {a : Addr} (Ex : Exa Z h a C) (hM : Ctr l Z EL nw z cb cm cr rm as' h us' (PureQ h Qv)) (hus : ∀ x ∈ us', x ∈ us)
    {argsL rest : List Value} {ps : List FieldType} {rt : Option FieldType} (hpd : parseMethodDescriptor y.desc = some ⟨ps, rt⟩) (hlen : argsL.length = ps.length) (has : (.ref a :: argsL).toArray = as') (hst : st = argsL.reverse ++ .ref a :: rest) (hsize : Ls.size = maxL)
    (W : Nat) (hW : (rest.map fun v => v.category).sum ≤ W) (hf : rm.frames + 1 ≤ R.frames) (hl : W + (cm + 11) + rm.locals ≤ R.locals) {ck cs : Nat} (hck : cells + rm.cells = ck) (hcs : slots + rm.slots = cs) (hc : ck ≤ R.cells) (hs : cs ≤ R.slots)
    (hd : decode bytes pc = .ok (.invokevirtual ix, 3)) (pc' : Nat) (hp : pc + 3 = pc')
    (K : ∀ w T', St p l e R s m args below meth c own bytes maxL ret nm Z EL nw us T' h ck cs → Qv w → Goes p e below s Z EL nw Q kk nn (T'.setTop (mkF m pc' Ls (w :: rest)))) : Goes p e below s Z EL nw Q kk nn (T.setTop (mkF m pc Ls st)) :=
  g_callV X w1 w2 w3 w4 w5 w6 hnf hy Ex hM hus hpd hlen has hst hsize W hW hf hl hck hcs hc hs hd pc' hp (by
    intro v T' h' X' hq
    obtain ⟨rfl, w, rfl, hw⟩ := hq
    exact K w T' X' hw)
theorem g_callVv (X : St p l e R s m args below meth c own bytes maxL ret nm Z EL nw us T h cells slots) {C : String} {y z : MethodName} {cb : ByteArray} {cm : Nat} {cr : Option FieldType} {rm : Room} {as' : Array Value} {us' : List Addr} {Qv : Value → Heap → Prop} {ix : Nat}
    (w1 : (Jvm.Cond.methodLink own ix y).before a0 Z = true) (w2 : (Jvm.Cond.declares y).before a0 Z = true) (w3 : (Jvm.Cond.selects C y z).before a0 Z = true) (w4 : (Jvm.Cond.instanceMethod z).before a0 Z = true) (w5 : (Jvm.Cond.initialized z.cls).before a0 Z = true) (w6 : (Jvm.Cond.code z cb cm cr).before a0 Z = true)
    (hnf : ∀ s' : State, Z.Warmed39 s'.vm → NotFace s' y) (hy : y.cls ≠ "java/lang/invoke/MethodHandle" ∧ y.cls ≠ "java/lang/invoke/VarHandle") {a : Addr} (Ex : Exa Z h a C) (hM : Ctr l Z EL nw z cb cm cr rm as' h us' (ValQ Qv)) (hus : ∀ x ∈ us', x ∈ us)
    {argsL rest : List Value} {ps : List FieldType} {rt : Option FieldType} (hpd : parseMethodDescriptor y.desc = some ⟨ps, rt⟩) (hlen : argsL.length = ps.length) (has : (.ref a :: argsL).toArray = as') (hst : st = argsL.reverse ++ .ref a :: rest) (hsize : Ls.size = maxL)
    (W : Nat) (hW : (rest.map fun v => v.category).sum ≤ W) (hf : rm.frames + 1 ≤ R.frames) (hl : W + (cm + 11) + rm.locals ≤ R.locals) {ck cs : Nat} (hck : cells + rm.cells = ck) (hcs : slots + rm.slots = cs) (hc : ck ≤ R.cells) (hs : cs ≤ R.slots)
    (hd : decode bytes pc = .ok (.invokevirtual ix, 3)) (pc' : Nat) (hp : pc + 3 = pc')
    (K : ∀ w T' h', St p l e R s m args below meth c own bytes maxL ret nm Z EL nw us T' h' ck cs → Qv w h' → Goes p e below s Z EL nw Q kk nn (T'.setTop (mkF m pc' Ls (w :: rest)))) : Goes p e below s Z EL nw Q kk nn (T.setTop (mkF m pc Ls st)) :=
  g_callV X w1 w2 w3 w4 w5 w6 hnf hy Ex hM hus hpd hlen has hst hsize W hW hf hl hck hcs hc hs hd pc' hp (by
    intro v T' h' X' hq
    obtain ⟨w, rfl, hw⟩ := hq
    exact K w T' h' X' hw)
theorem g_callVn (X : St p l e R s m args below meth c own bytes maxL ret nm Z EL nw us T h cells slots) {C : String} {y z : MethodName} {cb : ByteArray} {cm : Nat} {cr : Option FieldType} {rm : Room} {as' : Array Value} {us' : List Addr} {Qn : Heap → Prop} {ix : Nat}
    (w1 : (Jvm.Cond.methodLink own ix y).before a0 Z = true) (w2 : (Jvm.Cond.declares y).before a0 Z = true) (w3 : (Jvm.Cond.selects C y z).before a0 Z = true) (w4 : (Jvm.Cond.instanceMethod z).before a0 Z = true) (w5 : (Jvm.Cond.initialized z.cls).before a0 Z = true) (w6 : (Jvm.Cond.code z cb cm cr).before a0 Z = true)
    (hnf : ∀ s' : State, Z.Warmed39 s'.vm → NotFace s' y) (hy : y.cls ≠ "java/lang/invoke/MethodHandle" ∧ y.cls ≠ "java/lang/invoke/VarHandle") {a : Addr} (Ex : Exa Z h a C) (hM : Ctr l Z EL nw z cb cm cr rm as' h us' (VoidQ Qn)) (hus : ∀ x ∈ us', x ∈ us)
    {argsL rest : List Value} {ps : List FieldType} {rt : Option FieldType} (hpd : parseMethodDescriptor y.desc = some ⟨ps, rt⟩) (hlen : argsL.length = ps.length) (has : (.ref a :: argsL).toArray = as') (hst : st = argsL.reverse ++ .ref a :: rest) (hsize : Ls.size = maxL)
    (W : Nat) (hW : (rest.map fun v => v.category).sum ≤ W) (hf : rm.frames + 1 ≤ R.frames) (hl : W + (cm + 11) + rm.locals ≤ R.locals) {ck cs : Nat} (hck : cells + rm.cells = ck) (hcs : slots + rm.slots = cs) (hc : ck ≤ R.cells) (hs : cs ≤ R.slots)
    (hd : decode bytes pc = .ok (.invokevirtual ix, 3)) (pc' : Nat) (hp : pc + 3 = pc')
    (K : ∀ T' h', St p l e R s m args below meth c own bytes maxL ret nm Z EL nw us T' h' ck cs → Qn h' → Goes p e below s Z EL nw Q kk nn (T'.setTop (mkF m pc' Ls rest))) : Goes p e below s Z EL nw Q kk nn (T.setTop (mkF m pc Ls st)) :=
  g_callV X w1 w2 w3 w4 w5 w6 hnf hy Ex hM hus hpd hlen has hst hsize W hW hf hl hck hcs hc hs hd pc' hp (by
    intro v T' h' X' hq
    obtain ⟨rfl, hw⟩ := hq
    exact K T' h' X' hw)
end CallOps
end Jvm.OwnKit
namespace Jvm.OwnKit
open Sem ClassFile Op Lib Jvm.Stand Jvm.Free Jvm.LawKit Jvm.RoadKit
section StartFacts
variable {args : Array Value} {s : State} {t X F : Term} {a y : Addr}
theorem own_eqr (hF : F.eval args s none [] s = some (.ref y)) (h : (Jvm.Cond.eq X F).value args s none s [] = some true) : X.eval args s none [] s = some (.ref y) := by
  obtain ⟨x, y', e1, e2, k1, k2⟩ := cmp_v (Or.inl h)
  cases hF.symm.trans e2
  have hx : x.isRef = true := by cases x <;> simp_all [Jvm.Cond.value, Value.isRef]
  have q := gotT (eq_R e1 hF hx rfl) h
  rw [e1, q]
theorem own_fldI {C n d : String} {v : Int32} (ht : t.eval args s none [] s = some (.ref a)) (h : (Jvm.Cond.eq (.field t C n d) (.int v)).value args s none s [] = some true) : Fld s s.heap a C n d (.int v) := by
  have e := eqv_i (Term.int_eval v) h
  rw [fld_at ht] at e
  exact Fld.start e
theorem own_fld0 {C n d : String} (ht : t.eval args s none [] s = some (.ref a)) (h : (Jvm.Cond.eq (.field t C n d) .null).value args s none s [] = some true) : Fld s s.heap a C n d .null := by
  have e := null_v h
  rw [fld_at ht] at e
  exact Fld.start e
theorem own_fldR {C n d : String} {F : Term} (ht : t.eval args s none [] s = some (.ref a)) (hF : F.eval args s none [] s = some (.ref y)) (h : (Jvm.Cond.eq (.field t C n d) F).value args s none s [] = some true) : Fld s s.heap a C n d (.ref y) := by
  have e := own_eqr hF h
  rw [fld_at ht] at e
  exact Fld.start e
theorem own_len {cl : Cell} {ty : FieldType} {z : Int32} (A : Arr s s.heap a cl ty) (ht : t.eval args s none [] s = some (.ref a)) (h : (Jvm.Cond.eq (.length t) (.int z)).value args s none s [] = some true) : cl.slots.size < 2 ^ 31 ∧ cl.slots.size.toInt32 = z := by
  have e := eqv_i (Term.int_eval z) h
  have ha := Arr.fin (U := s) (Vm.Alike.refl _) A
  have e2 : (Term.length t).eval args s none [] s = if cl.slots.size < 2 ^ 31 then some (.int cl.slots.size.toInt32) else none := by simp [Term.eval, ht, ha]
  rw [e2] at e
  by_cases q : cl.slots.size < 2 ^ 31
  · rw [if_pos q] at e
    exact ⟨q, Value.int.inj (Option.some.inj e)⟩
  · rw [if_neg q] at e; cases e
theorem own_elem {cl : Cell} {ty : FieldType} {j : Int32} {F : Term} (A : Arr s s.heap a cl ty) (ht : t.eval args s none [] s = some (.ref a)) (hF : F.eval args s none [] s = some (.ref y)) (h : (Jvm.Cond.eq (.elem t (.int j)) F).value args s none s [] = some true) : cl.slots[j.toNatClampNeg]? = some (.ref y) :=
  (elem_in (own_eqr hF h) ht (Term.int_eval j) A.1).2
end StartFacts
end Jvm.OwnKit
namespace Jvm.OwnKit
open Sem ClassFile Op Lib Jvm.Stand Jvm.Free Jvm.LawKit Jvm.RoadKit
/-- a String of the signs cs (each 0 to 255), apart from what is under construction -/
def Str (Z : State) (h : Heap) (us : List Addr) (a : Addr) (cs : List Int32) : Prop :=
  ∃ (t : Addr) (kb : ClassId), Exa Z h a "java/lang/String" ∧ Fld Z h a "java/lang/String" "coder" "B" (.int 0) ∧ Fld Z h a "java/lang/String" "value" "[B" (.ref t) ∧
    Arv Z h t kb .byte (Int32.ofNat cs.length) ((cs.map fun c => c.toInt8.toInt32).map Value.int) (.int 0) ∧ (∀ c ∈ cs, ¬ c < 0 ∧ ¬ (255 : Int32) < c) ∧ cs.length ≤ 4000 ∧ ∀ x ∈ us, x ≠ a ∧ x ≠ t
section StrFacts
variable {Z : State} {h h' : Heap} {us us' ws : List Addr} {a b : Addr} {cs : List Int32} {sl : Nat} {v : Value}
theorem Str.ext (F : Str Z h us a cs) (E : Ext h h') : Str Z h' us a cs := by
  obtain ⟨t, kb, h1, h2, h3, h4, h5, h6, h7⟩ := F
  exact ⟨t, kb, h1.ext E, h2.ext E, h3.ext E, h4.ext E, h5, h6, h7⟩
theorem Str.keep (F : Str Z h us a cs) (K : Keep h h' ws) (q : ∀ x ∈ ws, x ∈ us) : Str Z h' us a cs := by
  obtain ⟨t, kb, h1, h2, h3, h4, h5, h6, h7⟩ := F
  have na : a ∉ ws := fun r => (h7 a (q a r)).1 rfl
  have nt : t ∉ ws := fun r => (h7 t (q t r)).2 rfl
  exact ⟨t, kb, h1.keep K, h2.keep K na, h3.keep K na, h4.keep K nt, h5, h6, h7⟩
theorem Str.wr (F : Str Z h us a cs) (W : Wr h h' b sl v) (q : b ∈ us) : Str Z h' us a cs := F.keep (Keep.of_wr W) (fun x hx => by cases List.mem_singleton.mp hx; exact q)
theorem Str.sub (F : Str Z h us a cs) (q : ∀ x ∈ us', x ∈ us) : Str Z h us' a cs := by
  obtain ⟨t, kb, h1, h2, h3, h4, h5, h6, h7⟩ := F
  exact ⟨t, kb, h1, h2, h3, h4, h5, h6, fun x hx => h7 x (q x hx)⟩
theorem Str.grow (F : Str Z h us a cs) (E : Ext h h') (q : b = h.size) : Str Z h' (b :: us) a cs := by
  obtain ⟨t, kb, h1, h2, h3, h4, h5, h6, h7⟩ := F
  refine ⟨t, kb, h1.ext E, h2.ext E, h3.ext E, h4.ext E, h5, h6, fun x hx => ?_⟩
  rcases List.mem_cons.mp hx with rfl | hx
  · subst q; exact ⟨Nat.ne_of_gt h1.lt, Nat.ne_of_gt h4.lt⟩
  · exact h7 x hx
theorem Str.exa (F : Str Z h us a cs) : Exa Z h a "java/lang/String" := by obtain ⟨t, kb, h1, -⟩ := F; exact h1
theorem Str.lt (F : Str Z h us a cs) : a < h.size := F.exa.lt
theorem Str.ne (F : Str Z h us a cs) {x : Addr} (q : x ∈ us) : x ≠ a := by obtain ⟨t, kb, h1, h2, h3, h4, h5, h6, h7⟩ := F; exact (h7 x q).1
theorem str_of {h0 : Heap} (q : ∃ (t : Addr) (kb : ClassId), Exa Z h' a "java/lang/String" ∧ Fld Z h' a "java/lang/String" "coder" "B" (.int 0) ∧ Fld Z h' a "java/lang/String" "value" "[B" (.ref t) ∧ Arv Z h' t kb .byte (Int32.ofNat cs.length) ((cs.map fun c => c.toInt8.toInt32).map Value.int) (.int 0) ∧ (∀ c ∈ cs, ¬ c < 0 ∧ ¬ (255 : Int32) < c) ∧ cs.length ≤ 4000 ∧ h.size ≤ t)
    (hx : ∀ x ∈ us, x < h0.size) (h1 : h0.size ≤ a) (h2 : h0.size ≤ h.size) : Str Z h' us a cs := by
  obtain ⟨t, kb, e1, e2, e3, e4, e5, e6, e7⟩ := q
  exact ⟨t, kb, e1, e2, e3, e4, e5, e6, fun x q => ⟨Nat.ne_of_lt (Nat.lt_of_lt_of_le (hx x q) h1), Nat.ne_of_lt (Nat.lt_of_lt_of_le (hx x q) (Nat.le_trans h2 e7))⟩⟩
theorem and255 (x : Int32) : ¬ (x &&& 255) < 0 ∧ ¬ (255 : Int32) < (x &&& 255) := by
  have h := c_and x 255 (by decide)
  rw [Int32.lt_iff_toInt_lt, Int32.lt_iff_toInt_lt]
  have h2 : (255 : Int32).toInt = 255 := by decide
  have h3 : (0 : Int32).toInt = 0 := by decide
  omega
theorem nar255 {c : Int32} (h : ¬ c < 0 ∧ ¬ (255 : Int32) < c) : nar .char c = c := by
  obtain ⟨h1, h2⟩ := h
  have q := c_i2c c
  rw [Int32.lt_iff_toInt_lt] at h1 h2
  have e2 : (255 : Int32).toInt = 255 := by decide
  have e3 : (0 : Int32).toInt = 0 := by decide
  have : c.toUInt32.toUInt16.toUInt32.toInt32.toInt = c.toInt := by omega
  exact Int32.toInt_inj.mp this
/-- made since the heap h0: apart from whatever stood there -/
def StrN (Z : State) (h0 h : Heap) (a : Addr) (cs : List Int32) : Prop :=
  ∃ (t : Addr) (kb : ClassId), Exa Z h a "java/lang/String" ∧ Fld Z h a "java/lang/String" "coder" "B" (.int 0) ∧ Fld Z h a "java/lang/String" "value" "[B" (.ref t) ∧
    Arv Z h t kb .byte (Int32.ofNat cs.length) ((cs.map fun c => c.toInt8.toInt32).map Value.int) (.int 0) ∧ (∀ c ∈ cs, ¬ c < 0 ∧ ¬ (255 : Int32) < c) ∧ cs.length ≤ 4000 ∧ h0.size ≤ a ∧ h0.size ≤ t
theorem StrN.str {h0 : Heap} (F : StrN Z h0 h a cs) (q : ∀ x ∈ us, x < h0.size) : Str Z h us a cs := by
  obtain ⟨t, kb, h1, h2, h3, h4, h5, h6, h7, h8⟩ := F
  exact ⟨t, kb, h1, h2, h3, h4, h5, h6, fun x hx => ⟨Nat.ne_of_lt (Nat.lt_of_lt_of_le (q x hx) h7), Nat.ne_of_lt (Nat.lt_of_lt_of_le (q x hx) h8)⟩⟩
end StrFacts
section StrOps
variable {p : Program} {l : Launch} {e : Env} {R : Room} {s : State} {m : MethodId} {args : Array Value} {below : List Frame} {meth : Method} {c : Code}
  {own : String} {bytes : ByteArray} {maxL : Nat} {ret : Option FieldType} {nm : String} {Z : State} {EL : List (String × Nat)} {nw : Bool} {us : List Addr}
  {T : State} {h : Heap} {cells slots : Nat} {Q : Option Value → Heap → Prop} {kk nn : Nat} {a0 : Array Value} {pc : Nat} {Ls : Array Slot} {st : List Value}

theorem St.news (X : St p l e R s m args below meth c own bytes maxL ret nm Z EL nw us T h cells slots) : ∀ x ∈ us, x < h.size := fun x hx => (X.new hx).2
theorem lt_ofNat {n : Nat} (q : n ≤ 4000) : ¬ (Int32.ofNat n) < 0 ∧ (Int32.ofNat n).toNatClampNeg = n := by
  have h1 : (Int32.ofNat n).toInt = n := by rw [Int32.toInt_ofNat_of_lt]; omega
  exact ⟨by rw [Int32.lt_iff_toInt_lt, h1]; simp, by simp [Int32.toNatClampNeg, h1]⟩
/-- ldc of a String constant -/
theorem g_ldcS (X : St p l e R s m args below meth c own bytes maxL ret nm Z EL nw us T h cells slots) {ix : Nat} {text : String} {cs : List Int32} (hnw : nw = false) (w : (Jvm.Cond.stringLink own ix text).before a0 Z = true) (wS : ∀ a ∈ Bundle.stringAtoms, a.before a0 Z = true) (hmem : (own, ix) ∈ EL)
    (ht : (∀ c ∈ text.toList, c.toNat < 256) ∧ text.toList.map (fun c => Value.int (Jvm.Lit.byteI c.toNat.toUInt16)) = (cs.map fun c => c.toInt8.toInt32).map Value.int) (hcs : ∀ c ∈ cs, ¬ c < 0 ∧ ¬ (255 : Int32) < c) (hlen : cs.length ≤ 4000)
    (hd : decode bytes pc = .ok (.ldc ix, 2)) (n : Nat) (hn : 4 * text.toList.length ≤ n) (hbig : n ≤ 536870912) {ck cs' : Nat} (hck : cells + 2 = ck) (hcs' : slots + (n + 4) = cs') (hc : ck ≤ R.cells) (hl : cs' ≤ R.slots) (pc' : Nat) (hp : pc + 2 = pc')
    (K : ∀ a T' h', St p l e R s m args below meth c own bytes maxL ret nm Z EL nw us T' h' ck cs' → Ext h h' → Str Z h' us a cs → Goes p e below s Z EL nw Q kk nn (T'.setTop (mkF m pc' Ls (.ref a :: st)))) : Goes p e below s Z EL nw Q kk nn (T.setTop (mkF m pc Ls st)) := by
  subst hp hck hcs'
  obtain ⟨cx, vm0, locs, Y, N, eT, hS, hZ, hown, hE, hC, hU, hW⟩ := X
  obtain ⟨a1, hEL⟩ := cx.2.2.2.2.2.2
  have hl32 : ¬ (Int32.ofNat cs.length) < 0 ∧ (Int32.ofNat cs.length).toNatClampNeg = ((cs.map fun c => c.toInt8.toInt32).map Value.int).length := by
    have := lt_ofNat hlen; simpa using this
  obtain ⟨a, T', h', k1, b, k, Y', e', E, hS2, hk1, hZ', hown', q1, q2, q3, q4, q5, q6, hC', -, hsafe, stp⟩ := ldcCH Y cx.1 hZ hown w wS eT hS (Nat.le_refl _) hEL hmem hC.1 ht hl32.1 hl32.2 (g := mkF m pc Ls st) rfl (hb cx.2.1 hd) hn hbig hc hl
  have hU' : ∀ x ∈ us, Z.heap.size ≤ x ∧ x < h'.size ∧ Safe Z EL T'.vm h' x := fun x hx => ⟨(hU x hx).1, Nat.lt_of_lt_of_le (hU x hx).2.1 E.1, hC'.safe (hU x hx).2.1 (hU x hx).2.2⟩
  exact (K a T' h' ⟨cx, T'.vm, locs, Y', N, e', ⟨hS2.1, hS2.2.mono hk1⟩, hZ', hown', hE.trans E, hC.trans hC', hU', fun q => by rw [hnw] at q; cases q⟩ E ⟨b, k, q1, q2, q3, q4, hcs, hlen, fun x hx => hsafe x (hU' x hx).2.2⟩).step stp
end StrOps
end Jvm.OwnKit
/- laws to paste: Road.backV (cut by pick.py; bodies as the Statement names them) -/
namespace Jvm.Pilot.@@N@@
namespace StrChars
open Jvm Sem ClassFile Op Lib Jvm.Stand Jvm.Free.XT Jvm.Free.ALB Jvm.Free.JM Jvm.Free
open Jvm.Lib.Cold (StaticIs)
/-- a char array whose places are chars -/
def Ch (a : Addr) (A : Cell) (U : State) : Prop := Arr .char a A U ∧ Typed .char A
theorem Ch.mv {a : Addr} {A : Cell} {U U' : State} (h : Ch a A U) (hal : U.vm.Alike U'.vm) (hh : U'.heap = U.heap) : Ch a A U' := ⟨h.1.mv hal hh, h.2⟩
theorem Ch.keep {a : Addr} {A : Cell} {U U' : State} (h : Ch a A U) (hal : U.vm.Alike U'.vm) (hk : U'.heap[a]? = some A) : Ch a A U' := ⟨h.1.keep hal hk, h.2⟩
/-- what place i of a char[]'s cell holds -/
def cv (A : Cell) (i : Nat) : Int32 := match A.slots[i]? with | some (.int x) => x | _ => 0
theorem Ch.get {a : Addr} {A : Cell} {U : State} (h : Ch a A U) {i : Nat} (hi : i < A.slots.size) : A.slots[i]? = some (.int (cv A i)) := by
  have e := Array.getElem?_eq_getElem hi
  have f := h.2 i _ e
  unfold cv; rw [e]
  generalize A.slots[i] = v at f
  cases v <;> simp [fits] at f ⊢
/-- the byte that i2b leaves of a char -/
def lo8 (x : Int32) : Int32 := x.toInt8.toInt32
theorem fits_lo8 (y : Int32) : fits .byte (.int (lo8 y)) = true := by
  have h1 := y.toInt8.le_toInt
  have h2 := y.toInt8.toInt_lt
  simp only [lo8, fits, Bool.and_eq_true, decide_eq_true_eq, Int32.le_iff_toInt_le, Int8.toInt_toInt32, show (-128 : Int32).toInt = -128 from by decide, show (127 : Int32).toInt = 127 from by decide]
  omega
/-- A' is A but that each place j of lo .. hi - 1 holds f j -/
def Laid (A A' : Cell) (lo hi : Nat) (f : Nat → Value) : Prop := A'.cls = A.cls ∧ A'.vm = A.vm ∧ A'.slots.size = A.slots.size ∧ ∀ i, A'.slots[i]? = if lo ≤ i ∧ i < hi then some (f i) else A.slots[i]?
theorem Laid.zero (A : Cell) (lo : Nat) (f : Nat → Value) : Laid A A lo (lo + 0) f := ⟨rfl, rfl, rfl, fun i => by rw [if_neg (by omega)]⟩
theorem Laid.step {A Ak : Cell} {lo k : Nat} {f : Nat → Value} {v : Value} (h : Laid A Ak lo k f) (hlo : lo ≤ k) (hk : k < Ak.slots.size) (hv : v = f k) : Laid A (Ak.setSlot k v) lo (k + 1) f := by
  refine ⟨h.1, h.2.1, by simpa [Cell.setSlot] using h.2.2.1, fun i => ?_⟩
  by_cases e : k = i
  · subst e; rw [Cell.slots_setSlot_self v hk, if_pos (by omega), hv]
  · rw [Cell.slots_setSlot_ne v e, h.2.2.2 i]
    by_cases q : lo ≤ i ∧ i < k
    · rw [if_pos q, if_pos (by omega)]
    · rw [if_neg q, if_neg (by omega)]
def U16 : String := "java/lang/StringUTF16"
namespace Cmp5
def yN : MethodName := ⟨"java/lang/StringUTF16", "compress", "([CI[BII)I"⟩
abbrev yB : ByteArray := jdk_52_method_21_code
theorem d0 : decode yB 0 = .ok (.iconst 0, 1) := by decide +kernel
theorem d1 : decode yB 1 = .ok (.istore 5, 2) := by decide +kernel
theorem d3 : decode yB 3 = .ok (.iload 5, 2) := by decide +kernel
theorem d5 : decode yB 5 = .ok (.iload 4, 2) := by decide +kernel
theorem d7 : decode yB 7 = .ok (.if_icmp (.ge) 37, 3) := by decide +kernel
theorem d10 : decode yB 10 = .ok (.aload_n 0, 1) := by decide +kernel
theorem d11 : decode yB 11 = .ok (.iload_n 1, 1) := by decide +kernel
theorem d12 : decode yB 12 = .ok (.caload, 1) := by decide +kernel
theorem d13 : decode yB 13 = .ok (.istore 6, 2) := by decide +kernel
theorem d15 : decode yB 15 = .ok (.iload 6, 2) := by decide +kernel
theorem d17 : decode yB 17 = .ok (.sipush 255, 3) := by decide +kernel
theorem d20 : decode yB 20 = .ok (.if_icmp (.le) 6, 3) := by decide +kernel
theorem d26 : decode yB 26 = .ok (.aload_n 2, 1) := by decide +kernel
theorem d27 : decode yB 27 = .ok (.iload_n 3, 1) := by decide +kernel
theorem d28 : decode yB 28 = .ok (.iload 6, 2) := by decide +kernel
theorem d30 : decode yB 30 = .ok (.i2b, 1) := by decide +kernel
theorem d31 : decode yB 31 = .ok (.bastore, 1) := by decide +kernel
theorem d32 : decode yB 32 = .ok (.iinc 1 1, 3) := by decide +kernel
theorem d35 : decode yB 35 = .ok (.iinc 3 1, 3) := by decide +kernel
theorem d38 : decode yB 38 = .ok (.iinc 5 1, 3) := by decide +kernel
theorem d41 : decode yB 41 = .ok (.goto (-38), 3) := by decide +kernel
theorem d44 : decode yB 44 = .ok (.iload 4, 2) := by decide +kernel
theorem d46 : decode yB 46 = .ok (.ireturn, 1) := by decide +kernel
def site : List Cond := []
def tab : Cond := tabOf yN yB 7 (some .int) site
def P (b : Addr) (A : Cell) (d : Addr) (B : Cell) (o q len : Nat) (args : Array Value) (s : State) : Prop := args = #[.ref b, .int (Int32.ofNat o), .ref d, .int (Int32.ofNat q), .int (Int32.ofNat len)] ∧ Ch b A s ∧ Arr .byte d B s ∧ b ≠ d ∧ o + len ≤ A.slots.size ∧ q + len ≤ B.slots.size ∧ ∀ i, i < len → ¬ 255 < cv A (o + i)
def E (b : Addr) (A : Cell) (d : Addr) (B : Cell) (o q len : Nat) (r : Option Value) (s u : State) : Prop := r = some (.int (Int32.ofNat len)) ∧ ∃ B', Put d B' s u ∧ Laid B B' q (q + len) (fun j => Value.int (lo8 (cv A (o + (j - q)))))
/-- no char of the range above 255: len; the places written hold each char's low byte -/
theorem law (l : Launch) (b : Addr) (A : Cell) (d : Addr) (B : Cell) (o q len : Nat) : Law l yN 5 5 0 0 yB 7 (some .int) site (P b A d B o q len) (E b A d B o q len) (copyLocs d q len) 0 0 := by
  refine Law.of_walk (plainFor_of_name (by decide +kernel)) (by decide +kernel) (by decide +kernel) (by decide) (fun _ _ h => by rw [h.1]; rfl) (fun _ U U' hal hh h => ⟨h.1, h.2.1.mv hal hh, h.2.2.1.mv hal hh, h.2.2.2⟩) (fun r U U' V V' h1 hal h2 h => ⟨h.1, h.2.elim fun B' q => ⟨B', q.1.mv h1 h2, q.2⟩⟩) ?_
  intro p e s m args below meth c s₁ X0 hexec hbytes hml hret hlk hnm hown hh0 W hP
  obtain ⟨rfl, hA, hB, hne, l1, l2, hp⟩ := hP
  have c1 : Steps p.tables e below (s₁.setTop (entryFrame m #[.ref b, .int (Int32.ofNat o), .ref d, .int (Int32.ofNat q), .int (Int32.ofNat len)] 7)) (s₁.setTop (mkF m 0 #[.val (.ref b), .val (.int (Int32.ofNat o)), .val (.ref d), .val (.int (Int32.ofNat q)), .val (.int (Int32.ofNat len)), .unset, .unset] [])) := entry rfl
  have hA0 := hA.1.mv X0.warmed.alike hh0
  have hB0 := hB.mv X0.warmed.alike hh0
  have a31 := hA.1.2.2.2
  have c2 : Steps p.tables e below (s₁.setTop (entryFrame m #[.ref b, .int (Int32.ofNat o), .ref d, .int (Int32.ofNat q), .int (Int32.ofNat len)] 7)) (s₁.setTop (mkF m 3 #[.val (.ref b), .val (.int (Int32.ofNat o)), .val (.ref d), .val (.int (Int32.ofNat q)), .val (.int (Int32.ofNat len)), .val (.int 0), .unset] [])) := c1.trans (by
    refine iconstV X0.here hexec rfl 0 (hb hbytes d0) (by decide) ?_
    refine XS.istore X0.here hexec rfl (hb hbytes d1) rfl rfl ?_
    exact Steps.refl _)
  have loop : ∀ (r i : Nat), i + r = len → ∀ (z : Slot), (z = .unset ∨ ∃ w, z = .val w ∧ w.category = 1) → ∀ (Tl : State) (Bk : Cell), Stand p l e { frames := 0, locals := 0, cells := 0, slots := 0 } s m #[.ref b, .int (Int32.ofNat o), .ref d, .int (Int32.ofNat q), .int (Int32.ofNat len)] below meth c Tl ([] ++ copyLocs d q i) 0 0 → Put d Bk s₁ Tl → Laid B Bk q (q + i) (fun j => Value.int (lo8 (cv A (o + (j - q))))) →
      Steps p.tables e below (s₁.setTop (entryFrame m #[.ref b, .int (Int32.ofNat o), .ref d, .int (Int32.ofNat q), .int (Int32.ofNat len)] 7)) (Tl.setTop (mkF m 3 #[.val (.ref b), .val (.int (Int32.ofNat (o + i))), .val (.ref d), .val (.int (Int32.ofNat (q + i))), .val (.int (Int32.ofNat len)), .val (.int (Int32.ofNat i)), z] [])) → ∃ (T' : State) (B' : Cell) (z' : Slot), Stand p l e { frames := 0, locals := 0, cells := 0, slots := 0 } s m #[.ref b, .int (Int32.ofNat o), .ref d, .int (Int32.ofNat q), .int (Int32.ofNat len)] below meth c T' ([] ++ copyLocs d q len) 0 0 ∧ Put d B' s₁ T' ∧ Laid B B' q (q + len) (fun j => Value.int (lo8 (cv A (o + (j - q))))) ∧
      Steps p.tables e below (s₁.setTop (entryFrame m #[.ref b, .int (Int32.ofNat o), .ref d, .int (Int32.ofNat q), .int (Int32.ofNat len)] 7)) (T'.setTop (mkF m 3 #[.val (.ref b), .val (.int (Int32.ofNat (o + len))), .val (.ref d), .val (.int (Int32.ofNat (q + len))), .val (.int (Int32.ofNat len)), .val (.int (Int32.ofNat len)), z'] [])) := by
    intro r
    induction r with
    | zero =>
      intro i hi z hz Tl Bk Xl pl fl cl
      have hil : i = len := by omega
      rw [hil] at Xl fl cl
      exact ⟨Tl, Bk, z, Xl, pl, fl, cl⟩
    | succ r ih =>
      intro i hi z hz Tl Bk Xl pl fl cl
      have all := X0.warmed.alike.symm.trans Xl.warmed.alike
      have hAl := hA0.keep all (pl.other hne hA0.1)
      have hBk := hB0.like all pl.1 fl.1 fl.2.1 fl.2.2.1
      have hlt : q + i < Bk.slots.size := by rw [fl.2.2.1]; omega
      have c3 : Steps p.tables e below (s₁.setTop (entryFrame m #[.ref b, .int (Int32.ofNat o), .ref d, .int (Int32.ofNat q), .int (Int32.ofNat len)] 7)) (Tl.setTop (mkF m 12 #[.val (.ref b), .val (.int (Int32.ofNat (o + i))), .val (.ref d), .val (.int (Int32.ofNat (q + i))), .val (.int (Int32.ofNat len)), .val (.int (Int32.ofNat i)), z] [.int (Int32.ofNat (o + i)), .ref b])) := cl.trans (by
        refine XS.iload Xl.here hexec rfl (hb hbytes d3) rfl ?_
        refine XS.iload Xl.here hexec rfl (hb hbytes d5) rfl ?_
        refine XS.icmpNo Xl.here hexec rfl (hb hbytes d7) rfl (ii_ge_f (lt32 (by omega) (by omega))) ?_
        refine XS.aloadN Xl.here hexec rfl (hb hbytes d10) rfl rfl ?_
        refine XS.iloadN Xl.here hexec rfl (hb hbytes d11) rfl ?_
        exact Steps.refl _)
      have c4 : Steps p.tables e below (s₁.setTop (entryFrame m #[.ref b, .int (Int32.ofNat o), .ref d, .int (Int32.ofNat q), .int (Int32.ofNat len)] 7)) (Tl.setTop (mkF m 13 #[.val (.ref b), .val (.int (Int32.ofNat (o + i))), .val (.ref d), .val (.int (Int32.ofNat (q + i))), .val (.int (Int32.ofNat len)), .val (.int (Int32.ofNat i)), z] [.int (cv A (o + i))])) := c3.trans (by
        refine Xl.aget hexec hAl rfl (hA.get (i := o + i) (by omega)) rfl rfl (hb hbytes d12) ?_
        exact Steps.refl _)
      have c5 : Steps p.tables e below (s₁.setTop (entryFrame m #[.ref b, .int (Int32.ofNat o), .ref d, .int (Int32.ofNat q), .int (Int32.ofNat len)] 7)) (Tl.setTop (mkF m 15 #[.val (.ref b), .val (.int (Int32.ofNat (o + i))), .val (.ref d), .val (.int (Int32.ofNat (q + i))), .val (.int (Int32.ofNat len)), .val (.int (Int32.ofNat i)), .val (.int (cv A (o + i)))] [])) := c4.trans (by
        refine XS.istoreS Xl.here hexec rfl (hb hbytes d13) rfl rfl hz ?_
        exact Steps.refl _)
      have c6 : Steps p.tables e below (s₁.setTop (entryFrame m #[.ref b, .int (Int32.ofNat o), .ref d, .int (Int32.ofNat q), .int (Int32.ofNat len)] 7)) (Tl.setTop (mkF m 31 #[.val (.ref b), .val (.int (Int32.ofNat (o + i))), .val (.ref d), .val (.int (Int32.ofNat (q + i))), .val (.int (Int32.ofNat len)), .val (.int (Int32.ofNat i)), .val (.int (cv A (o + i)))] [.int (lo8 (cv A (o + i))), .int (Int32.ofNat (q + i)), .ref d])) := c5.trans (by
        refine XS.iload Xl.here hexec rfl (hb hbytes d15) rfl ?_
        refine sipushV Xl.here hexec rfl 255 (hb hbytes d17) (by decide) ?_
        refine XS.icmpYes Xl.here hexec rfl (pc0 := 20) rfl (hb hbytes d20) rfl (ii_le_t (hp i (by omega))) (by decide) rfl ?_
        refine XS.aloadN Xl.here hexec rfl (hb hbytes d26) rfl rfl ?_
        refine XS.iloadN Xl.here hexec rfl (hb hbytes d27) rfl ?_
        refine XS.iload Xl.here hexec rfl (hb hbytes d28) rfl ?_
        refine i2b Xl.here hexec rfl (hb hbytes d30) rfl ?_
        exact Steps.refl _)
      obtain ⟨T7, X7, p7, st7⟩ := Xl.aput hexec hBk rfl hlt rfl (fits_lo8 (cv A (o + i))) (g := (mkF m 31 #[.val (.ref b), .val (.int (Int32.ofNat (o + i))), .val (.ref d), .val (.int (Int32.ofNat (q + i))), .val (.int (Int32.ofNat len)), .val (.int (Int32.ofNat i)), .val (.int (cv A (o + i)))] [.int (lo8 (cv A (o + i))), .int (Int32.ofNat (q + i)), .ref d])) rfl (rest := []) rfl (hb hbytes d31)
      have c8 : Steps p.tables e below (s₁.setTop (entryFrame m #[.ref b, .int (Int32.ofNat o), .ref d, .int (Int32.ofNat q), .int (Int32.ofNat len)] 7)) (T7.setTop (mkF m 32 #[.val (.ref b), .val (.int (Int32.ofNat (o + i))), .val (.ref d), .val (.int (Int32.ofNat (q + i))), .val (.int (Int32.ofNat len)), .val (.int (Int32.ofNat i)), .val (.int (cv A (o + i)))] [])) := c6.trans (st7 _ (Steps.refl _))
      have c9 : Steps p.tables e below (s₁.setTop (entryFrame m #[.ref b, .int (Int32.ofNat o), .ref d, .int (Int32.ofNat q), .int (Int32.ofNat len)] 7)) (T7.setTop (mkF m 3 #[.val (.ref b), .val (.int (Int32.ofNat (o + i) + 1)), .val (.ref d), .val (.int (Int32.ofNat (q + i) + 1)), .val (.int (Int32.ofNat len)), .val (.int (Int32.ofNat i + 1)), .val (.int (cv A (o + i)))] [])) := c8.trans (by
        refine iincV X7.here hexec rfl 1 (hb hbytes d32) (by decide) rfl rfl ?_
        refine iincV X7.here hexec rfl 1 (hb hbytes d35) (by decide) rfl rfl ?_
        refine iincV X7.here hexec rfl 1 (hb hbytes d38) (by decide) rfl rfl ?_
        refine XS.goto X7.here hexec rfl (pc0 := 41) rfl (hb hbytes d41) (by decide) rfl ?_
        exact Steps.refl _)
      have c10 : Steps p.tables e below (s₁.setTop (entryFrame m #[.ref b, .int (Int32.ofNat o), .ref d, .int (Int32.ofNat q), .int (Int32.ofNat len)] 7)) (T7.setTop (mkF m 3 #[.val (.ref b), .val (.int (Int32.ofNat (o + (i + 1)))), .val (.ref d), .val (.int (Int32.ofNat (q + (i + 1)))), .val (.int (Int32.ofNat len)), .val (.int (Int32.ofNat (i + 1))), .val (.int (cv A (o + i)))] [])) := by
        have := c9
        rw [succ32, succ32, succ32] at this
        exact this
      exact ih (i + 1) (by omega) _ (Or.inr ⟨_, rfl, rfl⟩) T7 _ (by rw [copyLocs_step, ← List.append_assoc]; exact X7) (pl.trans p7) (fl.step (by omega) hlt (by simp)) c10
  obtain ⟨T9, B9, z9, X9, p9, f9, g9⟩ := loop len 0 (by omega) .unset (Or.inl rfl) s₁ B (by simpa [copyLocs] using X0) ⟨hB0.1, fun _ _ => rfl, rfl⟩ (Laid.zero _ _ _) c2
  have c11 : Steps p.tables e below (s₁.setTop (entryFrame m #[.ref b, .int (Int32.ofNat o), .ref d, .int (Int32.ofNat q), .int (Int32.ofNat len)] 7)) (T9.setTop (mkF m 46 #[.val (.ref b), .val (.int (Int32.ofNat (o + len))), .val (.ref d), .val (.int (Int32.ofNat (q + len))), .val (.int (Int32.ofNat len)), .val (.int (Int32.ofNat len)), z9] [.int (Int32.ofNat len)])) := g9.trans (by
    refine XS.iload X9.here hexec rfl (hb hbytes d3) rfl ?_
    refine XS.iload X9.here hexec rfl (hb hbytes d5) rfl ?_
    refine XS.icmpYes X9.here hexec rfl (pc0 := 7) rfl (hb hbytes d7) rfl (ii_ge_t (nlt32 (by omega) (Nat.le_refl _))) (by decide) rfl ?_
    refine XS.iload X9.here hexec rfl (hb hbytes d44) rfl ?_
    exact Steps.refl _)
  exact ⟨T9, some (.int (Int32.ofNat len)), _, _, _, X9, by simp, rfl, rfl, (fun h => by cases h), ⟨rfl, B9, p9.from hh0, f9⟩, fun fs hl => c11.trans (X9.ireturnOut hexec hret rfl (Or.inl rfl) (hb hbytes d46) hl)⟩
end Cmp5
namespace Cmp3
def yN : MethodName := ⟨"java/lang/StringUTF16", "compress", "([CII)[B"⟩
abbrev yB : ByteArray := jdk_52_method_16_code
theorem d0 : decode yB 0 = .ok (.iload_n 2, 1) := by decide +kernel
theorem d1 : decode yB 1 = .ok (.newarray .byte, 2) := by decide +kernel
theorem d3 : decode yB 3 = .ok (.astore_n 3, 1) := by decide +kernel
theorem d4 : decode yB 4 = .ok (.aload_n 0, 1) := by decide +kernel
theorem d5 : decode yB 5 = .ok (.iload_n 1, 1) := by decide +kernel
theorem d6 : decode yB 6 = .ok (.aload_n 3, 1) := by decide +kernel
theorem d7 : decode yB 7 = .ok (.iconst 0, 1) := by decide +kernel
theorem d8 : decode yB 8 = .ok (.iload_n 2, 1) := by decide +kernel
theorem d9 : decode yB 9 = .ok (.invokestatic 115, 3) := by decide +kernel
theorem d12 : decode yB 12 = .ok (.istore 4, 2) := by decide +kernel
theorem d14 : decode yB 14 = .ok (.iload 4, 2) := by decide +kernel
theorem d16 : decode yB 16 = .ok (.iload_n 2, 1) := by decide +kernel
theorem d17 : decode yB 17 = .ok (.if_icmp (.eq) 40, 3) := by decide +kernel
theorem d57 : decode yB 57 = .ok (.aload_n 3, 1) := by decide +kernel
theorem d58 : decode yB 58 = .ok (.areturn, 1) := by decide +kernel
def site : List Cond := [.arrayClass .byte, Cmp5.tab] ++ staticW U16 115 Cmp5.yN
def tab : Cond := tabOf yN yB 6 (some (.array .byte)) site
def P (b : Addr) (A : Cell) (o len : Nat) (args : Array Value) (s : State) : Prop := args = #[.ref b, .int (Int32.ofNat o), .int (Int32.ofNat len)] ∧ Ch b A s ∧ o + len ≤ A.slots.size ∧ len ≤ 536870912 ∧ ∀ i, i < len → ¬ 255 < cv A (o + i)
def E (b : Addr) (A : Cell) (o len : Nat) (r : Option Value) (s u : State) : Prop := NewArr .byte "[B" len (fun j => .int (lo8 (cv A (o + j)))) r s u ∧ u.heap.size = s.heap.size + 1
/-- no char of the range above 255: a new byte[] of their low bytes -/
theorem law (l : Launch) (b : Addr) (A : Cell) (o len : Nat) : Law l yN 3 3 1 18 yB 6 (some (.array .byte)) site (P b A o len) (E b A o len) [] 1 len := by
  refine Law.of_walk (plainFor_of_name (by decide +kernel)) (by decide +kernel) (by decide +kernel) (by decide) (fun _ _ h => by rw [h.1]; rfl) (fun _ U U' hal hh h => ⟨h.1, h.2.1.mv hal hh, h.2.2⟩) (fun r U U' V V' h1 hal h2 h => ⟨NewArr.mv r U U' V V' h1 hal h2 h.1, by rw [h1, h2]; exact h.2⟩) ?_
  intro p e s m args below meth c s₁ X0 hexec hbytes hml hret hlk hnm hown hh0 W hP
  obtain ⟨rfl, hA, l1, l2, hp⟩ := hP
  have a31 := hA.1.2.2.2
  have c1 : Steps p.tables e below (s₁.setTop (entryFrame m #[.ref b, .int (Int32.ofNat o), .int (Int32.ofNat len)] 6)) (s₁.setTop (mkF m 0 #[.val (.ref b), .val (.int (Int32.ofNat o)), .val (.int (Int32.ofNat len)), .unset, .unset, .unset] [])) := entry rfl
  have c2 : Steps p.tables e below (s₁.setTop (entryFrame m #[.ref b, .int (Int32.ofNat o), .int (Int32.ofNat len)] 6)) (s₁.setTop (mkF m 1 #[.val (.ref b), .val (.int (Int32.ofNat o)), .val (.int (Int32.ofNat len)), .unset, .unset, .unset] [.int (Int32.ofNat len)])) := c1.trans (by
    refine XS.iloadN X0.here hexec rfl (hb hbytes d0) rfl ?_
    exact Steps.refl _)
  obtain ⟨T3, B3, X3, ba3, bs3, bv3, bh3, bf3, st3⟩ := X0.anew hexec (atype := .byte) (wk W (.arrayClass .byte)) rfl (by show len * 1 ≤ _; omega) (by omega) (g := (mkF m 1 #[.val (.ref b), .val (.int (Int32.ofNat o)), .val (.int (Int32.ofNat len)), .unset, .unset, .unset] [.int (Int32.ofNat len)])) rfl (hb hbytes d1) (rest := []) rfl (Nat.le_refl _) (by show 0 + len ≤ len; omega)
  rw [hh0] at ba3 st3
  have kp3 : XT.Kept s T3 := (XT.Kept.of_eq hh0).push bh3
  have hA3 := hA.keep X3.warmed.alike (kp3 _ _ hA.1.1)
  have hne : b ≠ s.heap.size := hA.1.ne
  have c4 : Steps p.tables e below (s₁.setTop (entryFrame m #[.ref b, .int (Int32.ofNat o), .int (Int32.ofNat len)] 6)) (T3.setTop (mkF m 3 #[.val (.ref b), .val (.int (Int32.ofNat o)), .val (.int (Int32.ofNat len)), .unset, .unset, .unset] [.ref s.heap.size])) := c2.trans (st3 _ (Steps.refl _))
  have c5 : Steps p.tables e below (s₁.setTop (entryFrame m #[.ref b, .int (Int32.ofNat o), .int (Int32.ofNat len)] 6)) (T3.setTop (mkF m 9 #[.val (.ref b), .val (.int (Int32.ofNat o)), .val (.int (Int32.ofNat len)), .val (.ref s.heap.size), .unset, .unset] [.int (Int32.ofNat len), .int 0, .ref s.heap.size, .int (Int32.ofNat o), .ref b])) := c4.trans (by
    refine XS.astoreN X3.here hexec rfl (hb hbytes d3) rfl rfl rfl ?_
    refine XS.aloadN X3.here hexec rfl (hb hbytes d4) rfl rfl ?_
    refine XS.iloadN X3.here hexec rfl (hb hbytes d5) rfl ?_
    refine XS.aloadN X3.here hexec rfl (hb hbytes d6) rfl rfl ?_
    refine iconstV X3.here hexec rfl 0 (hb hbytes d7) (by decide) ?_
    refine XS.iloadN X3.here hexec rfl (hb hbytes d8) rfl ?_
    exact Steps.refl _)
  obtain ⟨v6, T6, X6, E6, g6⟩ := X3.callS hexec (Cmp5.law l b A s.heap.size B3 o 0 len) hown (wks W (staticW U16 115 Cmp5.yN)) (wk W Cmp5.tab) (W := 0) (Nat.le_of_ble_eq_true rfl) (Nat.le_of_ble_eq_true rfl) (Nat.le_refl _) (by show 0 + len + 0 ≤ len; omega) (g := (mkF m 9 #[.val (.ref b), .val (.int (Int32.ofNat o)), .val (.int (Int32.ofNat len)), .val (.ref s.heap.size), .unset, .unset] [.int (Int32.ofNat len), .int (Int32.ofNat 0), .ref s.heap.size, .int (Int32.ofNat o), .ref b])) rfl (by rw [hml]; rfl) c5 (argsL := [.ref b, .int (Int32.ofNat o), .ref s.heap.size, .int (Int32.ofNat 0), .int (Int32.ofNat len)]) (rest := []) rfl rfl (by show 2 * 0 + 0 ≤ _; decide) (hb hbytes d9) (⟨rfl, hA3, ba3, hne, l1, by rw [bs3]; simp, hp⟩)
  obtain ⟨rfl, B6, p6, f6⟩ := E6
  have c7 : Steps p.tables e below (s₁.setTop (entryFrame m #[.ref b, .int (Int32.ofNat o), .int (Int32.ofNat len)] 6)) (T6.setTop (mkF m 12 #[.val (.ref b), .val (.int (Int32.ofNat o)), .val (.int (Int32.ofNat len)), .val (.ref s.heap.size), .unset, .unset] [.int (Int32.ofNat len)])) := g6
  have c8 : Steps p.tables e below (s₁.setTop (entryFrame m #[.ref b, .int (Int32.ofNat o), .int (Int32.ofNat len)] 6)) (T6.setTop (mkF m 58 #[.val (.ref b), .val (.int (Int32.ofNat o)), .val (.int (Int32.ofNat len)), .val (.ref s.heap.size), .val (.int (Int32.ofNat len)), .unset] [.ref s.heap.size])) := c7.trans (by
    refine XS.istore X6.here hexec rfl (hb hbytes d12) rfl rfl ?_
    refine XS.iload X6.here hexec rfl (hb hbytes d14) rfl ?_
    refine XS.iloadN X6.here hexec rfl (hb hbytes d16) rfl ?_
    refine XS.icmpYes X6.here hexec rfl (pc0 := 17) rfl (hb hbytes d17) rfl (ii_eq_t rfl) (by decide) rfl ?_
    refine XS.aloadN X6.here hexec rfl (hb hbytes d57) rfl rfl ?_
    exact Steps.refl _)
  have X8 := X6.wide (L' := []) (cells' := 1) (slots' := len) (fun x hx hlt => by
    simp only [List.nil_append, copyLocs, List.mem_map, List.mem_range] at hx
    obtain ⟨i, -, rfl⟩ := hx
    exact absurd hlt (Nat.lt_irrefl _)) (Nat.le_refl _) (by omega)
  exact ⟨T6, some (.ref s.heap.size), _, _, _, X8, rfl, rfl, rfl, (fun h => by cases h), ⟨⟨rfl, B6, ba3.like (X3.warmed.alike.symm.trans X6.warmed.alike) p6.1 f6.1 f6.2.1 f6.2.2.1, f6.2.1.trans bv3, by rw [X6.warmed.alike.findClass, f6.1]; exact bf3, by rw [f6.2.2.1, bs3]; simp, fun j hj => by rw [f6.2.2.2 j, if_pos (by omega)]; rfl, kp3.put p6 (Nat.le_refl _)⟩, by rw [p6.2.2, bh3, hh0]; simp⟩, fun fs hl => c8.trans (X8.areturnOut hexec rfl hret rfl (hb hbytes d58) hl)⟩
end Cmp3
namespace CodL
def yN : MethodName := ⟨"java/lang/StringUTF16", "coderFromArrayLen", "([BI)B"⟩
abbrev yB : ByteArray := jdk_52_method_15_code
theorem d0 : decode yB 0 = .ok (.iload_n 1, 1) := by decide +kernel
theorem d1 : decode yB 1 = .ok (.aload_n 0, 1) := by decide +kernel
theorem d2 : decode yB 2 = .ok (.arraylength, 1) := by decide +kernel
theorem d3 : decode yB 3 = .ok (.isub, 1) := by decide +kernel
theorem d4 : decode yB 4 = .ok (.bipush 31, 2) := by decide +kernel
theorem d6 : decode yB 6 = .ok (.iushr, 1) := by decide +kernel
theorem d7 : decode yB 7 = .ok (.i2b, 1) := by decide +kernel
theorem d8 : decode yB 8 = .ok (.ireturn, 1) := by decide +kernel
def site : List Cond := []
def tab : Cond := tabOf yN yB 2 (some .byte) site
def P (d : Addr) (B : Cell) (args : Array Value) (s : State) : Prop := args = #[.ref d, .int (Int32.ofNat B.slots.size)] ∧ Arr .byte d B s
def E (r : Option Value) (s u : State) : Prop := XT.PureE (some (.int 0)) r s u
/-- an array as long as the number of chars: LATIN1 -/
theorem law (l : Launch) (d : Addr) (B : Cell) : Law l yN 2 2 0 0 yB 2 (some .byte) site (P d B) E [] 0 0 := by
  refine Law.of_walk (plainFor_of_name (by decide +kernel)) (by decide +kernel) (by decide +kernel) (by decide) (fun _ _ h => by rw [h.1]; rfl) (fun _ U U' hal hh h => ⟨h.1, h.2.mv hal hh⟩) (fun r U U' V V' h1 hal h2 h => XT.PureE.mv r U U' V V' h1 hal h2 h) ?_
  intro p e s m args below meth c s₁ X0 hexec hbytes hml hret hlk hnm hown hh0 W hP
  obtain ⟨rfl, hB⟩ := hP
  have hB0 := hB.mv X0.warmed.alike hh0
  have c1 : Steps p.tables e below (s₁.setTop (entryFrame m #[.ref d, .int (Int32.ofNat B.slots.size)] 2)) (s₁.setTop (mkF m 0 #[.val (.ref d), .val (.int (Int32.ofNat B.slots.size))] [])) := entry rfl
  have c2 : Steps p.tables e below (s₁.setTop (entryFrame m #[.ref d, .int (Int32.ofNat B.slots.size)] 2)) (s₁.setTop (mkF m 2 #[.val (.ref d), .val (.int (Int32.ofNat B.slots.size))] [.ref d, .int (Int32.ofNat B.slots.size)])) := c1.trans (by
    refine XS.iloadN X0.here hexec rfl (hb hbytes d0) rfl ?_
    refine XS.aloadN X0.here hexec rfl (hb hbytes d1) rfl rfl ?_
    exact Steps.refl _)
  have c3 : Steps p.tables e below (s₁.setTop (entryFrame m #[.ref d, .int (Int32.ofNat B.slots.size)] 2)) (s₁.setTop (mkF m 8 #[.val (.ref d), .val (.int (Int32.ofNat B.slots.size))] [.int (lo8 (ushr (Int32.ofNat B.slots.size - Int32.ofNat B.slots.size) 31))])) := c2.trans (by
    refine X0.alen hexec hB0 rfl rfl (hb hbytes d2) ?_
    refine XS.isub X0.here hexec rfl (hb hbytes d3) rfl ?_
    refine bipushV X0.here hexec rfl 31 (hb hbytes d4) (by decide) ?_
    refine iushr X0.here hexec rfl (hb hbytes d6) rfl ?_
    refine i2b X0.here hexec rfl (hb hbytes d7) rfl ?_
    exact Steps.refl _)
  have e0 : lo8 (ushr (Int32.ofNat B.slots.size - Int32.ofNat B.slots.size) 31) = 0 := by rw [Int32.sub_self]; decide
  rw [e0] at c3
  exact ⟨s₁, some (.int 0), _, _, _, X0, rfl, rfl, rfl, (fun h => by cases h), ⟨rfl, hh0⟩, fun fs hl => c3.trans (X0.ireturnOut hexec hret rfl (Or.inr (Or.inr (Or.inl rfl))) (hb hbytes d8) hl)⟩
end CodL
/-- the String at a is Latin-1 over a new byte[] (the heap's one new cell): the low bytes of the len chars of A from o on; every cell but a is kept -/
def Got (a : Addr) (D : Cell) (fV fC : Field) (A : Cell) (o len : Nat) (r : Option Value) (s u : State) : Prop := r = none ∧ ∃ D' V : Cell, Blank "java/lang/String" a D' u ∧ Same D D' [fV.slot, fC.slot] ∧ D'.slots[fV.slot]? = some (.ref s.heap.size) ∧ D'.slots[fC.slot]? = some (.int 0) ∧ Arr .byte s.heap.size V u ∧ V.vm = .none ∧ u.vm.findClass "[B" = some V.cls ∧ V.slots.size = len ∧ (∀ j, j < len → V.slots[j]? = some (.int (lo8 (cv A (o + j))))) ∧ (∀ (y : Addr) (c : Cell), y ≠ a → s.heap[y]? = some c → u.heap[y]? = some c) ∧ u.heap.size = s.heap.size + 1
theorem Got.mv {a : Addr} {D A : Cell} {fV fC : Field} {o len : Nat} : ∀ r (U U' V V' : State), U'.heap = U.heap → V.vm.Alike V'.vm → V'.heap = V.heap → Got a D fV fC A o len r U V → Got a D fV fC A o len r U' V' :=
  fun r U U' V V' h1 hal h2 ⟨e0, D', X, a1, a2, a3, a4, a5, a6, a7, a8, a9, a10, a11⟩ => ⟨e0, D', X, a1.mv hal h2, a2, by rw [h1]; exact a3, a4, by rw [h1]; exact a5.mv hal h2, a6, by rw [hal.findClass]; exact a7, a8, a9, by rw [h1, h2]; exact a10, by rw [h1, h2]; exact a11⟩
namespace New4
def yN : MethodName := ⟨"java/lang/String", "<init>", "([CIILjava/lang/Void;)V"⟩
abbrev yB : ByteArray := jdk_42_method_149_code
theorem d0 : decode yB 0 = .ok (.aload_n 0, 1) := by decide +kernel
theorem d1 : decode yB 1 = .ok (.invokespecial 1, 3) := by decide +kernel
theorem d4 : decode yB 4 = .ok (.iload_n 3, 1) := by decide +kernel
theorem d5 : decode yB 5 = .ok (.ifCond (.ne) 22, 3) := by decide +kernel
theorem d27 : decode yB 27 = .ok (.getstatic 38, 3) := by decide +kernel
theorem d30 : decode yB 30 = .ok (.ifCond (.eq) 28, 3) := by decide +kernel
theorem d33 : decode yB 33 = .ok (.aload_n 1, 1) := by decide +kernel
theorem d34 : decode yB 34 = .ok (.iload_n 2, 1) := by decide +kernel
theorem d35 : decode yB 35 = .ok (.iload_n 3, 1) := by decide +kernel
theorem d36 : decode yB 36 = .ok (.invokestatic 177, 3) := by decide +kernel
theorem d39 : decode yB 39 = .ok (.astore 5, 2) := by decide +kernel
theorem d41 : decode yB 41 = .ok (.aload_n 0, 1) := by decide +kernel
theorem d42 : decode yB 42 = .ok (.aload 5, 2) := by decide +kernel
theorem d44 : decode yB 44 = .ok (.iload_n 3, 1) := by decide +kernel
theorem d45 : decode yB 45 = .ok (.invokestatic 47, 3) := by decide +kernel
theorem d48 : decode yB 48 = .ok (.putfield 15, 3) := by decide +kernel
theorem d51 : decode yB 51 = .ok (.aload_n 0, 1) := by decide +kernel
theorem d52 : decode yB 52 = .ok (.aload 5, 2) := by decide +kernel
theorem d54 : decode yB 54 = .ok (.putfield 9, 3) := by decide +kernel
theorem d57 : decode yB 57 = .ok (.return_, 1) := by decide +kernel
def site : List Cond := [.fieldLink "java/lang/String" 38 "java/lang/String" "COMPACT_STRINGS" "Z", Cmp3.tab, CodL.tab, .laysFinal "java/lang/String" "java/lang/String" "value" "[B", .fieldLink "java/lang/String" 9 "java/lang/String" "value" "[B", .laysFinal "java/lang/String" "java/lang/String" "coder" "B", .fieldLink "java/lang/String" 15 "java/lang/String" "coder" "B"] ++ objW "java/lang/String" 1 ++ staticW "java/lang/String" 177 Cmp3.yN ++ staticW "java/lang/String" 47 CodL.yN
def tab : Cond := tabOf yN yB 6 none site
def P (a : Addr) (D : Cell) (fV fC : Field) (b : Addr) (A : Cell) (z : Int32) (o len : Nat) (args : Array Value) (s : State) : Prop := args = #[.ref a, .ref b, .int (Int32.ofNat o), .int (Int32.ofNat len), .null] ∧ Blank "java/lang/String" a D s ∧ Found "java/lang/String" "value" "[B" fV s ∧ Found "java/lang/String" "coder" "B" fC s ∧ Ch b A s ∧ StaticIs s "java/lang/String" "COMPACT_STRINGS" "Z" (.int z) ∧ ¬ z = 0 ∧ 0 < len ∧ o + len ≤ A.slots.size ∧ len ≤ 536870912 ∧ ∀ i, i < len → ¬ 255 < cv A (o + i)
def E (a : Addr) (D : Cell) (fV fC : Field) (A : Cell) (o len : Nat) (r : Option Value) (s u : State) : Prop := Got a D fV fC A o len r s u
/-- len > 0, no char of the range above 255: a Latin-1 String of their low bytes -/
theorem law (l : Launch) (a : Addr) (D : Cell) (fV fC : Field) (b : Addr) (A : Cell) (z : Int32) (o len : Nat) : Law l yN 5 4 2 35 yB 6 none site (P a D fV fC b A z o len) (E a D fV fC A o len) [⟨a, fC.slot⟩, ⟨a, fV.slot⟩] 1 len := by
  refine Law.of_walk (plainFor_of_name (by decide +kernel)) (by decide +kernel) (by decide +kernel) (by decide) (fun _ _ h => by rw [h.1]; rfl) (fun _ U U' hal hh h => ⟨h.1, h.2.1.mv hal hh, h.2.2.1.al hal, h.2.2.2.1.al hal, h.2.2.2.2.1.mv hal hh, h.2.2.2.2.2.1.there hal hh, h.2.2.2.2.2.2⟩) (fun r U U' V V' h1 hal h2 h => Got.mv r U U' V V' h1 hal h2 h) ?_
  intro p e s m args below meth c s₁ X0 hexec hbytes hml hret hlk hnm hown hh0 W hP
  obtain ⟨rfl, hB, f1, f2, hA, s1, hz, l0, l1, l2, hp⟩ := hP
  have a31 := hA.1.2.2.2
  have c1 : Steps p.tables e below (s₁.setTop (entryFrame m #[.ref a, .ref b, .int (Int32.ofNat o), .int (Int32.ofNat len), .null] 6)) (s₁.setTop (mkF m 0 #[.val (.ref a), .val (.ref b), .val (.int (Int32.ofNat o)), .val (.int (Int32.ofNat len)), .val .null, .unset] [])) := entry rfl
  have c2 : Steps p.tables e below (s₁.setTop (entryFrame m #[.ref a, .ref b, .int (Int32.ofNat o), .int (Int32.ofNat len), .null] 6)) (s₁.setTop (mkF m 1 #[.val (.ref a), .val (.ref b), .val (.int (Int32.ofNat o)), .val (.int (Int32.ofNat len)), .val .null, .unset] [.ref a])) := c1.trans (by
    refine XS.aloadN X0.here hexec rfl (hb hbytes d0) rfl rfl ?_
    exact Steps.refl _)
  obtain ⟨T3, X3, q3, st3⟩ := X0.oinit hexec hown (wks W (objW "java/lang/String" 1)) (g := (mkF m 1 #[.val (.ref a), .val (.ref b), .val (.int (Int32.ofNat o)), .val (.int (Int32.ofNat len)), .val .null, .unset] [.ref a])) rfl (by rw [hml]; rfl) (rest := []) rfl (hb hbytes d1) (W := 0) (by show 2 * 0 + 0 ≤ _; decide) (Nat.le_of_ble_eq_true rfl) (Nat.le_of_ble_eq_true rfl)
  have hh3 := q3.trans hh0
  have c4 : Steps p.tables e below (s₁.setTop (entryFrame m #[.ref a, .ref b, .int (Int32.ofNat o), .int (Int32.ofNat len), .null] 6)) (T3.setTop (mkF m 27 #[.val (.ref a), .val (.ref b), .val (.int (Int32.ofNat o)), .val (.int (Int32.ofNat len)), .val .null, .unset] [])) := (c2.trans (st3 _ (Steps.refl _))).trans (by
    refine XS.iloadN X3.here hexec rfl (hb hbytes d4) rfl ?_
    refine XS.ifYes X3.here hexec rfl (pc0 := 5) rfl (hb hbytes d5) rfl (i0_ne_t (nz32 (by omega) l0)) (by decide) rfl ?_
    exact Steps.refl _)
  obtain ⟨T5, X5, q5, st5⟩ := X3.sget hexec hown (wk W (.fieldLink "java/lang/String" 38 "java/lang/String" "COMPACT_STRINGS" "Z")) s1 (fun _ _ h => by rw [hh3]; exact h) (g := (mkF m 27 #[.val (.ref a), .val (.ref b), .val (.int (Int32.ofNat o)), .val (.int (Int32.ofNat len)), .val .null, .unset] [])) rfl (hb hbytes d27)
  have hh5 := q5.trans hh3
  have c6 : Steps p.tables e below (s₁.setTop (entryFrame m #[.ref a, .ref b, .int (Int32.ofNat o), .int (Int32.ofNat len), .null] 6)) (T5.setTop (mkF m 30 #[.val (.ref a), .val (.ref b), .val (.int (Int32.ofNat o)), .val (.int (Int32.ofNat len)), .val .null, .unset] [.int z])) := c4.trans (st5 _ (Steps.refl _))
  have c7 : Steps p.tables e below (s₁.setTop (entryFrame m #[.ref a, .ref b, .int (Int32.ofNat o), .int (Int32.ofNat len), .null] 6)) (T5.setTop (mkF m 36 #[.val (.ref a), .val (.ref b), .val (.int (Int32.ofNat o)), .val (.int (Int32.ofNat len)), .val .null, .unset] [.int (Int32.ofNat len), .int (Int32.ofNat o), .ref b])) := c6.trans (by
    refine XS.ifNo X5.here hexec rfl (hb hbytes d30) rfl (i0_eq_f hz) ?_
    refine XS.aloadN X5.here hexec rfl (hb hbytes d33) rfl rfl ?_
    refine XS.iloadN X5.here hexec rfl (hb hbytes d34) rfl ?_
    refine XS.iloadN X5.here hexec rfl (hb hbytes d35) rfl ?_
    exact Steps.refl _)
  obtain ⟨v8, T8, X8, E8, g8⟩ := X5.callS hexec (Cmp3.law l b A o len) hown (wks W (staticW "java/lang/String" 177 Cmp3.yN)) (wk W Cmp3.tab) (W := 0) (Nat.le_of_ble_eq_true rfl) (Nat.le_of_ble_eq_true rfl) (Nat.le_refl _) (by show 0 + len ≤ len; omega) (g := (mkF m 36 #[.val (.ref a), .val (.ref b), .val (.int (Int32.ofNat o)), .val (.int (Int32.ofNat len)), .val .null, .unset] [.int (Int32.ofNat len), .int (Int32.ofNat o), .ref b])) rfl (by rw [hml]; rfl) c7 (argsL := [.ref b, .int (Int32.ofNat o), .int (Int32.ofNat len)]) (rest := []) rfl rfl (by show 2 * 0 + 0 ≤ _; decide) (hb hbytes d36) (⟨rfl, hA.mv X5.warmed.alike hh5, l1, l2, hp⟩)
  obtain ⟨e8, z8⟩ := E8
  obtain ⟨rfl, N, n1, n2, n3, n4, n5, n6⟩ := NewArr.mv _ T5 s _ _ hh5.symm (Vm.Alike.refl _) rfl e8
  rw [hh5] at z8
  have hB1 := hB.keep X8.warmed.alike (n6 _ _ hB.1)
  have hne : s.heap.size ≠ a := (Nat.ne_of_lt (Array.getElem?_eq_some_iff.mp hB.1).1).symm
  have c9 : Steps p.tables e below (s₁.setTop (entryFrame m #[.ref a, .ref b, .int (Int32.ofNat o), .int (Int32.ofNat len), .null] 6)) (T8.setTop (mkF m 39 #[.val (.ref a), .val (.ref b), .val (.int (Int32.ofNat o)), .val (.int (Int32.ofNat len)), .val .null, .unset] [.ref s.heap.size])) := g8
  have c10 : Steps p.tables e below (s₁.setTop (entryFrame m #[.ref a, .ref b, .int (Int32.ofNat o), .int (Int32.ofNat len), .null] 6)) (T8.setTop (mkF m 45 #[.val (.ref a), .val (.ref b), .val (.int (Int32.ofNat o)), .val (.int (Int32.ofNat len)), .val .null, .val (.ref s.heap.size)] [.int (Int32.ofNat N.slots.size), .ref s.heap.size, .ref a])) := by
    have hc : Steps p.tables e below (s₁.setTop (entryFrame m #[.ref a, .ref b, .int (Int32.ofNat o), .int (Int32.ofNat len), .null] 6)) (T8.setTop (mkF m 45 #[.val (.ref a), .val (.ref b), .val (.int (Int32.ofNat o)), .val (.int (Int32.ofNat len)), .val .null, .val (.ref s.heap.size)] [.int (Int32.ofNat len), .ref s.heap.size, .ref a])) := c9.trans (by
      refine XS.astore X8.here hexec rfl (hb hbytes d39) rfl rfl rfl ?_
      refine XS.aloadN X8.here hexec rfl (hb hbytes d41) rfl rfl ?_
      refine XS.aload X8.here hexec rfl (hb hbytes d42) rfl rfl ?_
      refine XS.iloadN X8.here hexec rfl (hb hbytes d44) rfl ?_
      exact Steps.refl _)
    rw [n4]; exact hc
  obtain ⟨v11, T11, X11, E11, g11⟩ := X8.callS hexec (CodL.law l s.heap.size N) hown (wks W (staticW "java/lang/String" 47 CodL.yN)) (wk W CodL.tab) (W := 1) (Nat.le_of_ble_eq_true rfl) (Nat.le_of_ble_eq_true rfl) (Nat.le_refl _) (by show 0 + len + 0 ≤ len; omega) (g := (mkF m 45 #[.val (.ref a), .val (.ref b), .val (.int (Int32.ofNat o)), .val (.int (Int32.ofNat len)), .val .null, .val (.ref s.heap.size)] [.int (Int32.ofNat N.slots.size), .ref s.heap.size, .ref a])) rfl (by rw [hml]; rfl) c10 (argsL := [.ref s.heap.size, .int (Int32.ofNat N.slots.size)]) (rest := [.ref a]) rfl rfl (by show 2 * 0 + (1 + 0) ≤ _; decide) (hb hbytes d45) (⟨rfl, n1⟩)
  obtain ⟨rfl, q11⟩ := E11
  have hB11 := hB1.mv (X8.warmed.alike.symm.trans X11.warmed.alike) q11
  have c12 : Steps p.tables e below (s₁.setTop (entryFrame m #[.ref a, .ref b, .int (Int32.ofNat o), .int (Int32.ofNat len), .null] 6)) (T11.setTop (mkF m 48 #[.val (.ref a), .val (.ref b), .val (.int (Int32.ofNat o)), .val (.int (Int32.ofNat len)), .val .null, .val (.ref s.heap.size)] [.int 0, .ref a])) := g11
  obtain ⟨T13, X13, p13, bl13, sl13, st13⟩ := X11.finit hexec hown (wk W (.fieldLink "java/lang/String" 15 "java/lang/String" "coder" "B")) (Or.inr ⟨_, (wk W (.laysFinal "java/lang/String" "java/lang/String" "coder" "B"))⟩) (Or.inl ⟨rfl, hnm⟩) f2 (Or.inl rfl) hB11 (t := .byte) (by decide +kernel) rfl (g := (mkF m 48 #[.val (.ref a), .val (.ref b), .val (.int (Int32.ofNat o)), .val (.int (Int32.ofNat len)), .val .null, .val (.ref s.heap.size)] [.int 0, .ref a])) rfl (rest := []) rfl (hb hbytes d48)
  have c14 : Steps p.tables e below (s₁.setTop (entryFrame m #[.ref a, .ref b, .int (Int32.ofNat o), .int (Int32.ofNat len), .null] 6)) (T13.setTop (mkF m 54 #[.val (.ref a), .val (.ref b), .val (.int (Int32.ofNat o)), .val (.int (Int32.ofNat len)), .val .null, .val (.ref s.heap.size)] [.ref s.heap.size, .ref a])) := (c12.trans (st13 _ (Steps.refl _))).trans (by
    refine XS.aloadN X13.here hexec rfl (hb hbytes d51) rfl rfl ?_
    refine XS.aload X13.here hexec rfl (hb hbytes d52) rfl rfl ?_
    exact Steps.refl _)
  obtain ⟨T15, X15, p15, bl15, sl15, st15⟩ := X13.finit hexec hown (wk W (.fieldLink "java/lang/String" 9 "java/lang/String" "value" "[B")) (Or.inr ⟨_, (wk W (.laysFinal "java/lang/String" "java/lang/String" "value" "[B"))⟩) (Or.inl ⟨rfl, hnm⟩) f1 (Or.inl rfl) bl13 (t := (.array .byte)) (by decide +kernel) rfl (g := (mkF m 54 #[.val (.ref a), .val (.ref b), .val (.int (Int32.ofNat o)), .val (.int (Int32.ofNat len)), .val .null, .val (.ref s.heap.size)] [.ref s.heap.size, .ref a])) rfl (rest := []) rfl (hb hbytes d54)
  have c16 : Steps p.tables e below (s₁.setTop (entryFrame m #[.ref a, .ref b, .int (Int32.ofNat o), .int (Int32.ofNat len), .null] 6)) (T15.setTop (mkF m 57 #[.val (.ref a), .val (.ref b), .val (.int (Int32.ofNat o)), .val (.int (Int32.ofNat len)), .val .null, .val (.ref s.heap.size)] [])) := c14.trans (st15 _ (Steps.refl _))
  have ap := apart (Or.inr ⟨_, (wk W (.laysFinal "java/lang/String" "java/lang/String" "value" "[B"))⟩) (Or.inr ⟨_, (wk W (.laysFinal "java/lang/String" "java/lang/String" "coder" "B"))⟩) f1 f2 (t₁ := .array .byte) (t₂ := .byte) (by decide +kernel) (by decide +kernel) (by decide)
  have al := X8.warmed.alike.symm.trans X15.warmed.alike
  have n7 : T11.heap[s.heap.size]? = some N := by rw [q11]; exact n1.1
  exact ⟨T15, none, _, _, _, X15, by simp, rfl, by omega, (fun _ => rfl), ⟨rfl, _, N, bl15, ((Same.refl D _).set _ (by simp)).set _ (by simp), sl15, (Cell.slots_setSlot_ne _ ap).trans sl13, n1.keep al (p15.other hne (p13.other hne n7)), n2, by rw [al.findClass]; exact n3, n4, n5, fun y c h1 h2 => p15.other h1 (p13.other h1 (by rw [q11]; exact n6 y c h2)), by rw [p15.2.2, p13.2.2, q11]; exact z8⟩, fun fs hl => c16.trans (X15.returnOut hexec hret (hb hbytes d57) hl)⟩
end New4
namespace New1
def yN : MethodName := ⟨"java/lang/String", "<init>", "([C)V"⟩
abbrev yB : ByteArray := jdk_42_method_3_code
theorem d0 : decode yB 0 = .ok (.aload_n 0, 1) := by decide +kernel
theorem d1 : decode yB 1 = .ok (.aload_n 1, 1) := by decide +kernel
theorem d2 : decode yB 2 = .ok (.iconst 0, 1) := by decide +kernel
theorem d3 : decode yB 3 = .ok (.aload_n 1, 1) := by decide +kernel
theorem d4 : decode yB 4 = .ok (.arraylength, 1) := by decide +kernel
theorem d5 : decode yB 5 = .ok (.aconst_null, 1) := by decide +kernel
theorem d6 : decode yB 6 = .ok (.invokespecial 27, 3) := by decide +kernel
theorem d9 : decode yB 9 = .ok (.return_, 1) := by decide +kernel
def site : List Cond := [New4.tab] ++ initW "java/lang/String" 27 New4.yN
def tab : Cond := tabOf yN yB 2 none site
def P (a : Addr) (D : Cell) (fV fC : Field) (b : Addr) (A : Cell) (z : Int32) (args : Array Value) (s : State) : Prop := args = #[.ref a, .ref b] ∧ Blank "java/lang/String" a D s ∧ Found "java/lang/String" "value" "[B" fV s ∧ Found "java/lang/String" "coder" "B" fC s ∧ Ch b A s ∧ StaticIs s "java/lang/String" "COMPACT_STRINGS" "Z" (.int z) ∧ ¬ z = 0 ∧ 0 < A.slots.size ∧ A.slots.size ≤ 536870912 ∧ ∀ i, i < A.slots.size → ¬ 255 < cv A i
def E (a : Addr) (D : Cell) (fV fC : Field) (A : Cell) (r : Option Value) (s u : State) : Prop := Got a D fV fC A 0 A.slots.size r s u
/-- new String(chars), not empty, no char above 255: a Latin-1 String of their low bytes -/
theorem law (l : Launch) (a : Addr) (D : Cell) (fV fC : Field) (b : Addr) (A : Cell) (z : Int32) : Law l yN 2 1 3 52 yB 2 none site (P a D fV fC b A z) (E a D fV fC A) [⟨a, fC.slot⟩, ⟨a, fV.slot⟩] 1 A.slots.size := by
  refine Law.of_walk (plainFor_of_name (by decide +kernel)) (by decide +kernel) (by decide +kernel) (by decide) (fun _ _ h => by rw [h.1]; rfl) (fun _ U U' hal hh h => ⟨h.1, h.2.1.mv hal hh, h.2.2.1.al hal, h.2.2.2.1.al hal, h.2.2.2.2.1.mv hal hh, h.2.2.2.2.2.1.there hal hh, h.2.2.2.2.2.2⟩) (fun r U U' V V' h1 hal h2 h => Got.mv r U U' V V' h1 hal h2 h) ?_
  intro p e s m args below meth c s₁ X0 hexec hbytes hml hret hlk hnm hown hh0 W hP
  obtain ⟨rfl, hB, f1, f2, hA, s1, hz, l0, l2, hp⟩ := hP
  have c1 : Steps p.tables e below (s₁.setTop (entryFrame m #[.ref a, .ref b] 2)) (s₁.setTop (mkF m 0 #[.val (.ref a), .val (.ref b)] [])) := entry rfl
  have c2 : Steps p.tables e below (s₁.setTop (entryFrame m #[.ref a, .ref b] 2)) (s₁.setTop (mkF m 6 #[.val (.ref a), .val (.ref b)] [.null, .int (Int32.ofNat A.slots.size), .int 0, .ref b, .ref a])) := c1.trans (by
    refine XS.aloadN X0.here hexec rfl (hb hbytes d0) rfl rfl ?_
    refine XS.aloadN X0.here hexec rfl (hb hbytes d1) rfl rfl ?_
    refine iconstV X0.here hexec rfl 0 (hb hbytes d2) (by decide) ?_
    refine XS.aloadN X0.here hexec rfl (hb hbytes d3) rfl rfl ?_
    refine X0.alen hexec (hA.1.mv X0.warmed.alike hh0) rfl rfl (hb hbytes d4) ?_
    refine XS.aconstNull X0.here hexec rfl (hb hbytes d5) ?_
    exact Steps.refl _)
  obtain ⟨v3, T3, X3, E3, g3⟩ := X0.callN hexec (New4.law l a D fV fC b A z 0 A.slots.size) rfl hown (wks W (initW "java/lang/String" 27 New4.yN)) (W New4.tab (by simp only [site, List.mem_cons, List.mem_append, true_or, or_true])) (W := 0) (Nat.le_of_ble_eq_true rfl) (Nat.le_of_ble_eq_true rfl) (Nat.le_refl _) (by show 0 + A.slots.size ≤ A.slots.size; omega) (g := (mkF m 6 #[.val (.ref a), .val (.ref b)] [.null, .int (Int32.ofNat A.slots.size), .int (Int32.ofNat 0), .ref b, .ref a])) rfl (by rw [hml]; rfl) c2 (argsL := [.ref b, .int (Int32.ofNat 0), .int (Int32.ofNat A.slots.size), .null]) (rest := []) rfl rfl (by show 2 * 0 + 0 ≤ _; decide) (hb hbytes d6) (⟨rfl, hB.mv X0.warmed.alike hh0, f1.al X0.warmed.alike, f2.al X0.warmed.alike, hA.mv X0.warmed.alike hh0, s1.there X0.warmed.alike hh0, hz, l0, by omega, l2, fun i hi => by rw [Nat.zero_add]; exact hp i hi⟩)
  have e0 := Got.mv _ s₁ s _ _ hh0.symm (Vm.Alike.refl _) rfl E3
  obtain rfl := e0.1
  have c4 : Steps p.tables e below (s₁.setTop (entryFrame m #[.ref a, .ref b] 2)) (T3.setTop (mkF m 9 #[.val (.ref a), .val (.ref b)] [])) := g3
  exact ⟨T3, none, _, _, _, X3, by simp, rfl, by omega, (fun _ => rfl), e0, fun fs hl => c4.trans (X3.returnOut hexec hret (hb hbytes d9) hl)⟩
theorem pays {l : Launch} {R : Room} {p : Program} {e : Env} {below : List Frame} {s : State} {sargs : Array Value} {len W : Nat} (a : Addr) (D : Cell) (fV fC : Field) (b : Addr) (A : Cell) (z : Int32) (htab : tab.before sargs s = true) (hfr : 4 ≤ R.frames) (hlo : W + 65 ≤ R.locals) :
    Back l R p e below s sargs yN len W (fun A₁ a₁ => A₁.cells + 1 ≤ R.cells ∧ A₁.slots + A.slots.size ≤ R.slots ∧ P a D fV fC b A z a₁ A₁.U) (fun A₁ _ v₁ B₁ => E a D fV fC A v₁ A₁.U B₁.U ∧ B₁.locs = A₁.locs ++ [⟨a, fC.slot⟩, ⟨a, fV.slot⟩] ∧ B₁.cells = A₁.cells + 1 ∧ B₁.slots = A₁.slots + A.slots.size) :=
  (law l a D fV fC b A z).pays htab hfr (by omega)
end New1
end StrChars
namespace StrChars.Road
open Jvm Sem ClassFile Op Lib Jvm.Stand Jvm.Free Jvm.Free.XT
open Jvm.Lib.Cold (StaticIs)
abbrev ST : String := "java/lang/String"
/-- every table word that New1's law asks, flat -/
abbrev words : List Jvm.Cond := [.code New1.yN New1.yB 2 none, .initialized ST, .methodLink ST 27 New4.yN, .instanceMethod New4.yN,
  .code New4.yN New4.yB 6 none, .fieldLink ST 38 ST "COMPACT_STRINGS" "Z", .laysFinal ST ST "value" "[B", .fieldLink ST 9 ST "value" "[B", .laysFinal ST ST "coder" "B", .fieldLink ST 15 ST "coder" "B",
  .methodLink ST 1 Lib.objectInit, .instanceMethod Lib.objectInit, .code Lib.objectInit ⟨#[0xb1]⟩ 1 none, .methodLink ST 177 Cmp3.yN, .static Cmp3.yN, .methodLink ST 47 CodL.yN, .static CodL.yN,
  .code Cmp3.yN Cmp3.yB 6 (some (.array .byte)), .initialized U16, .arrayClass .byte, .methodLink U16 115 Cmp5.yN, .static Cmp5.yN, .code Cmp5.yN Cmp5.yB 7 (some .int), .code CodL.yN CodL.yB 2 (some .byte)]
theorem tab_of {a : Array Value} {s : State} (h : ∀ w ∈ words, w.before a s = true) : New1.tab.before a s = true := by
  have h5 : Cmp5.tab.before a s = true := unparts (wk h (.code Cmp5.yN Cmp5.yB 7 (some .int))) (wks h (.initialized Cmp5.yN.cls :: Cmp5.site))
  have hc : CodL.tab.before a s = true := unparts (wk h (.code CodL.yN CodL.yB 2 (some .byte))) (wks h (.initialized CodL.yN.cls :: CodL.site))
  have q5 : ∀ w ∈ Cmp5.tab :: words, w.before a s = true := fun w hw => (List.mem_cons.mp hw).elim (fun e => e ▸ h5) (h w)
  have h3 : Cmp3.tab.before a s = true := unparts (wk q5 (.code Cmp3.yN Cmp3.yB 6 (some (.array .byte)))) (wks q5 (.initialized Cmp3.yN.cls :: Cmp3.site))
  have q3 : ∀ w ∈ Cmp3.tab :: CodL.tab :: words, w.before a s = true := fun w hw => (List.mem_cons.mp hw).elim (fun e => e ▸ h3) fun hw => (List.mem_cons.mp hw).elim (fun e => e ▸ hc) (h w)
  have h4 : New4.tab.before a s = true := unparts (wk q3 (.code New4.yN New4.yB 6 none)) (wks q3 (.initialized New4.yN.cls :: New4.site))
  have q4 : ∀ w ∈ New4.tab :: words, w.before a s = true := fun w hw => (List.mem_cons.mp hw).elim (fun e => e ▸ h4) (h w)
  exact unparts (wk q4 (.code New1.yN New1.yB 2 none)) (wks q4 (.initialized New1.yN.cls :: New1.site))
/-- the words ride from the start Z to the walk's own state -/
theorem moved {Z s : State} {a0 args : Array Value} (hZ : Z.Warmed39 s.vm) (hw : ∀ d ∈ words, d.before a0 Z = true) : ∀ d ∈ words, d.before args s = true := fun d hd => by
  have q := hw d hd
  have t : ∀ d ∈ words, d = .arrayClass .byte ∨ (d.onTables && d.keepsFace) = true := by decide +kernel
  rcases t d hd with rfl | t
  · exact RoadKit.mvA hZ q
  · exact RoadKit.mv hZ q t
/-- WHAT COMES BACK, over the tables of the start Z: h the heap at the call, h' behind it -/
def Q (Z : State) (x : Addr) (A : Cell) (h : Heap) (v : Option Value) (h' : Heap) (L : List Loc) : Prop := v = none ∧ (∀ y ∈ L, y.base = x) ∧ RoadKit.Keep h h' [x] ∧ h'.size = h.size + 1 ∧ RoadKit.Exa Z h' x ST ∧ RoadKit.Fld Z h' x ST "value" "[B" (.ref h.size) ∧ RoadKit.Fld Z h' x ST "coder" "B" (.int 0) ∧
  (∃ V : Cell, RoadKit.Arr Z h' h.size V .byte ∧ V.vm = .none ∧ Z.vm.findClass "[B" = some V.cls ∧ V.slots.size = A.slots.size ∧ ∀ j, j < A.slots.size → V.slots[j]? = some (.int (lo8 (cv A j)))) ∧
  ∀ (O n d : String) (w : Value), RoadKit.Fld Z h x O n d w → RoadKit.slotOf Z O n d ≠ RoadKit.slotOf Z ST "value" "[B" → RoadKit.slotOf Z O n d ≠ RoadKit.slotOf Z ST "coder" "B" → RoadKit.Fld Z h' x O n d w
/-- **new String(chars) AT A CALL, IN THE ROAD'S FORM**: for specialBack behind newO: x the fresh String, b the char[] with the cell A -/
theorem back {p : Program} {l : Launch} {e : Env} {R : Room} {s : State} {args : Array Value} {below : List Frame} {len W : Nat} {Z : State} {a0 : Array Value} {h : Heap} (hZ : Z.Warmed39 s.vm) (hw : ∀ d ∈ words, d.before a0 Z = true) {kI : Nat} (wi : (Jvm.Cond.instantiable ST kI).before a0 Z = true)
    {x b : Addr} {A : Cell} {z : Int32} {v0 c0 : Value} (E : RoadKit.Exa Z h x ST) (V : RoadKit.Fld Z h x ST "value" "[B" v0) (C : RoadKit.Fld Z h x ST "coder" "B" c0) (K : RoadKit.Arr Z h b A .char) (hty : Typed .char A) (S : RoadKit.Sta Z h ST "COMPACT_STRINGS" "Z" (.int z)) (hz : ¬ z = 0)
    (l0 : 0 < A.slots.size) (l2 : A.slots.size ≤ 536870912) (hp : ∀ i, i < A.slots.size → ¬ 255 < cv A i) (hfr : 4 ≤ R.frames) (hlo : W + 65 ≤ R.locals) :
    Back l R p e below s args New1.yN len W (fun P a => a = #[.ref x, .ref b] ∧ P.U.heap = h ∧ P.cells + 1 ≤ R.cells ∧ P.slots + A.slots.size ≤ R.slots)
      (fun P _ v B => ∃ L, Q Z x A h v B.U.heap L ∧ B.locs = P.locs ++ L ∧ B.cells = P.cells + 1 ∧ B.slots = P.slots + A.slots.size) := by
  intro m meth c P g ig mk a X hg hsize hdg hW hn hp'
  obtain ⟨rfl, rfl, r1, r2⟩ := hp'
  have al : Z.vm.Alike P.U.vm := hZ.alike.trans X.warmed.alike
  obtain ⟨D, cfV, kV, iV, fV, hD, gV, stV, knV, obV, asV, slV⟩ := id V
  obtain ⟨D', cfC, kC, iC, fC, hD', gC, stC, -, -, asC, slC⟩ := id C
  cases hD.symm.trans hD'
  obtain ⟨D2, kD, e1, e2, e3, e4, e5⟩ := id E
  cases hD.symm.trans e1
  obtain ⟨c2, k2, i1, i2, i3, -⟩ := Cond.instantiable_spec wi
  cases e2.symm.trans i1
  cases e3.symm.trans i2
  obtain ⟨kU, u1, u2⟩ := al.2.2 _ _ e3
  have hB : Blank ST x D P.U := ⟨hD, ⟨knV, fun q hq => by rw [hq] at obV; cases obV⟩, by rw [al.findClass]; exact e2, kU, u1, by rw [u2]; exact i3, by rw [u2]; exact e5 i3⟩
  have F1 : Found ST "value" "[B" fV P.U := ⟨SBG.found_only al ⟨cfV, kV, iV, gV⟩, stV⟩
  have F2 : Found ST "coder" "B" fC P.U := ⟨SBG.found_only al ⟨cfC, kC, iC, gC⟩, stC⟩
  have hA : Ch b A P.U := ⟨⟨K.1, State.isArrayOf_alike al K.2.1, K.2.2, by omega⟩, hty⟩
  have hS : StaticIs P.U ST "COMPACT_STRINGS" "Z" (.int z) := by
    obtain ⟨cfS, iS, kS, fS, st, cS, t1, t2, t3, t4, t5, t6, t7⟩ := S
    exact StaticIs.there (s := { Z with heap := P.U.heap }) ⟨cfS, iS, kS, fS, st, cS, t1, t2, t3, t4, t5, (fun q => by rw [q] at t6; cases t6), t7⟩ al rfl
  obtain ⟨v, B, X', ⟨⟨hv, E', V', q1, q2, q3, q4, q5, q6, q7, q8, q9, q10, q11⟩, hl, hc, hs⟩, st⟩ := New1.pays x D fV fC b A z (tab_of (moved hZ hw)) hfr hlo m meth c P g ig mk _ X hg hsize hdg hW hn ⟨r1, r2, rfl, hB, F1, F2, hA, hS, hz, l0, l2, hp⟩
  have al' : Z.vm.Alike B.U.vm := hZ.alike.trans X'.warmed.alike
  have hsz : E'.slots.size = D.slots.size := by
    obtain ⟨-, -, -, kB, w1, w2, w3⟩ := q1
    obtain ⟨kB', y1, y2⟩ := al'.2.2 _ _ e3
    rw [q2.2.1] at w1
    cases w1.symm.trans y1
    rw [w3, e5 i3, y2]
  refine ⟨v, B, X', ⟨_, ⟨hv, ?_, ⟨by omega, fun y cy hy hn' => q10 y cy (by simpa using hn') hy, fun y cy hy => ?_⟩, q11, ⟨E', _, q1.1, by rw [q2.2.1]; exact e2, by rw [q2.2.1]; exact e3, by rw [q2.1]; exact obV, fun _ => by rw [hsz]; exact e5 i3⟩,
    ⟨E', cfV, kV, iV, fV, q1.1, gV, stV, by rw [q2.1]; exact knV, by rw [q2.1]; exact obV, by rw [q2.2.1]; exact asV, q3⟩, ⟨E', cfC, kC, iC, fC, q1.1, gC, stC, by rw [q2.1]; exact knV, by rw [q2.1]; exact obV, by rw [q2.2.1]; exact asC, q4⟩,
    ⟨V', ⟨q5.1, State.isArrayOf_alike al'.symm q5.2.1, q5.2.2.1⟩, q6, by rw [← al'.findClass]; exact q7, q8, fun j hj => by have := q9 j hj; rwa [Nat.zero_add] at this⟩, fun O n d w F n1 n2 => ?_⟩, hl, hc, hs⟩, st⟩
  · intro y hy
    simp only [List.mem_cons, List.not_mem_nil, or_false] at hy
    rcases hy with rfl | rfl <;> rfl
  · by_cases q : y = x
    · subst q
      cases hD.symm.trans hy
      exact ⟨E', q1.1, q2.2.1, q2.1, hsz⟩
    · exact ⟨cy, q10 y cy q hy, rfl, rfl, rfl⟩
  · obtain ⟨D3, cf, k, i, f, g1, g2, g3, g4, g5, g6, g7⟩ := F
    cases hD.symm.trans g1
    simp only [RoadKit.slotOf, g2, gV, gC, Option.map_some, Option.getD_some] at n1 n2
    exact ⟨E', cf, k, i, f, q1.1, g2, g3, by rw [q2.1]; exact g4, by rw [q2.1]; exact g5, by rw [q2.2.1]; exact g6, by rw [q2.2.2 f.slot (by simp [n1, n2])]; exact g7⟩
end StrChars.Road
namespace StrChars.Road
open Jvm Sem ClassFile Op Lib Jvm.Stand Jvm.Free Jvm.Free.XT
/-- WHAT COMES BACK, the byte[] as a list of values -/
def QA (Z : State) (x : Addr) (zn : Int32) (cs : List Int32) (h : Heap) (v : Option Value) (h' : Heap) (L : List Loc) : Prop := v = none ∧ (∀ y ∈ L, y.base = x) ∧ RoadKit.Keep h h' [x] ∧ h'.size = h.size + 1 ∧ RoadKit.Exa Z h' x ST ∧ RoadKit.Fld Z h' x ST "value" "[B" (.ref h.size) ∧ RoadKit.Fld Z h' x ST "coder" "B" (.int 0) ∧
  (∃ kb, Z.vm.findClass "[B" = some kb ∧ RoadKit.Arv Z h' h.size kb .byte zn (cs.map fun c => .int (lo8 c)) (.int 0)) ∧
  ∀ (O n d : String) (w : Value), RoadKit.Fld Z h x O n d w → RoadKit.slotOf Z O n d ≠ RoadKit.slotOf Z ST "value" "[B" → RoadKit.slotOf Z O n d ≠ RoadKit.slotOf Z ST "coder" "B" → RoadKit.Fld Z h' x O n d w
/-- **new String(chars) AT A CALL, THE ARRAYS AS LISTS**: the char[] at b holds cs, not empty, no char above 255 -/
theorem backArv {p : Program} {l : Launch} {e : Env} {R : Room} {s : State} {args : Array Value} {below : List Frame} {len W : Nat} {Z : State} {a0 : Array Value} {h : Heap} (hZ : Z.Warmed39 s.vm) (hw : ∀ d ∈ words, d.before a0 Z = true) {kI : Nat} (wi : (Jvm.Cond.instantiable ST kI).before a0 Z = true)
    {x b : Addr} {k : ClassId} {zn z : Int32} {cs : List Int32} {dv v0 c0 : Value} (E : RoadKit.Exa Z h x ST) (V : RoadKit.Fld Z h x ST "value" "[B" v0) (C : RoadKit.Fld Z h x ST "coder" "B" c0) (K : RoadKit.Arv Z h b k .char zn (cs.map Value.int) dv) (S : RoadKit.Sta Z h ST "COMPACT_STRINGS" "Z" (.int z)) (hz : ¬ z = 0)
    (hlen : zn.toNatClampNeg = cs.length) (h0 : 0 < cs.length) (hbig : cs.length ≤ 536870912) (hall : ∀ c ∈ cs, ¬ 255 < c) (hfr : 4 ≤ R.frames) (hlo : W + 65 ≤ R.locals) :
    Back l R p e below s args New1.yN len W (fun P a => a = #[.ref x, .ref b] ∧ P.U.heap = h ∧ P.cells + 1 ≤ R.cells ∧ P.slots + cs.length ≤ R.slots)
      (fun P _ v B => ∃ L, QA Z x zn cs h v B.U.heap L ∧ B.locs = P.locs ++ L ∧ B.cells = P.cells + 1 ∧ B.slots = P.slots + cs.length) := by
  obtain ⟨A, K1, K2, K3, K4, K5, K6⟩ := K
  have e : A.slots.size = cs.length := K3.trans hlen
  have hat : ∀ (i : Nat) (hi : i < cs.length), A.slots[i]? = some (.int cs[i]) := fun i hi => by rw [K5 i (by omega)]; simp [List.getD_eq_getElem?_getD, hi]
  have hcv : ∀ (i : Nat) (hi : i < cs.length), cv A i = cs[i] := fun i hi => by unfold cv; rw [hat i hi]
  have hty : Typed .char A := fun i v hv => by
    have hi : i < A.slots.size := (Array.getElem?_eq_some_iff.mp hv).1
    have q := K5 i hi
    rw [hv] at q
    rw [Option.some.inj q]
    exact K6 i hi
  refine Back.mono (back hZ hw wi E V C K1 hty S hz (by omega) (by omega) (fun i hi => by rw [hcv i (by omega)]; exact hall _ (List.getElem_mem _)) hfr hlo) (fun P a hp => ⟨hp.1, hp.2.1, hp.2.2.1, by rw [e]; exact hp.2.2.2⟩) (fun P a v B hp hq => ?_)
  obtain ⟨L, ⟨q1, q2, q3, q4, q5, q6, q7, ⟨V', v1, v2, v3, v4, v5⟩, q9⟩, hl, hc, hs⟩ := hq
  refine ⟨L, ⟨q1, q2, q3, q4, q5, q6, q7, ⟨V'.cls, v3, V', v1, rfl, by rw [v4, e, hlen], K4, fun i hi => ?_, fun i hi => ?_⟩, q9⟩, hl, hc, by rw [hs, e]⟩
  · have hi' : i < cs.length := by omega
    rw [v5 i (by omega), hcv i hi']; simp [List.getD_eq_getElem?_getD, hi']
  · have hi' : i < cs.length := by omega
    simp only [List.getD_eq_getElem?_getD, List.getElem?_map, List.getElem?_eq_getElem hi', Option.map_some, Option.getD_some]
    exact fits_lo8 _
end StrChars.Road
namespace StrChars.Road
open Jvm Sem ClassFile Op Lib Jvm.Stand Jvm.Free Jvm.Free.XT
/-- WHAT COMES BACK, in the writer's own shape -/
def QV (Z : State) (x : Addr) (N : Int32) (bs : List Int32) (h : Heap) (n0 : Nat) (v : Option Value) (h' : Heap) (L : List Loc) : Prop := v = none ∧ RoadKit.Fr n0 L ∧ RoadKit.Keep h h' [x] ∧ RoadKit.Exa Z h' x ST ∧ RoadKit.Fld Z h' x ST "coder" "B" (.int 0) ∧
  ∃ (t : Addr) (kb : ClassId), n0 ≤ t ∧ h.size ≤ t ∧ ¬ t = x ∧ RoadKit.Fld Z h' x ST "value" "[B" (.ref t) ∧ RoadKit.Arv Z h' t kb .byte N (bs.map Value.int) (.int 0)
/-- **new String(chars) AT A CALL, FOR THE WRITER**: a char[] of n known ints, each 0 to 255 -/
theorem backV {p : Program} {l : Launch} {e : Env} {R : Room} {s : State} {args : Array Value} {below : List Frame} {len W : Nat} {Z : State} {a0 : Array Value} {h : Heap} (hZ : Z.Warmed39 s.vm) (hw : ∀ d ∈ words, d.before a0 Z = true) {kI : Nat} (wi : (Jvm.Cond.instantiable ST kI).before a0 Z = true)
    {x b : Addr} {kC : ClassId} {cs bs : List Int32} {d v0 c0 : Value} {z N : Int32} {n n0 : Nat} (hx0 : n0 ≤ x) (hh0 : n0 ≤ h.size) (E : RoadKit.Exa Z h x ST) (V : RoadKit.Fld Z h x ST "value" "[B" v0) (C : RoadKit.Fld Z h x ST "coder" "B" c0) (K : RoadKit.Arv Z h b kC .char N (cs.map Value.int) d) (S : RoadKit.Sta Z h ST "COMPACT_STRINGS" "Z" (.int z)) (hz : ¬ z = 0)
    (hn : cs.length = n) (hN : N = Int32.ofNat n) (l0 : 0 < n) (l2 : n ≤ 4000) (hp : ∀ c ∈ cs, ¬ c < 0 ∧ ¬ (255 : Int32) < c) (hb : bs = cs.map (fun c => c.toInt8.toInt32)) (hfr : 4 ≤ R.frames) (hlo : W + 65 ≤ R.locals) :
    Back l R p e below s args (⟨"java/lang/String", "<init>", "([C)V"⟩ : MethodName) len W (fun P a => a = #[.ref x, .ref b] ∧ P.U.heap = h ∧ P.cells + 1 ≤ R.cells ∧ P.slots + n ≤ R.slots)
      (fun P _ v B => ∃ L, QV Z x N bs h n0 v B.U.heap L ∧ B.locs = P.locs ++ L ∧ B.cells = P.cells + 1 ∧ B.slots = P.slots + n) := by
  subst hn hN hb
  refine Back.mono (backArv hZ hw wi E V C K S hz (n32 (by omega)) l0 (by omega) (fun c hc => (hp c hc).2) hfr hlo) (fun P a hp => hp) (fun P a v B hp hq => ?_)
  obtain ⟨L, ⟨q1, q2, q3, q4, q5, q6, q7, ⟨kb, v1, v2⟩, q9⟩, hl, hc, hs⟩ := hq
  exact ⟨L, ⟨q1, fun y hy => by rw [q2 y hy]; exact hx0, q3, q5, q7, h.size, kb, hh0, Nat.le_refl _, Nat.ne_of_gt E.lt, q6, by rw [List.map_map]; exact v2⟩, hl, hc, hs⟩
end StrChars.Road
end Jvm.Pilot.@@N@@
namespace Jvm.Pilot.@@N@@
open Jvm Jvm.ClassFile Sem Op Lib Jvm.Free Jvm.Stand Jvm.LawKit Jvm.RoadKit Bundle Jvm.OwnKit Jvm.Pilot.@@N@@.Jvm.D
section StrCalls
variable {p : Program} {l : Launch} {e : Env} {R : Room} {s : State} {m : MethodId} {args : Array Value} {below : List Frame} {meth : Method} {c : Code}
  {own : String} {bytes : ByteArray} {maxL : Nat} {ret : Option FieldType} {nm : String} {Z : State} {EL : List (String × Nat)} {nw : Bool} {us : List Addr}
  {T : State} {h : Heap} {cells slots : Nat} {Q : Option Value → Heap → Prop} {kk nn : Nat} {a0 : Array Value} {pc : Nat} {Ls : Array Slot} {st : List Value}

theorem pd_len : parseMethodDescriptor "()I" = some ⟨[], some .int⟩ := by decide +kernel
theorem pd_cha : parseMethodDescriptor "(I)C" = some ⟨[.int], some .char⟩ := by decide +kernel
theorem pd_seq : parseMethodDescriptor "(Ljava/lang/Object;)Z" = some ⟨[.object "java/lang/Object"], some .boolean⟩ := by decide +kernel
theorem pd_emp : parseMethodDescriptor "()Z" = some ⟨[], some .boolean⟩ := by decide +kernel
theorem pd_sin : parseMethodDescriptor "([C)V" = some ⟨[.array .char], none⟩ := by decide +kernel
abbrev yLen : MethodName := ⟨"java/lang/String", "length", "()I"⟩
abbrev yCha : MethodName := ⟨"java/lang/String", "charAt", "(I)C"⟩
abbrev ySeq : MethodName := ⟨"java/lang/String", "equals", "(Ljava/lang/Object;)Z"⟩
abbrev yEmp : MethodName := ⟨"java/lang/String", "isEmpty", "()Z"⟩
abbrev ySin : MethodName := ⟨"java/lang/String", "<init>", "([C)V"⟩
theorem up255 {cs : List Int32} (h : ∀ c ∈ cs, ¬ c < 0 ∧ ¬ (255 : Int32) < c) : ∀ c ∈ cs, ¬ c < 0 ∧ ¬ (65535 : Int32) < c := fun c hc => ⟨(h c hc).1, fun q => (h c hc).2 (by
  have h1 := (h c hc).2
  rw [Int32.lt_iff_toInt_lt] at q ⊢
  have : (65535 : Int32).toInt = 65535 := by decide
  have : (255 : Int32).toInt = 255 := by decide
  omega)⟩
/-- new String(char[]) of one or more signs below 256 -/
theorem g_strNew (X : St p l e R s m args below meth c own bytes maxL ret nm Z EL nw us T h cells slots) {ix : Nat} {a b : Addr} {kC : ClassId} {cs : List Int32} {vs : List Value} {dv v0 c0 : Value} {zc N0 : Int32} {k : Nat} (w1 : (Jvm.Cond.methodLink own ix ySin).before a0 Z = true) (w2 : (Jvm.Cond.instanceMethod ySin).before a0 Z = true) (w4 : (Jvm.Cond.code ySin StrChars.New1.yB 2 none).before a0 Z = true)
    (hws : ∀ d ∈ StrChars.Road.words, d.before a0 Z = true) (wI : (Jvm.Cond.instantiable "java/lang/String" k).before a0 Z = true) (C : Sta Z h "java/lang/String" "COMPACT_STRINGS" "Z" (.int zc)) (hz : ¬ zc = 0) (E : Exa Z h a "java/lang/String") (V : Fld Z h a "java/lang/String" "value" "[B" v0) (Co : Fld Z h a "java/lang/String" "coder" "B" c0)
    (A : Arv Z h b kC .char N0 vs dv) (hvs : vs = cs.map Value.int) (n : Nat) (hn : cs.length = n) (hN : N0 = Int32.ofNat n) (l0 : 0 < n) (l2 : n ≤ 4000) (hp255 : ∀ c ∈ cs, ¬ c < 0 ∧ ¬ (255 : Int32) < c) (ha : a ∈ us) (hsize : Ls.size = maxL)
    (W : Nat) (hW : (st.map fun v => v.category).sum ≤ W) (hf : 4 ≤ R.frames) (hl : W + 65 ≤ R.locals) {ck cs' : Nat} (hck : cells + 1 = ck) (hcs : slots + n = cs') (hc : ck ≤ R.cells) (hs : cs' ≤ R.slots) (hd : decode bytes pc = .ok (.invokespecial ix, 3)) (pc' : Nat) (hp : pc + 3 = pc')
    (K : ∀ T' h', St p l e R s m args below meth c own bytes maxL ret nm Z EL nw us T' h' ck cs' → Keep h h' [a] →
      (∃ (t : Addr) (kb : ClassId), Exa Z h' a "java/lang/String" ∧ Fld Z h' a "java/lang/String" "coder" "B" (.int 0) ∧ Fld Z h' a "java/lang/String" "value" "[B" (.ref t) ∧ Arv Z h' t kb .byte (Int32.ofNat cs.length) ((cs.map fun c => c.toInt8.toInt32).map Value.int) (.int 0) ∧ (∀ c ∈ cs, ¬ c < 0 ∧ ¬ (255 : Int32) < c) ∧ cs.length ≤ 4000 ∧ h.size ≤ t) →
      Goes p e below s Z EL nw Q kk nn (T'.setTop (mkF m pc' Ls st))) : Goes p e below s Z EL nw Q kk nn (T.setTop (mkF m pc Ls (.ref b :: .ref a :: st))) := by
  subst hp hck hcs hvs hN
  obtain ⟨cx, vm0, locs, Y, N, eT, hS, hZ, hown, hE, hC, hU, hWn⟩ := X
  obtain ⟨u1, u2, u3⟩ := hU a ha
  obtain ⟨v, vm₁, B, -, Y', ⟨L, ⟨rfl, N', K', E', Co', t, kb, -, q2, -, V', A'⟩, q4, q5, q6⟩, stp⟩ := Y.specialBack cx.1 (own := own) (index := ix) (y := ySin) rfl hown (mvT (s := s.setVm vm0) hZ w1) (mvT (s := s.setVm vm0) hZ w2) (mvT (s := s.setVm vm0) hZ w4) (by decide)
    (StrChars.Road.backV (W := W) (s := s.setVm vm0) hZ hws wI (bs := cs.map fun c => c.toInt8.toInt32) u1 hE.1 E V Co A C hz hn rfl l0 l2 hp255 rfl hf hl) (g := mkF m pc Ls (.ref b :: .ref a :: st)) rfl (by rw [cx.2.2.1]; exact hsize) (Steps.refl _) (a := a) (argsL := [.ref b]) (rest := st) (lenOf pd_sin rfl) rfl (by show 2 * 0 + _ ≤ _; omega) (hb cx.2.1 hd)
    (fun _ _ => ⟨rfl, eT, hc, hs⟩)
  dsimp only [Pt.U, Pt.locs, Pt.cells, Pt.slots] at q4 q5 q6 Y'
  have hsf : ∀ x ∈ [a], Safe Z EL vm0 h x := fun x hx => by cases List.mem_singleton.mp hx; exact u3
  refine (K B.U B.U.heap ⟨cx, vm0, locs ++ L, ?_, N.app N', rfl, ⟨hS.1, hS.2.mono K'.1⟩, hZ, hown, ext_keep hE K' (fun x hx => by cases List.mem_singleton.mp hx; exact u1), hC.trans (CHr.keep K' hsf hC.1), fun x hx => ⟨(hU x hx).1, Nat.lt_of_lt_of_le (hU x hx).2.1 K'.1, Safe.keep K' hsf hC.1 (hU x hx).2.2⟩, hWn⟩ K' ⟨t, kb, E', Co', V', by rw [hn]; exact A', hp255, by omega, q2⟩).step fun t k => stp.trans k
  rw [q4, q5, q6] at Y'; exact Y'
end StrCalls
end Jvm.Pilot.@@N@@
namespace Jvm.Pilot.@@N@@
open Jvm Jvm.ClassFile Sem Op Lib Jvm.Free Jvm.Stand Jvm.LawKit Jvm.RoadKit Bundle Jvm.OwnKit Jvm.Pilot.@@N@@.Jvm.D
def EL : List (String × Nat) := consts_1
abbrev nw : Bool := false
/-- what holds of the tables and of the JDK's statics at the start -/
def Gl (Z : State) (a0 : Array Value) : Prop := (∀ d ∈ tables_1, d.before a0 Z = true) ∧ EW Z a0 EL ∧ (∀ a ∈ Bundle.stringAtoms, a.before a0 Z = true) ∧
  (∃ zc : Int32, Sta Z Z.heap "java/lang/String" "COMPACT_STRINGS" "Z" (.int zc) ∧ ¬ zc = 0) ∧
  (∃ fm : Value, Sta Z Z.heap "jdk/internal/util/Preconditions" "SIOOBE_FORMATTER" "Ljava/util/function/BiFunction;" fm ∧ fm.isRef = true)
theorem hwsV {Z : State} {a0 : Array Value} (hw : ∀ d ∈ tables_1, d.before a0 Z = true) : ∀ d ∈ StrChars.Road.words, d.before a0 Z = true := fun d hd => hw d ((by decide +kernel : ∀ d ∈ StrChars.Road.words, d ∈ tables_1) d hd)
theorem own_sub {args : Array Value} {s : State} {o : Option Outcome} {idx : List Nat} {a b : Term} {x y : Int32} (ha : a.eval args s o idx s = some (.int x)) (hb : b.eval args s o idx s = some (.int y)) : (Term.sub a b).eval args s o idx s = some (.int (x - y)) := by simp [Term.eval, ha, hb]
theorem pd_0 : parseMethodDescriptor "()Z" = some ⟨[], (some .boolean)⟩ := by decide +kernel
theorem pd_1 : parseMethodDescriptor "()Ljava/lang/Object;" = some ⟨[], (some (.object "java/lang/Object"))⟩ := by decide +kernel
theorem pd_2 : parseMethodDescriptor "(Ljava/lang/Object;)V" = some ⟨[(.object "java/lang/Object")], none⟩ := by decide +kernel
theorem pd_3 : parseMethodDescriptor "(Ljava/lang/Object;)Ljava/lang/Object;" = some ⟨[(.object "java/lang/Object")], (some (.object "java/lang/Object"))⟩ := by decide +kernel
theorem pd_4 : parseMethodDescriptor "(Ljava/lang/Object;)Ljava/util/Optional;" = some ⟨[(.object "java/lang/Object")], (some (.object "java/util/Optional"))⟩ := by decide +kernel
theorem pd_5 : parseMethodDescriptor "()Ljava/util/Optional;" = some ⟨[], (some (.object "java/util/Optional"))⟩ := by decide +kernel
theorem pd_6 : parseMethodDescriptor "()[Lcom/example/rowpath/rowpath/core/NodeMatch$Tier;" = some ⟨[], (some (.array (.object "com/example/rowpath/rowpath/core/NodeMatch$Tier")))⟩ := by decide +kernel
theorem pd_7 : parseMethodDescriptor "(ZZZ)Ljava/util/Optional;" = some ⟨[.boolean, .boolean, .boolean], (some (.object "java/util/Optional"))⟩ := by decide +kernel
theorem pd_8 : parseMethodDescriptor "(ZZZ)Lcom/example/rowpath/rowpath/core/NodeMatch$Tier;" = some ⟨[.boolean, .boolean, .boolean], (some (.object "com/example/rowpath/rowpath/core/NodeMatch$Tier"))⟩ := by decide +kernel
theorem pd_9 : parseMethodDescriptor "()Lcom/example/rowpath/rowpath/core/NodeMatch$Tier;" = some ⟨[], (some (.object "com/example/rowpath/rowpath/core/NodeMatch$Tier"))⟩ := by decide +kernel
def Tiers (Z : State) (b0 b1 b2 b3 b4 b5 bv : Addr) (kv : ClassId) : Prop := Sta Z Z.heap "com/example/rowpath/rowpath/core/NodeMatch$Tier" "LEVEL_TYPE_ID" "Lcom/example/rowpath/rowpath/core/NodeMatch$Tier;" (.ref b0) ∧ Exa Z Z.heap b0 "com/example/rowpath/rowpath/core/NodeMatch$Tier" ∧ Fld Z Z.heap b0 "com/example/rowpath/rowpath/core/NodeMatch$Tier" "level" "Z" (.int (1 : Int32)) ∧ Fld Z Z.heap b0 "com/example/rowpath/rowpath/core/NodeMatch$Tier" "type" "Z" (.int (1 : Int32)) ∧ Fld Z Z.heap b0 "com/example/rowpath/rowpath/core/NodeMatch$Tier" "id" "Z" (.int (1 : Int32)) ∧ Sta Z Z.heap "com/example/rowpath/rowpath/core/NodeMatch$Tier" "TYPE_ID" "Lcom/example/rowpath/rowpath/core/NodeMatch$Tier;" (.ref b1) ∧ Exa Z Z.heap b1 "com/example/rowpath/rowpath/core/NodeMatch$Tier" ∧ Fld Z Z.heap b1 "com/example/rowpath/rowpath/core/NodeMatch$Tier" "level" "Z" (.int (0 : Int32)) ∧ Fld Z Z.heap b1 "com/example/rowpath/rowpath/core/NodeMatch$Tier" "type" "Z" (.int (1 : Int32)) ∧ Fld Z Z.heap b1 "com/example/rowpath/rowpath/core/NodeMatch$Tier" "id" "Z" (.int (1 : Int32)) ∧ Sta Z Z.heap "com/example/rowpath/rowpath/core/NodeMatch$Tier" "LEVEL_TYPE" "Lcom/example/rowpath/rowpath/core/NodeMatch$Tier;" (.ref b2) ∧ Exa Z Z.heap b2 "com/example/rowpath/rowpath/core/NodeMatch$Tier" ∧ Fld Z Z.heap b2 "com/example/rowpath/rowpath/core/NodeMatch$Tier" "level" "Z" (.int (1 : Int32)) ∧ Fld Z Z.heap b2 "com/example/rowpath/rowpath/core/NodeMatch$Tier" "type" "Z" (.int (1 : Int32)) ∧ Fld Z Z.heap b2 "com/example/rowpath/rowpath/core/NodeMatch$Tier" "id" "Z" (.int (0 : Int32)) ∧ Sta Z Z.heap "com/example/rowpath/rowpath/core/NodeMatch$Tier" "TYPE" "Lcom/example/rowpath/rowpath/core/NodeMatch$Tier;" (.ref b3) ∧ Exa Z Z.heap b3 "com/example/rowpath/rowpath/core/NodeMatch$Tier" ∧ Fld Z Z.heap b3 "com/example/rowpath/rowpath/core/NodeMatch$Tier" "level" "Z" (.int (0 : Int32)) ∧ Fld Z Z.heap b3 "com/example/rowpath/rowpath/core/NodeMatch$Tier" "type" "Z" (.int (1 : Int32)) ∧ Fld Z Z.heap b3 "com/example/rowpath/rowpath/core/NodeMatch$Tier" "id" "Z" (.int (0 : Int32)) ∧ Sta Z Z.heap "com/example/rowpath/rowpath/core/NodeMatch$Tier" "LEVEL" "Lcom/example/rowpath/rowpath/core/NodeMatch$Tier;" (.ref b4) ∧ Exa Z Z.heap b4 "com/example/rowpath/rowpath/core/NodeMatch$Tier" ∧ Fld Z Z.heap b4 "com/example/rowpath/rowpath/core/NodeMatch$Tier" "level" "Z" (.int (1 : Int32)) ∧ Fld Z Z.heap b4 "com/example/rowpath/rowpath/core/NodeMatch$Tier" "type" "Z" (.int (0 : Int32)) ∧ Fld Z Z.heap b4 "com/example/rowpath/rowpath/core/NodeMatch$Tier" "id" "Z" (.int (0 : Int32)) ∧ Sta Z Z.heap "com/example/rowpath/rowpath/core/NodeMatch$Tier" "NONE" "Lcom/example/rowpath/rowpath/core/NodeMatch$Tier;" (.ref b5) ∧ Exa Z Z.heap b5 "com/example/rowpath/rowpath/core/NodeMatch$Tier" ∧ Fld Z Z.heap b5 "com/example/rowpath/rowpath/core/NodeMatch$Tier" "level" "Z" (.int (0 : Int32)) ∧ Fld Z Z.heap b5 "com/example/rowpath/rowpath/core/NodeMatch$Tier" "type" "Z" (.int (0 : Int32)) ∧ Fld Z Z.heap b5 "com/example/rowpath/rowpath/core/NodeMatch$Tier" "id" "Z" (.int (0 : Int32)) ∧ Sta Z Z.heap "com/example/rowpath/rowpath/core/NodeMatch$Tier" "$VALUES" "[Lcom/example/rowpath/rowpath/core/NodeMatch$Tier;" (.ref bv) ∧ Exa Z Z.heap bv "[Lcom/example/rowpath/rowpath/core/NodeMatch$Tier;" ∧ Arv Z Z.heap bv kv (.object "com/example/rowpath/rowpath/core/NodeMatch$Tier") (6 : Int32) [.ref b0, .ref b1, .ref b2, .ref b3, .ref b4, .ref b5] .null
theorem pd_10 : parseMethodDescriptor "()V" = some ⟨[], none⟩ := by decide +kernel
theorem pd_11 : parseMethodDescriptor "(I)V" = some ⟨[.int], none⟩ := by decide +kernel
theorem pd_12 : parseMethodDescriptor "(I)Ljava/lang/Integer;" = some ⟨[.int], (some (.object "java/lang/Integer"))⟩ := by decide +kernel
theorem pd_13 : parseMethodDescriptor "(C)Z" = some ⟨[.char], (some .boolean)⟩ := by decide +kernel
theorem pd_14 : parseMethodDescriptor "(C)[B" = some ⟨[.char], (some (.array .byte))⟩ := by decide +kernel
theorem pd_15 : parseMethodDescriptor "([BB)V" = some ⟨[(.array .byte), .byte], none⟩ := by decide +kernel
theorem pd_16 : parseMethodDescriptor "(C)Ljava/lang/String;" = some ⟨[.char], (some (.object "java/lang/String"))⟩ := by decide +kernel
theorem pd_17 : parseMethodDescriptor "(I)Ljava/lang/String;" = some ⟨[.int], (some (.object "java/lang/String"))⟩ := by decide +kernel
theorem pd_18 : parseMethodDescriptor "(Ljava/lang/Integer;Ljava/lang/String;Ljava/lang/String;)V" = some ⟨[(.object "java/lang/Integer"), (.object "java/lang/String"), (.object "java/lang/String")], none⟩ := by decide +kernel
theorem d7_0 : decode jdk_31_method_10_code 0 = .ok (.aload_n 0, 1) := by decide +kernel
theorem d7_1 : decode jdk_31_method_10_code 1 = .ok (.ifnonnull 11, 3) := by decide +kernel
theorem d7_4 : decode jdk_31_method_10_code 4 = .ok (.new 84, 3) := by decide +kernel
theorem d7_7 : decode jdk_31_method_10_code 7 = .ok (.dup, 1) := by decide +kernel
theorem d7_8 : decode jdk_31_method_10_code 8 = .ok (.invokespecial 86, 3) := by decide +kernel
theorem d7_11 : decode jdk_31_method_10_code 11 = .ok (.athrow, 1) := by decide +kernel
theorem d7_12 : decode jdk_31_method_10_code 12 = .ok (.aload_n 0, 1) := by decide +kernel
theorem d7_13 : decode jdk_31_method_10_code 13 = .ok (.areturn, 1) := by decide +kernel
theorem pn_0 : plainName "java/util/Objects" = true := by first | (simp [plainName, overriddenIn]; done) | decide +kernel
set_option maxRecDepth 65536 in
set_option maxHeartbeats 40000000 in
theorem c_rnn (l : Launch) (Z : State) (a0 : Array Value) (G : Gl Z a0) (a : Addr) (h : Heap)  :
    Ctr l Z EL nw (⟨"java/util/Objects", "requireNonNull", "(Ljava/lang/Object;)Ljava/lang/Object;"⟩ : MethodName) jdk_31_method_10_code 1 (Option.some (Jvm.ClassFile.FieldType.object "java/lang/Object")) ({ frames := 0, cells := 0, slots := 0, locals := 0 } : Room) #[.ref a] h [] (PureQ h fun v => v = .ref a) := by
  obtain ⟨hw, hEL, hSA, ⟨zc, SC, hz⟩, ⟨fm, SF, hfm⟩⟩ := id G
  refine Ctr.enter (own := "java/util/Objects") (nm := "requireNonNull") rfl rfl hEL (plainFor_of_name pn_0) #[.val (.ref a)] (fun m => by first | rfl | (simp [entryFrame, mkF, argsToLocals, Value.category, maxLocals]; done)) ?_
  intro p e s m below meth c T X
  refine g_aloadN X d7_0 rfl rfl 1 rfl ?_
  refine g_ifnonnullYes X d7_1 12 (by decide) (by decide) ?_
  refine g_aloadN X d7_12 rfl rfl 13 rfl ?_
  exact g_retA X rfl rfl rfl d7_13 (by decide) (by decide) ⟨rfl, _, rfl, rfl⟩
theorem d8_0 : decode jdk_32_method_2_code 0 = .ok (.aload_n 0, 1) := by decide +kernel
theorem d8_1 : decode jdk_32_method_2_code 1 = .ok (.invokespecial 7, 3) := by decide +kernel
theorem d8_4 : decode jdk_32_method_2_code 4 = .ok (.aload_n 0, 1) := by decide +kernel
theorem d8_5 : decode jdk_32_method_2_code 5 = .ok (.aload_n 1, 1) := by decide +kernel
theorem d8_6 : decode jdk_32_method_2_code 6 = .ok (.putfield 13, 3) := by decide +kernel
theorem d8_9 : decode jdk_32_method_2_code 9 = .ok (.return_, 1) := by decide +kernel
theorem pn_1 : plainName "java/util/Optional" = true := by first | (simp [plainName, overriddenIn]; done) | decide +kernel
set_option maxRecDepth 65536 in
set_option maxHeartbeats 40000000 in
theorem c_oinit (l : Launch) (Z : State) (a0 : Array Value) (G : Gl Z a0) (o a : Addr) (h : Heap) (E : Exa Z h o "java/util/Optional") (F : Fld Z h o "java/util/Optional" "value" "Ljava/lang/Object;" .null) :
    Ctr l Z EL nw (⟨"java/util/Optional", "<init>", "(Ljava/lang/Object;)V"⟩ : MethodName) jdk_32_method_2_code 2 (Option.none : Option Jvm.ClassFile.FieldType) ({ frames := 1, cells := 0, slots := 0, locals := 12 } : Room) #[.ref o, .ref a] h [o] (VoidQ fun h' => Keep h h' [o] ∧ Exa Z h' o "java/util/Optional" ∧ Fld Z h' o "java/util/Optional" "value" "Ljava/lang/Object;" (.ref a)) := by
  obtain ⟨hw, hEL, hSA, ⟨zc, SC, hz⟩, ⟨fm, SF, hfm⟩⟩ := id G
  refine Ctr.enter (own := "java/util/Optional") (nm := "<init>") rfl rfl hEL (plainFor_of_name pn_1) #[.val (.ref o), .val (.ref a)] (fun m => by first | rfl | (simp [entryFrame, mkF, argsToLocals, Value.category, maxLocals]; done)) ?_
  intro p e s m below meth c T X
  refine g_aloadN X d8_0 rfl rfl 1 rfl ?_
  refine g_initO X (hw _ (List.mem_of_getElem? (i := 59) rfl)) (hw _ (List.mem_of_getElem? (i := 12) rfl)) (hw _ (List.mem_of_getElem? (i := 13) rfl)) rfl d8_1 (by decide) 0 (Nat.le_of_eq rfl) (by decide) 4 rfl ?_
  intro T1 X2
  refine g_aloadN X2 d8_4 rfl rfl 5 rfl ?_
  refine g_aloadN X2 d8_5 rfl rfl 6 rfl ?_
  refine g_putF X2 (Or.inl (hw _ (List.mem_of_getElem? (i := 60) rfl))) (host := "") Via.refl F E (Or.inr ⟨(hw _ (List.mem_of_getElem? (i := 61) rfl)), rfl, rfl⟩) (hw _ (List.mem_of_getElem? (i := 50) rfl)) (ty := (.object "java/lang/Object")) (by rfl) rfl rfl (by simp) d8_6 9 rfl ?_
  intro T3 h4 X5 W6 F7 E8
  exact g_ret X5 rfl d8_9 (by decide) (by decide) ⟨rfl, ⟨((Keep.refl h [o]).wr W6 (Or.inl (by simp))), E8, F7⟩⟩
theorem d6_0 : decode jdk_32_method_3_code 0 = .ok (.new 2, 3) := by decide +kernel
theorem d6_3 : decode jdk_32_method_3_code 3 = .ok (.dup, 1) := by decide +kernel
theorem d6_4 : decode jdk_32_method_3_code 4 = .ok (.aload_n 0, 1) := by decide +kernel
theorem d6_5 : decode jdk_32_method_3_code 5 = .ok (.invokestatic 17, 3) := by decide +kernel
theorem d6_8 : decode jdk_32_method_3_code 8 = .ok (.invokespecial 23, 3) := by decide +kernel
theorem d6_11 : decode jdk_32_method_3_code 11 = .ok (.areturn, 1) := by decide +kernel
set_option maxRecDepth 65536 in
set_option maxHeartbeats 40000000 in
theorem c_oof (l : Launch) (Z : State) (a0 : Array Value) (G : Gl Z a0) (a : Addr) (h : Heap)  :
    Ctr l Z EL nw (⟨"java/util/Optional", "of", "(Ljava/lang/Object;)Ljava/util/Optional;"⟩ : MethodName) jdk_32_method_3_code 1 (Option.some (Jvm.ClassFile.FieldType.object "java/util/Optional")) ({ frames := 2, cells := 1, slots := 1, locals := 26 } : Room) #[.ref a] h [] (ValQ fun w h' => ∃ o, w = .ref o ∧ Ext h h' ∧ Exa Z h' o "java/util/Optional" ∧ Fld Z h' o "java/util/Optional" "value" "Ljava/lang/Object;" (.ref a)) := by
  obtain ⟨hw, hEL, hSA, ⟨zc, SC, hz⟩, ⟨fm, SF, hfm⟩⟩ := id G
  refine Ctr.enter (own := "java/util/Optional") (nm := "of") rfl rfl hEL (plainFor_of_name pn_1) #[.val (.ref a)] (fun m => by first | rfl | (simp [entryFrame, mkF, argsToLocals, Value.category, maxLocals]; done)) ?_
  intro p e s m below meth c T X
  refine g_new X (hw _ (List.mem_of_getElem? (i := 49) rfl)) (hw _ (List.mem_of_getElem? (i := 50) rfl)) (hw _ (List.mem_of_getElem? (i := 47) rfl)) d6_0 (ck := 1) rfl (cs := 1) rfl (by decide) (by decide) 3 rfl ?_
  intro a1 T2 h3 ea4 X5 E6 A7 D8
  have le_a1 : h.size ≤ a1 := by rw [ea4]; exact (Ext.refl h).1
  have F9 : Fld Z h3 a1 "java/util/Optional" "value" "Ljava/lang/Object;" (.null) := D8 (Or.inr (hw _ (List.mem_of_getElem? (i := 61) rfl))) (ty := (.object "java/lang/Object")) (by rfl)
  refine g_dup X5 d6_3 rfl 4 rfl ?_
  refine g_aloadN X5 d6_4 rfl rfl 5 rfl ?_
  refine g_callSp X5 (hw _ (List.mem_of_getElem? (i := 51) rfl)) (hw _ (List.mem_of_getElem? (i := 52) rfl)) (hw _ (List.mem_of_getElem? (i := 53) rfl)) (hw _ (List.mem_of_getElem? (i := 54) rfl)) (by decide) (c_rnn l Z a0 G a h3) (by simp) (argsL := [.ref a]) (rest := [.ref a1, .ref a1]) pd_3 rfl rfl rfl rfl 2 (Nat.le_of_eq rfl) (by decide) (by decide) (ck := 1) rfl (cs := 1) rfl (by decide) (by decide) d6_5 8 rfl ?_
  intro w12 T10 X11 hq13
  subst hq13
  refine g_callIn X11 rfl (hw _ (List.mem_of_getElem? (i := 55) rfl)) (hw _ (List.mem_of_getElem? (i := 56) rfl)) (hw _ (List.mem_of_getElem? (i := 47) rfl)) (hw _ (List.mem_of_getElem? (i := 58) rfl)) (by decide) (c_oinit l Z a0 G a1 a h3 A7 F9) (by simp) (argsL := [.ref a]) (rest := [.ref a1]) pd_2 rfl rfl rfl rfl 1 (Nat.le_of_eq rfl) (by decide) (by decide) (ck := 1) rfl (cs := 1) rfl (by decide) (by decide) d6_8 11 rfl ?_
  intro T14 h17 X15 hq16
  obtain ⟨K18, E19, F20⟩ := hq16
  exact g_retA X15 rfl rfl rfl d6_11 (by decide) (by decide) ⟨_, rfl, ⟨a1, rfl, (ext_keep ((Ext.refl h).trans E6) K18 (fun x hx => by cases List.mem_singleton.mp hx; exact le_a1)), E19, F20⟩⟩
theorem d9_0 : decode jdk_32_method_7_code 0 = .ok (.aload_n 0, 1) := by decide +kernel
theorem d9_1 : decode jdk_32_method_7_code 1 = .ok (.getfield 13, 3) := by decide +kernel
theorem d9_4 : decode jdk_32_method_7_code 4 = .ok (.ifnonnull 7, 3) := by decide +kernel
theorem d9_7 : decode jdk_32_method_7_code 7 = .ok (.iconst 1, 1) := by decide +kernel
theorem d9_8 : decode jdk_32_method_7_code 8 = .ok (.goto 4, 3) := by decide +kernel
theorem d9_11 : decode jdk_32_method_7_code 11 = .ok (.iconst 0, 1) := by decide +kernel
theorem d9_12 : decode jdk_32_method_7_code 12 = .ok (.ireturn, 1) := by decide +kernel
set_option maxRecDepth 65536 in
set_option maxHeartbeats 40000000 in
theorem c_ie (l : Launch) (Z : State) (a0 : Array Value) (G : Gl Z a0) (o a : Addr) (h : Heap) (F : Fld Z h o "java/util/Optional" "value" "Ljava/lang/Object;" (.ref a)) :
    Ctr l Z EL nw (⟨"java/util/Optional", "isEmpty", "()Z"⟩ : MethodName) jdk_32_method_7_code 1 (Option.some Jvm.ClassFile.FieldType.boolean) ({ frames := 0, cells := 0, slots := 0, locals := 0 } : Room) #[.ref o] h [] (PureQ h fun v => v = .int 0) := by
  obtain ⟨hw, hEL, hSA, ⟨zc, SC, hz⟩, ⟨fm, SF, hfm⟩⟩ := id G
  refine Ctr.enter (own := "java/util/Optional") (nm := "isEmpty") rfl rfl hEL (plainFor_of_name pn_1) #[.val (.ref o)] (fun m => by first | rfl | (simp [entryFrame, mkF, argsToLocals, Value.category, maxLocals]; done)) ?_
  intro p e s m below meth c T X
  refine g_aloadN X d9_0 rfl rfl 1 rfl ?_
  refine g_getF X (Or.inl (hw _ (List.mem_of_getElem? (i := 60) rfl))) (host := "") Via.refl F d9_1 4 rfl ?_
  intro T1 X2
  refine g_ifnonnullYes X2 d9_4 11 (by decide) (by decide) ?_
  refine g_iconst X2 (0 : Int32) d9_11 (by decide) 12 rfl ?_
  exact g_retN X2 (t := .boolean) rfl (by simp) d9_12 _ rfl (by decide) (by decide) ⟨rfl, _, rfl, rfl⟩
theorem d11_0 : decode jdk_32_method_17_code 0 = .ok (.aload_n 0, 1) := by decide +kernel
theorem d11_1 : decode jdk_32_method_17_code 1 = .ok (.getfield 13, 3) := by decide +kernel
theorem d11_4 : decode jdk_32_method_17_code 4 = .ok (.ifnonnull 13, 3) := by decide +kernel
theorem d11_7 : decode jdk_32_method_17_code 7 = .ok (.new 26, 3) := by decide +kernel
theorem d11_10 : decode jdk_32_method_17_code 10 = .ok (.dup, 1) := by decide +kernel
theorem d11_11 : decode jdk_32_method_17_code 11 = .ok (.ldc 28, 2) := by decide +kernel
theorem d11_13 : decode jdk_32_method_17_code 13 = .ok (.invokespecial 30, 3) := by decide +kernel
theorem d11_16 : decode jdk_32_method_17_code 16 = .ok (.athrow, 1) := by decide +kernel
theorem d11_17 : decode jdk_32_method_17_code 17 = .ok (.aload_n 0, 1) := by decide +kernel
theorem d11_18 : decode jdk_32_method_17_code 18 = .ok (.getfield 13, 3) := by decide +kernel
theorem d11_21 : decode jdk_32_method_17_code 21 = .ok (.areturn, 1) := by decide +kernel
set_option maxRecDepth 65536 in
set_option maxHeartbeats 40000000 in
theorem c_oet (l : Launch) (Z : State) (a0 : Array Value) (G : Gl Z a0) (o a : Addr) (h : Heap) (F : Fld Z h o "java/util/Optional" "value" "Ljava/lang/Object;" (.ref a)) :
    Ctr l Z EL nw (⟨"java/util/Optional", "orElseThrow", "()Ljava/lang/Object;"⟩ : MethodName) jdk_32_method_17_code 1 (Option.some (Jvm.ClassFile.FieldType.object "java/lang/Object")) ({ frames := 0, cells := 0, slots := 0, locals := 0 } : Room) #[.ref o] h [] (PureQ h fun v => v = .ref a) := by
  obtain ⟨hw, hEL, hSA, ⟨zc, SC, hz⟩, ⟨fm, SF, hfm⟩⟩ := id G
  refine Ctr.enter (own := "java/util/Optional") (nm := "orElseThrow") rfl rfl hEL (plainFor_of_name pn_1) #[.val (.ref o)] (fun m => by first | rfl | (simp [entryFrame, mkF, argsToLocals, Value.category, maxLocals]; done)) ?_
  intro p e s m below meth c T X
  refine g_aloadN X d11_0 rfl rfl 1 rfl ?_
  refine g_getF X (Or.inl (hw _ (List.mem_of_getElem? (i := 60) rfl))) (host := "") Via.refl F d11_1 4 rfl ?_
  intro T1 X2
  refine g_ifnonnullYes X2 d11_4 17 (by decide) (by decide) ?_
  refine g_aloadN X2 d11_17 rfl rfl 18 rfl ?_
  refine g_getF X2 (Or.inl (hw _ (List.mem_of_getElem? (i := 60) rfl))) (host := "") Via.refl F d11_18 21 rfl ?_
  intro T3 X4
  exact g_retA X4 rfl rfl rfl d11_21 (by decide) (by decide) ⟨rfl, _, rfl, rfl⟩
theorem d5_0 : decode prog_48_method_1_code 0 = .ok (.getstatic 22, 3) := by decide +kernel
theorem d5_3 : decode prog_48_method_1_code 3 = .ok (.invokevirtual 26, 3) := by decide +kernel
theorem d5_6 : decode prog_48_method_1_code 6 = .ok (.checkcast 27, 3) := by decide +kernel
theorem d5_9 : decode prog_48_method_1_code 9 = .ok (.areturn, 1) := by decide +kernel
theorem pn_2 : plainName "com/example/rowpath/rowpath/core/NodeMatch$Tier" = true := by first | (simp [plainName, overriddenIn]; done) | decide +kernel
set_option maxRecDepth 65536 in
set_option maxHeartbeats 40000000 in
theorem c_values (l : Launch) (Z : State) (a0 : Array Value) (G : Gl Z a0) (b0 b1 b2 b3 b4 b5 bv : Addr) (kv : ClassId) (h : Heap) (TT : Tiers Z b0 b1 b2 b3 b4 b5 bv kv) :
    Ctr l Z EL nw (⟨"com/example/rowpath/rowpath/core/NodeMatch$Tier", "values", "()[Lcom/example/rowpath/rowpath/core/NodeMatch$Tier;"⟩ : MethodName) prog_48_method_1_code 0 (Option.some (Jvm.ClassFile.FieldType.array (Jvm.ClassFile.FieldType.object "com/example/rowpath/rowpath/core/NodeMatch$Tier"))) ({ frames := 1, cells := 1, slots := 6, locals := 14 } : Room) #[] h [] (ValQ fun w h' => ∃ b, w = .ref b ∧ Ext h h' ∧ Arv Z h' b kv (.object "com/example/rowpath/rowpath/core/NodeMatch$Tier") (6 : Int32) [.ref b0, .ref b1, .ref b2, .ref b3, .ref b4, .ref b5] .null) := by
  obtain ⟨hw, hEL, hSA, ⟨zc, SC, hz⟩, ⟨fm, SF, hfm⟩⟩ := id G
  refine Ctr.enter (own := "com/example/rowpath/rowpath/core/NodeMatch$Tier") (nm := "values") rfl rfl hEL (plainFor_of_name pn_2) #[] (fun m => by first | rfl | (simp [entryFrame, mkF, argsToLocals, Value.category, maxLocals]; done)) ?_
  intro p e s m below meth c T X
  obtain ⟨S0, E0, F0level, F0type, F0id, S1, E1, F1level, F1type, F1id, S2, E2, F2level, F2type, F2id, S3, E3, F3level, F3type, F3id, S4, E4, F4level, F4type, F4id, S5, E5, F5level, F5type, F5id, SV, EV, AV⟩ := TT
  refine g_getS X (Or.inl (hw _ (List.mem_of_getElem? (i := 21) rfl))) (host := "") Via.refl (SV.ext X.old) d5_0 3 rfl ?_
  intro T1 X2
  refine g_clone X2 (hw _ (List.mem_of_getElem? (i := 23) rfl)) (hw _ (List.mem_of_getElem? (i := 24) rfl)) (hw _ (List.mem_of_getElem? (i := 28) rfl)) (hw _ (List.mem_of_getElem? (i := 26) rfl)) (hw _ (List.mem_of_getElem? (i := 27) rfl)) (hw _ (List.mem_of_getElem? (i := 29) rfl)) (AV.ext X2.old) (EV.ext X2.old) rfl d5_3 (by decide) 0 (Nat.le_of_eq rfl) (by decide) 6 (by decide) (ck := 1) rfl (cs := 6) rfl (by decide) (by decide) 6 rfl ?_
  intro a3 T4 h5 ea6 X7 E8 A9 B10
  refine g_cast X7 (hw _ (List.mem_of_getElem? (i := 37) rfl)) (Ins.self B10) d5_6 9 rfl ?_
  intro T11 X12
  exact g_retA X12 rfl rfl rfl d5_9 (by decide) (by decide) ⟨_, rfl, ⟨a3, rfl, ((Ext.refl h).trans E8), A9⟩⟩
theorem d4_0 : decode prog_48_method_4_code 0 = .ok (.invokestatic 51, 3) := by decide +kernel
theorem d4_3 : decode prog_48_method_4_code 3 = .ok (.astore_n 3, 1) := by decide +kernel
theorem d4_4 : decode prog_48_method_4_code 4 = .ok (.aload_n 3, 1) := by decide +kernel
theorem d4_5 : decode prog_48_method_4_code 5 = .ok (.arraylength, 1) := by decide +kernel
theorem d4_6 : decode prog_48_method_4_code 6 = .ok (.istore 4, 2) := by decide +kernel
theorem d4_8 : decode prog_48_method_4_code 8 = .ok (.iconst 0, 1) := by decide +kernel
theorem d4_9 : decode prog_48_method_4_code 9 = .ok (.istore 5, 2) := by decide +kernel
theorem d4_11 : decode prog_48_method_4_code 11 = .ok (.iload 5, 2) := by decide +kernel
theorem d4_13 : decode prog_48_method_4_code 13 = .ok (.iload 4, 2) := by decide +kernel
theorem d4_15 : decode prog_48_method_4_code 15 = .ok (.if_icmp .ge 48, 3) := by decide +kernel
theorem d4_18 : decode prog_48_method_4_code 18 = .ok (.aload_n 3, 1) := by decide +kernel
theorem d4_19 : decode prog_48_method_4_code 19 = .ok (.iload 5, 2) := by decide +kernel
theorem d4_21 : decode prog_48_method_4_code 21 = .ok (.aaload, 1) := by decide +kernel
theorem d4_22 : decode prog_48_method_4_code 22 = .ok (.astore 6, 2) := by decide +kernel
theorem d4_24 : decode prog_48_method_4_code 24 = .ok (.aload 6, 2) := by decide +kernel
theorem d4_26 : decode prog_48_method_4_code 26 = .ok (.getfield 41, 3) := by decide +kernel
theorem d4_29 : decode prog_48_method_4_code 29 = .ok (.iload_n 0, 1) := by decide +kernel
theorem d4_30 : decode prog_48_method_4_code 30 = .ok (.if_icmp .ne 27, 3) := by decide +kernel
theorem d4_33 : decode prog_48_method_4_code 33 = .ok (.aload 6, 2) := by decide +kernel
theorem d4_35 : decode prog_48_method_4_code 35 = .ok (.getfield 45, 3) := by decide +kernel
theorem d4_38 : decode prog_48_method_4_code 38 = .ok (.iload_n 1, 1) := by decide +kernel
theorem d4_39 : decode prog_48_method_4_code 39 = .ok (.if_icmp .ne 18, 3) := by decide +kernel
theorem d4_42 : decode prog_48_method_4_code 42 = .ok (.aload 6, 2) := by decide +kernel
theorem d4_44 : decode prog_48_method_4_code 44 = .ok (.getfield 48, 3) := by decide +kernel
theorem d4_47 : decode prog_48_method_4_code 47 = .ok (.iload_n 2, 1) := by decide +kernel
theorem d4_48 : decode prog_48_method_4_code 48 = .ok (.if_icmp .ne 9, 3) := by decide +kernel
theorem d4_51 : decode prog_48_method_4_code 51 = .ok (.aload 6, 2) := by decide +kernel
theorem d4_53 : decode prog_48_method_4_code 53 = .ok (.invokestatic 55, 3) := by decide +kernel
theorem d4_56 : decode prog_48_method_4_code 56 = .ok (.areturn, 1) := by decide +kernel
theorem d4_57 : decode prog_48_method_4_code 57 = .ok (.iinc 5 1, 3) := by decide +kernel
theorem d4_60 : decode prog_48_method_4_code 60 = .ok (.goto (-49), 3) := by decide +kernel
theorem d4_63 : decode prog_48_method_4_code 63 = .ok (.invokestatic 61, 3) := by decide +kernel
theorem d4_66 : decode prog_48_method_4_code 66 = .ok (.areturn, 1) := by decide +kernel
set_option maxRecDepth 65536 in
set_option maxHeartbeats 40000000 in
theorem c_of111 (l : Launch) (Z : State) (a0 : Array Value) (G : Gl Z a0) (b0 b1 b2 b3 b4 b5 bv : Addr) (kv : ClassId) (h : Heap) (TT : Tiers Z b0 b1 b2 b3 b4 b5 bv kv) :
    Ctr l Z EL nw (⟨"com/example/rowpath/rowpath/core/NodeMatch$Tier", "of", "(ZZZ)Ljava/util/Optional;"⟩ : MethodName) prog_48_method_4_code 7 (Option.some (Jvm.ClassFile.FieldType.object "java/util/Optional")) ({ frames := 3, cells := 2, slots := 7, locals := 38 } : Room) #[.int (1 : Int32), .int (1 : Int32), .int (1 : Int32)] h [] (ValQ fun w h' => ∃ o, w = .ref o ∧ Ext h h' ∧ Exa Z h' o "java/util/Optional" ∧ Fld Z h' o "java/util/Optional" "value" "Ljava/lang/Object;" (.ref b0)) := by
  obtain ⟨hw, hEL, hSA, ⟨zc, SC, hz⟩, ⟨fm, SF, hfm⟩⟩ := id G
  refine Ctr.enter (own := "com/example/rowpath/rowpath/core/NodeMatch$Tier") (nm := "of") rfl rfl hEL (plainFor_of_name pn_2) #[.val (.int (1 : Int32)), .val (.int (1 : Int32)), .val (.int (1 : Int32)), .unset, .unset, .unset, .unset] (fun m => by first | rfl | (simp [entryFrame, mkF, argsToLocals, Value.category, maxLocals]; done)) ?_
  intro p e s m below meth c T X
  have TT0 := TT
  obtain ⟨S0, E0, F0level, F0type, F0id, S1, E1, F1level, F1type, F1id, S2, E2, F2level, F2type, F2id, S3, E3, F3level, F3type, F3id, S4, E4, F4level, F4type, F4id, S5, E5, F5level, F5type, F5id, SV, EV, AV⟩ := TT
  refine g_callSv X (hw _ (List.mem_of_getElem? (i := 18) rfl)) (hw _ (List.mem_of_getElem? (i := 19) rfl)) (hw _ (List.mem_of_getElem? (i := 16) rfl)) (hw _ (List.mem_of_getElem? (i := 20) rfl)) (by decide) (c_values l Z a0 G b0 b1 b2 b3 b4 b5 bv kv h TT0) (by simp) (argsL := []) (rest := []) pd_6 rfl rfl rfl rfl 0 (Nat.le_of_eq rfl) (by decide) (by decide) (ck := 1) rfl (cs := 6) rfl (by decide) (by decide) d4_0 3 rfl ?_
  intro w3 T1 h5 X2 hq4
  obtain ⟨b6, rfl, E7, A8⟩ := hq4
  refine g_astoreN X2 d4_3 rfl (Ls' := #[.val (.int (1 : Int32)), .val (.int (1 : Int32)), .val (.int (1 : Int32)), .val (.ref b6), .unset, .unset, .unset]) rfl 4 rfl ?_
  refine g_aloadN X2 d4_4 rfl rfl 5 rfl ?_
  refine g_arrlen X2 A8 d4_5 6 rfl ?_
  refine g_istore X2 d4_6 (Ls' := #[.val (.int (1 : Int32)), .val (.int (1 : Int32)), .val (.int (1 : Int32)), .val (.ref b6), .val (.int (6 : Int32)), .unset, .unset]) rfl 8 rfl ?_
  refine g_iconst X2 (0 : Int32) d4_8 (by decide) 9 rfl ?_
  refine g_istore X2 d4_9 (Ls' := #[.val (.int (1 : Int32)), .val (.int (1 : Int32)), .val (.int (1 : Int32)), .val (.ref b6), .val (.int (6 : Int32)), .val (.int (0 : Int32)), .unset]) rfl 11 rfl ?_
  refine g_iload X2 d4_11 rfl 13 rfl ?_
  refine g_iload X2 d4_13 rfl 15 rfl ?_
  refine g_icmpNo X2 d4_15 (XT.ii_ge_f (by decide)) 18 rfl ?_
  refine g_aloadN X2 d4_18 rfl rfl 19 rfl ?_
  refine g_iload X2 d4_19 rfl 21 rfl ?_
  refine g_aaload X2 A8 rfl (by decide) (by decide) (.ref b0) rfl d4_21 22 rfl ?_
  refine g_astore X2 d4_22 rfl (Ls' := #[.val (.int (1 : Int32)), .val (.int (1 : Int32)), .val (.int (1 : Int32)), .val (.ref b6), .val (.int (6 : Int32)), .val (.int (0 : Int32)), .val (.ref b0)]) rfl 24 rfl ?_
  refine g_aload X2 d4_24 rfl rfl 26 rfl ?_
  refine g_getF X2 (Or.inl (hw _ (List.mem_of_getElem? (i := 39) rfl))) (host := "") Via.refl (F0level.ext X2.old) d4_26 29 rfl ?_
  intro T9 X10
  refine g_iloadN X10 d4_29 rfl 30 rfl ?_
  refine g_icmpNo X10 d4_30 (XT.ii_ne_f (by decide)) 33 rfl ?_
  refine g_aload X10 d4_33 rfl rfl 35 rfl ?_
  refine g_getF X10 (Or.inl (hw _ (List.mem_of_getElem? (i := 41) rfl))) (host := "") Via.refl (F0type.ext X10.old) d4_35 38 rfl ?_
  intro T11 X12
  refine g_iloadN X12 d4_38 rfl 39 rfl ?_
  refine g_icmpNo X12 d4_39 (XT.ii_ne_f (by decide)) 42 rfl ?_
  refine g_aload X12 d4_42 rfl rfl 44 rfl ?_
  refine g_getF X12 (Or.inl (hw _ (List.mem_of_getElem? (i := 43) rfl))) (host := "") Via.refl (F0id.ext X12.old) d4_44 47 rfl ?_
  intro T13 X14
  refine g_iloadN X14 d4_47 rfl 48 rfl ?_
  refine g_icmpNo X14 d4_48 (XT.ii_ne_f (by decide)) 51 rfl ?_
  refine g_aload X14 d4_51 rfl rfl 53 rfl ?_
  refine g_callSv X14 (hw _ (List.mem_of_getElem? (i := 45) rfl)) (hw _ (List.mem_of_getElem? (i := 46) rfl)) (hw _ (List.mem_of_getElem? (i := 47) rfl)) (hw _ (List.mem_of_getElem? (i := 48) rfl)) (by decide) (c_oof l Z a0 G b0 h5) (by simp) (argsL := [.ref b0]) (rest := []) pd_4 rfl rfl rfl rfl 0 (Nat.le_of_eq rfl) (by decide) (by decide) (ck := 2) rfl (cs := 7) rfl (by decide) (by decide) d4_53 56 rfl ?_
  intro w17 T15 h19 X16 hq18
  obtain ⟨o20, rfl, E21, A22, F23⟩ := hq18
  exact g_retA X16 rfl rfl rfl d4_56 (by decide) (by decide) ⟨_, rfl, ⟨o20, rfl, (((Ext.refl h).trans E7).trans E21), A22, F23⟩⟩
set_option maxRecDepth 65536 in
set_option maxHeartbeats 40000000 in
theorem c_of011 (l : Launch) (Z : State) (a0 : Array Value) (G : Gl Z a0) (b0 b1 b2 b3 b4 b5 bv : Addr) (kv : ClassId) (h : Heap) (TT : Tiers Z b0 b1 b2 b3 b4 b5 bv kv) :
    Ctr l Z EL nw (⟨"com/example/rowpath/rowpath/core/NodeMatch$Tier", "of", "(ZZZ)Ljava/util/Optional;"⟩ : MethodName) prog_48_method_4_code 7 (Option.some (Jvm.ClassFile.FieldType.object "java/util/Optional")) ({ frames := 3, cells := 2, slots := 7, locals := 38 } : Room) #[.int (0 : Int32), .int (1 : Int32), .int (1 : Int32)] h [] (ValQ fun w h' => ∃ o, w = .ref o ∧ Ext h h' ∧ Exa Z h' o "java/util/Optional" ∧ Fld Z h' o "java/util/Optional" "value" "Ljava/lang/Object;" (.ref b1)) := by
  obtain ⟨hw, hEL, hSA, ⟨zc, SC, hz⟩, ⟨fm, SF, hfm⟩⟩ := id G
  refine Ctr.enter (own := "com/example/rowpath/rowpath/core/NodeMatch$Tier") (nm := "of") rfl rfl hEL (plainFor_of_name pn_2) #[.val (.int (0 : Int32)), .val (.int (1 : Int32)), .val (.int (1 : Int32)), .unset, .unset, .unset, .unset] (fun m => by first | rfl | (simp [entryFrame, mkF, argsToLocals, Value.category, maxLocals]; done)) ?_
  intro p e s m below meth c T X
  have TT0 := TT
  obtain ⟨S0, E0, F0level, F0type, F0id, S1, E1, F1level, F1type, F1id, S2, E2, F2level, F2type, F2id, S3, E3, F3level, F3type, F3id, S4, E4, F4level, F4type, F4id, S5, E5, F5level, F5type, F5id, SV, EV, AV⟩ := TT
  refine g_callSv X (hw _ (List.mem_of_getElem? (i := 18) rfl)) (hw _ (List.mem_of_getElem? (i := 19) rfl)) (hw _ (List.mem_of_getElem? (i := 16) rfl)) (hw _ (List.mem_of_getElem? (i := 20) rfl)) (by decide) (c_values l Z a0 G b0 b1 b2 b3 b4 b5 bv kv h TT0) (by simp) (argsL := []) (rest := []) pd_6 rfl rfl rfl rfl 0 (Nat.le_of_eq rfl) (by decide) (by decide) (ck := 1) rfl (cs := 6) rfl (by decide) (by decide) d4_0 3 rfl ?_
  intro w3 T1 h5 X2 hq4
  obtain ⟨b6, rfl, E7, A8⟩ := hq4
  refine g_astoreN X2 d4_3 rfl (Ls' := #[.val (.int (0 : Int32)), .val (.int (1 : Int32)), .val (.int (1 : Int32)), .val (.ref b6), .unset, .unset, .unset]) rfl 4 rfl ?_
  refine g_aloadN X2 d4_4 rfl rfl 5 rfl ?_
  refine g_arrlen X2 A8 d4_5 6 rfl ?_
  refine g_istore X2 d4_6 (Ls' := #[.val (.int (0 : Int32)), .val (.int (1 : Int32)), .val (.int (1 : Int32)), .val (.ref b6), .val (.int (6 : Int32)), .unset, .unset]) rfl 8 rfl ?_
  refine g_iconst X2 (0 : Int32) d4_8 (by decide) 9 rfl ?_
  refine g_istore X2 d4_9 (Ls' := #[.val (.int (0 : Int32)), .val (.int (1 : Int32)), .val (.int (1 : Int32)), .val (.ref b6), .val (.int (6 : Int32)), .val (.int (0 : Int32)), .unset]) rfl 11 rfl ?_
  refine g_iload X2 d4_11 rfl 13 rfl ?_
  refine g_iload X2 d4_13 rfl 15 rfl ?_
  refine g_icmpNo X2 d4_15 (XT.ii_ge_f (by decide)) 18 rfl ?_
  refine g_aloadN X2 d4_18 rfl rfl 19 rfl ?_
  refine g_iload X2 d4_19 rfl 21 rfl ?_
  refine g_aaload X2 A8 rfl (by decide) (by decide) (.ref b0) rfl d4_21 22 rfl ?_
  refine g_astore X2 d4_22 rfl (Ls' := #[.val (.int (0 : Int32)), .val (.int (1 : Int32)), .val (.int (1 : Int32)), .val (.ref b6), .val (.int (6 : Int32)), .val (.int (0 : Int32)), .val (.ref b0)]) rfl 24 rfl ?_
  refine g_aload X2 d4_24 rfl rfl 26 rfl ?_
  refine g_getF X2 (Or.inl (hw _ (List.mem_of_getElem? (i := 39) rfl))) (host := "") Via.refl (F0level.ext X2.old) d4_26 29 rfl ?_
  intro T9 X10
  refine g_iloadN X10 d4_29 rfl 30 rfl ?_
  refine g_icmpYes X10 d4_30 (XT.ii_ne_t (by decide)) 57 (by decide) (by decide) ?_
  refine g_iinc X10 d4_57 rfl (1 : Int32) (by decide) (Ls' := #[.val (.int (0 : Int32)), .val (.int (1 : Int32)), .val (.int (1 : Int32)), .val (.ref b6), .val (.int (6 : Int32)), .val (.int (1 : Int32)), .val (.ref b0)]) rfl 60 rfl ?_
  refine g_goto X10 d4_60 11 (by decide) (by decide) ?_
  refine g_iload X10 d4_11 rfl 13 rfl ?_
  refine g_iload X10 d4_13 rfl 15 rfl ?_
  refine g_icmpNo X10 d4_15 (XT.ii_ge_f (by decide)) 18 rfl ?_
  refine g_aloadN X10 d4_18 rfl rfl 19 rfl ?_
  refine g_iload X10 d4_19 rfl 21 rfl ?_
  refine g_aaload X10 A8 rfl (by decide) (by decide) (.ref b1) rfl d4_21 22 rfl ?_
  refine g_astore X10 d4_22 rfl (Ls' := #[.val (.int (0 : Int32)), .val (.int (1 : Int32)), .val (.int (1 : Int32)), .val (.ref b6), .val (.int (6 : Int32)), .val (.int (1 : Int32)), .val (.ref b1)]) rfl 24 rfl ?_
  refine g_aload X10 d4_24 rfl rfl 26 rfl ?_
  refine g_getF X10 (Or.inl (hw _ (List.mem_of_getElem? (i := 39) rfl))) (host := "") Via.refl (F1level.ext X10.old) d4_26 29 rfl ?_
  intro T11 X12
  refine g_iloadN X12 d4_29 rfl 30 rfl ?_
  refine g_icmpNo X12 d4_30 (XT.ii_ne_f (by decide)) 33 rfl ?_
  refine g_aload X12 d4_33 rfl rfl 35 rfl ?_
  refine g_getF X12 (Or.inl (hw _ (List.mem_of_getElem? (i := 41) rfl))) (host := "") Via.refl (F1type.ext X12.old) d4_35 38 rfl ?_
  intro T13 X14
  refine g_iloadN X14 d4_38 rfl 39 rfl ?_
  refine g_icmpNo X14 d4_39 (XT.ii_ne_f (by decide)) 42 rfl ?_
  refine g_aload X14 d4_42 rfl rfl 44 rfl ?_
  refine g_getF X14 (Or.inl (hw _ (List.mem_of_getElem? (i := 43) rfl))) (host := "") Via.refl (F1id.ext X14.old) d4_44 47 rfl ?_
  intro T15 X16
  refine g_iloadN X16 d4_47 rfl 48 rfl ?_
  refine g_icmpNo X16 d4_48 (XT.ii_ne_f (by decide)) 51 rfl ?_
  refine g_aload X16 d4_51 rfl rfl 53 rfl ?_
  refine g_callSv X16 (hw _ (List.mem_of_getElem? (i := 45) rfl)) (hw _ (List.mem_of_getElem? (i := 46) rfl)) (hw _ (List.mem_of_getElem? (i := 47) rfl)) (hw _ (List.mem_of_getElem? (i := 48) rfl)) (by decide) (c_oof l Z a0 G b1 h5) (by simp) (argsL := [.ref b1]) (rest := []) pd_4 rfl rfl rfl rfl 0 (Nat.le_of_eq rfl) (by decide) (by decide) (ck := 2) rfl (cs := 7) rfl (by decide) (by decide) d4_53 56 rfl ?_
  intro w19 T17 h21 X18 hq20
  obtain ⟨o22, rfl, E23, A24, F25⟩ := hq20
  exact g_retA X18 rfl rfl rfl d4_56 (by decide) (by decide) ⟨_, rfl, ⟨o22, rfl, (((Ext.refl h).trans E7).trans E23), A24, F25⟩⟩
set_option maxRecDepth 65536 in
set_option maxHeartbeats 40000000 in
theorem c_of110 (l : Launch) (Z : State) (a0 : Array Value) (G : Gl Z a0) (b0 b1 b2 b3 b4 b5 bv : Addr) (kv : ClassId) (h : Heap) (TT : Tiers Z b0 b1 b2 b3 b4 b5 bv kv) :
    Ctr l Z EL nw (⟨"com/example/rowpath/rowpath/core/NodeMatch$Tier", "of", "(ZZZ)Ljava/util/Optional;"⟩ : MethodName) prog_48_method_4_code 7 (Option.some (Jvm.ClassFile.FieldType.object "java/util/Optional")) ({ frames := 3, cells := 2, slots := 7, locals := 38 } : Room) #[.int (1 : Int32), .int (1 : Int32), .int (0 : Int32)] h [] (ValQ fun w h' => ∃ o, w = .ref o ∧ Ext h h' ∧ Exa Z h' o "java/util/Optional" ∧ Fld Z h' o "java/util/Optional" "value" "Ljava/lang/Object;" (.ref b2)) := by
  obtain ⟨hw, hEL, hSA, ⟨zc, SC, hz⟩, ⟨fm, SF, hfm⟩⟩ := id G
  refine Ctr.enter (own := "com/example/rowpath/rowpath/core/NodeMatch$Tier") (nm := "of") rfl rfl hEL (plainFor_of_name pn_2) #[.val (.int (1 : Int32)), .val (.int (1 : Int32)), .val (.int (0 : Int32)), .unset, .unset, .unset, .unset] (fun m => by first | rfl | (simp [entryFrame, mkF, argsToLocals, Value.category, maxLocals]; done)) ?_
  intro p e s m below meth c T X
  have TT0 := TT
  obtain ⟨S0, E0, F0level, F0type, F0id, S1, E1, F1level, F1type, F1id, S2, E2, F2level, F2type, F2id, S3, E3, F3level, F3type, F3id, S4, E4, F4level, F4type, F4id, S5, E5, F5level, F5type, F5id, SV, EV, AV⟩ := TT
  refine g_callSv X (hw _ (List.mem_of_getElem? (i := 18) rfl)) (hw _ (List.mem_of_getElem? (i := 19) rfl)) (hw _ (List.mem_of_getElem? (i := 16) rfl)) (hw _ (List.mem_of_getElem? (i := 20) rfl)) (by decide) (c_values l Z a0 G b0 b1 b2 b3 b4 b5 bv kv h TT0) (by simp) (argsL := []) (rest := []) pd_6 rfl rfl rfl rfl 0 (Nat.le_of_eq rfl) (by decide) (by decide) (ck := 1) rfl (cs := 6) rfl (by decide) (by decide) d4_0 3 rfl ?_
  intro w3 T1 h5 X2 hq4
  obtain ⟨b6, rfl, E7, A8⟩ := hq4
  refine g_astoreN X2 d4_3 rfl (Ls' := #[.val (.int (1 : Int32)), .val (.int (1 : Int32)), .val (.int (0 : Int32)), .val (.ref b6), .unset, .unset, .unset]) rfl 4 rfl ?_
  refine g_aloadN X2 d4_4 rfl rfl 5 rfl ?_
  refine g_arrlen X2 A8 d4_5 6 rfl ?_
  refine g_istore X2 d4_6 (Ls' := #[.val (.int (1 : Int32)), .val (.int (1 : Int32)), .val (.int (0 : Int32)), .val (.ref b6), .val (.int (6 : Int32)), .unset, .unset]) rfl 8 rfl ?_
  refine g_iconst X2 (0 : Int32) d4_8 (by decide) 9 rfl ?_
  refine g_istore X2 d4_9 (Ls' := #[.val (.int (1 : Int32)), .val (.int (1 : Int32)), .val (.int (0 : Int32)), .val (.ref b6), .val (.int (6 : Int32)), .val (.int (0 : Int32)), .unset]) rfl 11 rfl ?_
  refine g_iload X2 d4_11 rfl 13 rfl ?_
  refine g_iload X2 d4_13 rfl 15 rfl ?_
  refine g_icmpNo X2 d4_15 (XT.ii_ge_f (by decide)) 18 rfl ?_
  refine g_aloadN X2 d4_18 rfl rfl 19 rfl ?_
  refine g_iload X2 d4_19 rfl 21 rfl ?_
  refine g_aaload X2 A8 rfl (by decide) (by decide) (.ref b0) rfl d4_21 22 rfl ?_
  refine g_astore X2 d4_22 rfl (Ls' := #[.val (.int (1 : Int32)), .val (.int (1 : Int32)), .val (.int (0 : Int32)), .val (.ref b6), .val (.int (6 : Int32)), .val (.int (0 : Int32)), .val (.ref b0)]) rfl 24 rfl ?_
  refine g_aload X2 d4_24 rfl rfl 26 rfl ?_
  refine g_getF X2 (Or.inl (hw _ (List.mem_of_getElem? (i := 39) rfl))) (host := "") Via.refl (F0level.ext X2.old) d4_26 29 rfl ?_
  intro T9 X10
  refine g_iloadN X10 d4_29 rfl 30 rfl ?_
  refine g_icmpNo X10 d4_30 (XT.ii_ne_f (by decide)) 33 rfl ?_
  refine g_aload X10 d4_33 rfl rfl 35 rfl ?_
  refine g_getF X10 (Or.inl (hw _ (List.mem_of_getElem? (i := 41) rfl))) (host := "") Via.refl (F0type.ext X10.old) d4_35 38 rfl ?_
  intro T11 X12
  refine g_iloadN X12 d4_38 rfl 39 rfl ?_
  refine g_icmpNo X12 d4_39 (XT.ii_ne_f (by decide)) 42 rfl ?_
  refine g_aload X12 d4_42 rfl rfl 44 rfl ?_
  refine g_getF X12 (Or.inl (hw _ (List.mem_of_getElem? (i := 43) rfl))) (host := "") Via.refl (F0id.ext X12.old) d4_44 47 rfl ?_
  intro T13 X14
  refine g_iloadN X14 d4_47 rfl 48 rfl ?_
  refine g_icmpYes X14 d4_48 (XT.ii_ne_t (by decide)) 57 (by decide) (by decide) ?_
  refine g_iinc X14 d4_57 rfl (1 : Int32) (by decide) (Ls' := #[.val (.int (1 : Int32)), .val (.int (1 : Int32)), .val (.int (0 : Int32)), .val (.ref b6), .val (.int (6 : Int32)), .val (.int (1 : Int32)), .val (.ref b0)]) rfl 60 rfl ?_
  refine g_goto X14 d4_60 11 (by decide) (by decide) ?_
  refine g_iload X14 d4_11 rfl 13 rfl ?_
  refine g_iload X14 d4_13 rfl 15 rfl ?_
  refine g_icmpNo X14 d4_15 (XT.ii_ge_f (by decide)) 18 rfl ?_
  refine g_aloadN X14 d4_18 rfl rfl 19 rfl ?_
  refine g_iload X14 d4_19 rfl 21 rfl ?_
  refine g_aaload X14 A8 rfl (by decide) (by decide) (.ref b1) rfl d4_21 22 rfl ?_
  refine g_astore X14 d4_22 rfl (Ls' := #[.val (.int (1 : Int32)), .val (.int (1 : Int32)), .val (.int (0 : Int32)), .val (.ref b6), .val (.int (6 : Int32)), .val (.int (1 : Int32)), .val (.ref b1)]) rfl 24 rfl ?_
  refine g_aload X14 d4_24 rfl rfl 26 rfl ?_
  refine g_getF X14 (Or.inl (hw _ (List.mem_of_getElem? (i := 39) rfl))) (host := "") Via.refl (F1level.ext X14.old) d4_26 29 rfl ?_
  intro T15 X16
  refine g_iloadN X16 d4_29 rfl 30 rfl ?_
  refine g_icmpYes X16 d4_30 (XT.ii_ne_t (by decide)) 57 (by decide) (by decide) ?_
  refine g_iinc X16 d4_57 rfl (2 : Int32) (by decide) (Ls' := #[.val (.int (1 : Int32)), .val (.int (1 : Int32)), .val (.int (0 : Int32)), .val (.ref b6), .val (.int (6 : Int32)), .val (.int (2 : Int32)), .val (.ref b1)]) rfl 60 rfl ?_
  refine g_goto X16 d4_60 11 (by decide) (by decide) ?_
  refine g_iload X16 d4_11 rfl 13 rfl ?_
  refine g_iload X16 d4_13 rfl 15 rfl ?_
  refine g_icmpNo X16 d4_15 (XT.ii_ge_f (by decide)) 18 rfl ?_
  refine g_aloadN X16 d4_18 rfl rfl 19 rfl ?_
  refine g_iload X16 d4_19 rfl 21 rfl ?_
  refine g_aaload X16 A8 rfl (by decide) (by decide) (.ref b2) rfl d4_21 22 rfl ?_
  refine g_astore X16 d4_22 rfl (Ls' := #[.val (.int (1 : Int32)), .val (.int (1 : Int32)), .val (.int (0 : Int32)), .val (.ref b6), .val (.int (6 : Int32)), .val (.int (2 : Int32)), .val (.ref b2)]) rfl 24 rfl ?_
  refine g_aload X16 d4_24 rfl rfl 26 rfl ?_
  refine g_getF X16 (Or.inl (hw _ (List.mem_of_getElem? (i := 39) rfl))) (host := "") Via.refl (F2level.ext X16.old) d4_26 29 rfl ?_
  intro T17 X18
  refine g_iloadN X18 d4_29 rfl 30 rfl ?_
  refine g_icmpNo X18 d4_30 (XT.ii_ne_f (by decide)) 33 rfl ?_
  refine g_aload X18 d4_33 rfl rfl 35 rfl ?_
  refine g_getF X18 (Or.inl (hw _ (List.mem_of_getElem? (i := 41) rfl))) (host := "") Via.refl (F2type.ext X18.old) d4_35 38 rfl ?_
  intro T19 X20
  refine g_iloadN X20 d4_38 rfl 39 rfl ?_
  refine g_icmpNo X20 d4_39 (XT.ii_ne_f (by decide)) 42 rfl ?_
  refine g_aload X20 d4_42 rfl rfl 44 rfl ?_
  refine g_getF X20 (Or.inl (hw _ (List.mem_of_getElem? (i := 43) rfl))) (host := "") Via.refl (F2id.ext X20.old) d4_44 47 rfl ?_
  intro T21 X22
  refine g_iloadN X22 d4_47 rfl 48 rfl ?_
  refine g_icmpNo X22 d4_48 (XT.ii_ne_f (by decide)) 51 rfl ?_
  refine g_aload X22 d4_51 rfl rfl 53 rfl ?_
  refine g_callSv X22 (hw _ (List.mem_of_getElem? (i := 45) rfl)) (hw _ (List.mem_of_getElem? (i := 46) rfl)) (hw _ (List.mem_of_getElem? (i := 47) rfl)) (hw _ (List.mem_of_getElem? (i := 48) rfl)) (by decide) (c_oof l Z a0 G b2 h5) (by simp) (argsL := [.ref b2]) (rest := []) pd_4 rfl rfl rfl rfl 0 (Nat.le_of_eq rfl) (by decide) (by decide) (ck := 2) rfl (cs := 7) rfl (by decide) (by decide) d4_53 56 rfl ?_
  intro w25 T23 h27 X24 hq26
  obtain ⟨o28, rfl, E29, A30, F31⟩ := hq26
  exact g_retA X24 rfl rfl rfl d4_56 (by decide) (by decide) ⟨_, rfl, ⟨o28, rfl, (((Ext.refl h).trans E7).trans E29), A30, F31⟩⟩
set_option maxRecDepth 65536 in
set_option maxHeartbeats 40000000 in
theorem c_of010 (l : Launch) (Z : State) (a0 : Array Value) (G : Gl Z a0) (b0 b1 b2 b3 b4 b5 bv : Addr) (kv : ClassId) (h : Heap) (TT : Tiers Z b0 b1 b2 b3 b4 b5 bv kv) :
    Ctr l Z EL nw (⟨"com/example/rowpath/rowpath/core/NodeMatch$Tier", "of", "(ZZZ)Ljava/util/Optional;"⟩ : MethodName) prog_48_method_4_code 7 (Option.some (Jvm.ClassFile.FieldType.object "java/util/Optional")) ({ frames := 3, cells := 2, slots := 7, locals := 38 } : Room) #[.int (0 : Int32), .int (1 : Int32), .int (0 : Int32)] h [] (ValQ fun w h' => ∃ o, w = .ref o ∧ Ext h h' ∧ Exa Z h' o "java/util/Optional" ∧ Fld Z h' o "java/util/Optional" "value" "Ljava/lang/Object;" (.ref b3)) := by
  obtain ⟨hw, hEL, hSA, ⟨zc, SC, hz⟩, ⟨fm, SF, hfm⟩⟩ := id G
  refine Ctr.enter (own := "com/example/rowpath/rowpath/core/NodeMatch$Tier") (nm := "of") rfl rfl hEL (plainFor_of_name pn_2) #[.val (.int (0 : Int32)), .val (.int (1 : Int32)), .val (.int (0 : Int32)), .unset, .unset, .unset, .unset] (fun m => by first | rfl | (simp [entryFrame, mkF, argsToLocals, Value.category, maxLocals]; done)) ?_
  intro p e s m below meth c T X
  have TT0 := TT
  obtain ⟨S0, E0, F0level, F0type, F0id, S1, E1, F1level, F1type, F1id, S2, E2, F2level, F2type, F2id, S3, E3, F3level, F3type, F3id, S4, E4, F4level, F4type, F4id, S5, E5, F5level, F5type, F5id, SV, EV, AV⟩ := TT
  refine g_callSv X (hw _ (List.mem_of_getElem? (i := 18) rfl)) (hw _ (List.mem_of_getElem? (i := 19) rfl)) (hw _ (List.mem_of_getElem? (i := 16) rfl)) (hw _ (List.mem_of_getElem? (i := 20) rfl)) (by decide) (c_values l Z a0 G b0 b1 b2 b3 b4 b5 bv kv h TT0) (by simp) (argsL := []) (rest := []) pd_6 rfl rfl rfl rfl 0 (Nat.le_of_eq rfl) (by decide) (by decide) (ck := 1) rfl (cs := 6) rfl (by decide) (by decide) d4_0 3 rfl ?_
  intro w3 T1 h5 X2 hq4
  obtain ⟨b6, rfl, E7, A8⟩ := hq4
  refine g_astoreN X2 d4_3 rfl (Ls' := #[.val (.int (0 : Int32)), .val (.int (1 : Int32)), .val (.int (0 : Int32)), .val (.ref b6), .unset, .unset, .unset]) rfl 4 rfl ?_
  refine g_aloadN X2 d4_4 rfl rfl 5 rfl ?_
  refine g_arrlen X2 A8 d4_5 6 rfl ?_
  refine g_istore X2 d4_6 (Ls' := #[.val (.int (0 : Int32)), .val (.int (1 : Int32)), .val (.int (0 : Int32)), .val (.ref b6), .val (.int (6 : Int32)), .unset, .unset]) rfl 8 rfl ?_
  refine g_iconst X2 (0 : Int32) d4_8 (by decide) 9 rfl ?_
  refine g_istore X2 d4_9 (Ls' := #[.val (.int (0 : Int32)), .val (.int (1 : Int32)), .val (.int (0 : Int32)), .val (.ref b6), .val (.int (6 : Int32)), .val (.int (0 : Int32)), .unset]) rfl 11 rfl ?_
  refine g_iload X2 d4_11 rfl 13 rfl ?_
  refine g_iload X2 d4_13 rfl 15 rfl ?_
  refine g_icmpNo X2 d4_15 (XT.ii_ge_f (by decide)) 18 rfl ?_
  refine g_aloadN X2 d4_18 rfl rfl 19 rfl ?_
  refine g_iload X2 d4_19 rfl 21 rfl ?_
  refine g_aaload X2 A8 rfl (by decide) (by decide) (.ref b0) rfl d4_21 22 rfl ?_
  refine g_astore X2 d4_22 rfl (Ls' := #[.val (.int (0 : Int32)), .val (.int (1 : Int32)), .val (.int (0 : Int32)), .val (.ref b6), .val (.int (6 : Int32)), .val (.int (0 : Int32)), .val (.ref b0)]) rfl 24 rfl ?_
  refine g_aload X2 d4_24 rfl rfl 26 rfl ?_
  refine g_getF X2 (Or.inl (hw _ (List.mem_of_getElem? (i := 39) rfl))) (host := "") Via.refl (F0level.ext X2.old) d4_26 29 rfl ?_
  intro T9 X10
  refine g_iloadN X10 d4_29 rfl 30 rfl ?_
  refine g_icmpYes X10 d4_30 (XT.ii_ne_t (by decide)) 57 (by decide) (by decide) ?_
  refine g_iinc X10 d4_57 rfl (1 : Int32) (by decide) (Ls' := #[.val (.int (0 : Int32)), .val (.int (1 : Int32)), .val (.int (0 : Int32)), .val (.ref b6), .val (.int (6 : Int32)), .val (.int (1 : Int32)), .val (.ref b0)]) rfl 60 rfl ?_
  refine g_goto X10 d4_60 11 (by decide) (by decide) ?_
  refine g_iload X10 d4_11 rfl 13 rfl ?_
  refine g_iload X10 d4_13 rfl 15 rfl ?_
  refine g_icmpNo X10 d4_15 (XT.ii_ge_f (by decide)) 18 rfl ?_
  refine g_aloadN X10 d4_18 rfl rfl 19 rfl ?_
  refine g_iload X10 d4_19 rfl 21 rfl ?_
  refine g_aaload X10 A8 rfl (by decide) (by decide) (.ref b1) rfl d4_21 22 rfl ?_
  refine g_astore X10 d4_22 rfl (Ls' := #[.val (.int (0 : Int32)), .val (.int (1 : Int32)), .val (.int (0 : Int32)), .val (.ref b6), .val (.int (6 : Int32)), .val (.int (1 : Int32)), .val (.ref b1)]) rfl 24 rfl ?_
  refine g_aload X10 d4_24 rfl rfl 26 rfl ?_
  refine g_getF X10 (Or.inl (hw _ (List.mem_of_getElem? (i := 39) rfl))) (host := "") Via.refl (F1level.ext X10.old) d4_26 29 rfl ?_
  intro T11 X12
  refine g_iloadN X12 d4_29 rfl 30 rfl ?_
  refine g_icmpNo X12 d4_30 (XT.ii_ne_f (by decide)) 33 rfl ?_
  refine g_aload X12 d4_33 rfl rfl 35 rfl ?_
  refine g_getF X12 (Or.inl (hw _ (List.mem_of_getElem? (i := 41) rfl))) (host := "") Via.refl (F1type.ext X12.old) d4_35 38 rfl ?_
  intro T13 X14
  refine g_iloadN X14 d4_38 rfl 39 rfl ?_
  refine g_icmpNo X14 d4_39 (XT.ii_ne_f (by decide)) 42 rfl ?_
  refine g_aload X14 d4_42 rfl rfl 44 rfl ?_
  refine g_getF X14 (Or.inl (hw _ (List.mem_of_getElem? (i := 43) rfl))) (host := "") Via.refl (F1id.ext X14.old) d4_44 47 rfl ?_
  intro T15 X16
  refine g_iloadN X16 d4_47 rfl 48 rfl ?_
  refine g_icmpYes X16 d4_48 (XT.ii_ne_t (by decide)) 57 (by decide) (by decide) ?_
  refine g_iinc X16 d4_57 rfl (2 : Int32) (by decide) (Ls' := #[.val (.int (0 : Int32)), .val (.int (1 : Int32)), .val (.int (0 : Int32)), .val (.ref b6), .val (.int (6 : Int32)), .val (.int (2 : Int32)), .val (.ref b1)]) rfl 60 rfl ?_
  refine g_goto X16 d4_60 11 (by decide) (by decide) ?_
  refine g_iload X16 d4_11 rfl 13 rfl ?_
  refine g_iload X16 d4_13 rfl 15 rfl ?_
  refine g_icmpNo X16 d4_15 (XT.ii_ge_f (by decide)) 18 rfl ?_
  refine g_aloadN X16 d4_18 rfl rfl 19 rfl ?_
  refine g_iload X16 d4_19 rfl 21 rfl ?_
  refine g_aaload X16 A8 rfl (by decide) (by decide) (.ref b2) rfl d4_21 22 rfl ?_
  refine g_astore X16 d4_22 rfl (Ls' := #[.val (.int (0 : Int32)), .val (.int (1 : Int32)), .val (.int (0 : Int32)), .val (.ref b6), .val (.int (6 : Int32)), .val (.int (2 : Int32)), .val (.ref b2)]) rfl 24 rfl ?_
  refine g_aload X16 d4_24 rfl rfl 26 rfl ?_
  refine g_getF X16 (Or.inl (hw _ (List.mem_of_getElem? (i := 39) rfl))) (host := "") Via.refl (F2level.ext X16.old) d4_26 29 rfl ?_
  intro T17 X18
  refine g_iloadN X18 d4_29 rfl 30 rfl ?_
  refine g_icmpYes X18 d4_30 (XT.ii_ne_t (by decide)) 57 (by decide) (by decide) ?_
  refine g_iinc X18 d4_57 rfl (3 : Int32) (by decide) (Ls' := #[.val (.int (0 : Int32)), .val (.int (1 : Int32)), .val (.int (0 : Int32)), .val (.ref b6), .val (.int (6 : Int32)), .val (.int (3 : Int32)), .val (.ref b2)]) rfl 60 rfl ?_
  refine g_goto X18 d4_60 11 (by decide) (by decide) ?_
  refine g_iload X18 d4_11 rfl 13 rfl ?_
  refine g_iload X18 d4_13 rfl 15 rfl ?_
  refine g_icmpNo X18 d4_15 (XT.ii_ge_f (by decide)) 18 rfl ?_
  refine g_aloadN X18 d4_18 rfl rfl 19 rfl ?_
  refine g_iload X18 d4_19 rfl 21 rfl ?_
  refine g_aaload X18 A8 rfl (by decide) (by decide) (.ref b3) rfl d4_21 22 rfl ?_
  refine g_astore X18 d4_22 rfl (Ls' := #[.val (.int (0 : Int32)), .val (.int (1 : Int32)), .val (.int (0 : Int32)), .val (.ref b6), .val (.int (6 : Int32)), .val (.int (3 : Int32)), .val (.ref b3)]) rfl 24 rfl ?_
  refine g_aload X18 d4_24 rfl rfl 26 rfl ?_
  refine g_getF X18 (Or.inl (hw _ (List.mem_of_getElem? (i := 39) rfl))) (host := "") Via.refl (F3level.ext X18.old) d4_26 29 rfl ?_
  intro T19 X20
  refine g_iloadN X20 d4_29 rfl 30 rfl ?_
  refine g_icmpNo X20 d4_30 (XT.ii_ne_f (by decide)) 33 rfl ?_
  refine g_aload X20 d4_33 rfl rfl 35 rfl ?_
  refine g_getF X20 (Or.inl (hw _ (List.mem_of_getElem? (i := 41) rfl))) (host := "") Via.refl (F3type.ext X20.old) d4_35 38 rfl ?_
  intro T21 X22
  refine g_iloadN X22 d4_38 rfl 39 rfl ?_
  refine g_icmpNo X22 d4_39 (XT.ii_ne_f (by decide)) 42 rfl ?_
  refine g_aload X22 d4_42 rfl rfl 44 rfl ?_
  refine g_getF X22 (Or.inl (hw _ (List.mem_of_getElem? (i := 43) rfl))) (host := "") Via.refl (F3id.ext X22.old) d4_44 47 rfl ?_
  intro T23 X24
  refine g_iloadN X24 d4_47 rfl 48 rfl ?_
  refine g_icmpNo X24 d4_48 (XT.ii_ne_f (by decide)) 51 rfl ?_
  refine g_aload X24 d4_51 rfl rfl 53 rfl ?_
  refine g_callSv X24 (hw _ (List.mem_of_getElem? (i := 45) rfl)) (hw _ (List.mem_of_getElem? (i := 46) rfl)) (hw _ (List.mem_of_getElem? (i := 47) rfl)) (hw _ (List.mem_of_getElem? (i := 48) rfl)) (by decide) (c_oof l Z a0 G b3 h5) (by simp) (argsL := [.ref b3]) (rest := []) pd_4 rfl rfl rfl rfl 0 (Nat.le_of_eq rfl) (by decide) (by decide) (ck := 2) rfl (cs := 7) rfl (by decide) (by decide) d4_53 56 rfl ?_
  intro w27 T25 h29 X26 hq28
  obtain ⟨o30, rfl, E31, A32, F33⟩ := hq28
  exact g_retA X26 rfl rfl rfl d4_56 (by decide) (by decide) ⟨_, rfl, ⟨o30, rfl, (((Ext.refl h).trans E7).trans E31), A32, F33⟩⟩
set_option maxRecDepth 65536 in
set_option maxHeartbeats 40000000 in
theorem c_of100 (l : Launch) (Z : State) (a0 : Array Value) (G : Gl Z a0) (b0 b1 b2 b3 b4 b5 bv : Addr) (kv : ClassId) (h : Heap) (TT : Tiers Z b0 b1 b2 b3 b4 b5 bv kv) :
    Ctr l Z EL nw (⟨"com/example/rowpath/rowpath/core/NodeMatch$Tier", "of", "(ZZZ)Ljava/util/Optional;"⟩ : MethodName) prog_48_method_4_code 7 (Option.some (Jvm.ClassFile.FieldType.object "java/util/Optional")) ({ frames := 3, cells := 2, slots := 7, locals := 38 } : Room) #[.int (1 : Int32), .int (0 : Int32), .int (0 : Int32)] h [] (ValQ fun w h' => ∃ o, w = .ref o ∧ Ext h h' ∧ Exa Z h' o "java/util/Optional" ∧ Fld Z h' o "java/util/Optional" "value" "Ljava/lang/Object;" (.ref b4)) := by
  obtain ⟨hw, hEL, hSA, ⟨zc, SC, hz⟩, ⟨fm, SF, hfm⟩⟩ := id G
  refine Ctr.enter (own := "com/example/rowpath/rowpath/core/NodeMatch$Tier") (nm := "of") rfl rfl hEL (plainFor_of_name pn_2) #[.val (.int (1 : Int32)), .val (.int (0 : Int32)), .val (.int (0 : Int32)), .unset, .unset, .unset, .unset] (fun m => by first | rfl | (simp [entryFrame, mkF, argsToLocals, Value.category, maxLocals]; done)) ?_
  intro p e s m below meth c T X
  have TT0 := TT
  obtain ⟨S0, E0, F0level, F0type, F0id, S1, E1, F1level, F1type, F1id, S2, E2, F2level, F2type, F2id, S3, E3, F3level, F3type, F3id, S4, E4, F4level, F4type, F4id, S5, E5, F5level, F5type, F5id, SV, EV, AV⟩ := TT
  refine g_callSv X (hw _ (List.mem_of_getElem? (i := 18) rfl)) (hw _ (List.mem_of_getElem? (i := 19) rfl)) (hw _ (List.mem_of_getElem? (i := 16) rfl)) (hw _ (List.mem_of_getElem? (i := 20) rfl)) (by decide) (c_values l Z a0 G b0 b1 b2 b3 b4 b5 bv kv h TT0) (by simp) (argsL := []) (rest := []) pd_6 rfl rfl rfl rfl 0 (Nat.le_of_eq rfl) (by decide) (by decide) (ck := 1) rfl (cs := 6) rfl (by decide) (by decide) d4_0 3 rfl ?_
  intro w3 T1 h5 X2 hq4
  obtain ⟨b6, rfl, E7, A8⟩ := hq4
  refine g_astoreN X2 d4_3 rfl (Ls' := #[.val (.int (1 : Int32)), .val (.int (0 : Int32)), .val (.int (0 : Int32)), .val (.ref b6), .unset, .unset, .unset]) rfl 4 rfl ?_
  refine g_aloadN X2 d4_4 rfl rfl 5 rfl ?_
  refine g_arrlen X2 A8 d4_5 6 rfl ?_
  refine g_istore X2 d4_6 (Ls' := #[.val (.int (1 : Int32)), .val (.int (0 : Int32)), .val (.int (0 : Int32)), .val (.ref b6), .val (.int (6 : Int32)), .unset, .unset]) rfl 8 rfl ?_
  refine g_iconst X2 (0 : Int32) d4_8 (by decide) 9 rfl ?_
  refine g_istore X2 d4_9 (Ls' := #[.val (.int (1 : Int32)), .val (.int (0 : Int32)), .val (.int (0 : Int32)), .val (.ref b6), .val (.int (6 : Int32)), .val (.int (0 : Int32)), .unset]) rfl 11 rfl ?_
  refine g_iload X2 d4_11 rfl 13 rfl ?_
  refine g_iload X2 d4_13 rfl 15 rfl ?_
  refine g_icmpNo X2 d4_15 (XT.ii_ge_f (by decide)) 18 rfl ?_
  refine g_aloadN X2 d4_18 rfl rfl 19 rfl ?_
  refine g_iload X2 d4_19 rfl 21 rfl ?_
  refine g_aaload X2 A8 rfl (by decide) (by decide) (.ref b0) rfl d4_21 22 rfl ?_
  refine g_astore X2 d4_22 rfl (Ls' := #[.val (.int (1 : Int32)), .val (.int (0 : Int32)), .val (.int (0 : Int32)), .val (.ref b6), .val (.int (6 : Int32)), .val (.int (0 : Int32)), .val (.ref b0)]) rfl 24 rfl ?_
  refine g_aload X2 d4_24 rfl rfl 26 rfl ?_
  refine g_getF X2 (Or.inl (hw _ (List.mem_of_getElem? (i := 39) rfl))) (host := "") Via.refl (F0level.ext X2.old) d4_26 29 rfl ?_
  intro T9 X10
  refine g_iloadN X10 d4_29 rfl 30 rfl ?_
  refine g_icmpNo X10 d4_30 (XT.ii_ne_f (by decide)) 33 rfl ?_
  refine g_aload X10 d4_33 rfl rfl 35 rfl ?_
  refine g_getF X10 (Or.inl (hw _ (List.mem_of_getElem? (i := 41) rfl))) (host := "") Via.refl (F0type.ext X10.old) d4_35 38 rfl ?_
  intro T11 X12
  refine g_iloadN X12 d4_38 rfl 39 rfl ?_
  refine g_icmpYes X12 d4_39 (XT.ii_ne_t (by decide)) 57 (by decide) (by decide) ?_
  refine g_iinc X12 d4_57 rfl (1 : Int32) (by decide) (Ls' := #[.val (.int (1 : Int32)), .val (.int (0 : Int32)), .val (.int (0 : Int32)), .val (.ref b6), .val (.int (6 : Int32)), .val (.int (1 : Int32)), .val (.ref b0)]) rfl 60 rfl ?_
  refine g_goto X12 d4_60 11 (by decide) (by decide) ?_
  refine g_iload X12 d4_11 rfl 13 rfl ?_
  refine g_iload X12 d4_13 rfl 15 rfl ?_
  refine g_icmpNo X12 d4_15 (XT.ii_ge_f (by decide)) 18 rfl ?_
  refine g_aloadN X12 d4_18 rfl rfl 19 rfl ?_
  refine g_iload X12 d4_19 rfl 21 rfl ?_
  refine g_aaload X12 A8 rfl (by decide) (by decide) (.ref b1) rfl d4_21 22 rfl ?_
  refine g_astore X12 d4_22 rfl (Ls' := #[.val (.int (1 : Int32)), .val (.int (0 : Int32)), .val (.int (0 : Int32)), .val (.ref b6), .val (.int (6 : Int32)), .val (.int (1 : Int32)), .val (.ref b1)]) rfl 24 rfl ?_
  refine g_aload X12 d4_24 rfl rfl 26 rfl ?_
  refine g_getF X12 (Or.inl (hw _ (List.mem_of_getElem? (i := 39) rfl))) (host := "") Via.refl (F1level.ext X12.old) d4_26 29 rfl ?_
  intro T13 X14
  refine g_iloadN X14 d4_29 rfl 30 rfl ?_
  refine g_icmpYes X14 d4_30 (XT.ii_ne_t (by decide)) 57 (by decide) (by decide) ?_
  refine g_iinc X14 d4_57 rfl (2 : Int32) (by decide) (Ls' := #[.val (.int (1 : Int32)), .val (.int (0 : Int32)), .val (.int (0 : Int32)), .val (.ref b6), .val (.int (6 : Int32)), .val (.int (2 : Int32)), .val (.ref b1)]) rfl 60 rfl ?_
  refine g_goto X14 d4_60 11 (by decide) (by decide) ?_
  refine g_iload X14 d4_11 rfl 13 rfl ?_
  refine g_iload X14 d4_13 rfl 15 rfl ?_
  refine g_icmpNo X14 d4_15 (XT.ii_ge_f (by decide)) 18 rfl ?_
  refine g_aloadN X14 d4_18 rfl rfl 19 rfl ?_
  refine g_iload X14 d4_19 rfl 21 rfl ?_
  refine g_aaload X14 A8 rfl (by decide) (by decide) (.ref b2) rfl d4_21 22 rfl ?_
  refine g_astore X14 d4_22 rfl (Ls' := #[.val (.int (1 : Int32)), .val (.int (0 : Int32)), .val (.int (0 : Int32)), .val (.ref b6), .val (.int (6 : Int32)), .val (.int (2 : Int32)), .val (.ref b2)]) rfl 24 rfl ?_
  refine g_aload X14 d4_24 rfl rfl 26 rfl ?_
  refine g_getF X14 (Or.inl (hw _ (List.mem_of_getElem? (i := 39) rfl))) (host := "") Via.refl (F2level.ext X14.old) d4_26 29 rfl ?_
  intro T15 X16
  refine g_iloadN X16 d4_29 rfl 30 rfl ?_
  refine g_icmpNo X16 d4_30 (XT.ii_ne_f (by decide)) 33 rfl ?_
  refine g_aload X16 d4_33 rfl rfl 35 rfl ?_
  refine g_getF X16 (Or.inl (hw _ (List.mem_of_getElem? (i := 41) rfl))) (host := "") Via.refl (F2type.ext X16.old) d4_35 38 rfl ?_
  intro T17 X18
  refine g_iloadN X18 d4_38 rfl 39 rfl ?_
  refine g_icmpYes X18 d4_39 (XT.ii_ne_t (by decide)) 57 (by decide) (by decide) ?_
  refine g_iinc X18 d4_57 rfl (3 : Int32) (by decide) (Ls' := #[.val (.int (1 : Int32)), .val (.int (0 : Int32)), .val (.int (0 : Int32)), .val (.ref b6), .val (.int (6 : Int32)), .val (.int (3 : Int32)), .val (.ref b2)]) rfl 60 rfl ?_
  refine g_goto X18 d4_60 11 (by decide) (by decide) ?_
  refine g_iload X18 d4_11 rfl 13 rfl ?_
  refine g_iload X18 d4_13 rfl 15 rfl ?_
  refine g_icmpNo X18 d4_15 (XT.ii_ge_f (by decide)) 18 rfl ?_
  refine g_aloadN X18 d4_18 rfl rfl 19 rfl ?_
  refine g_iload X18 d4_19 rfl 21 rfl ?_
  refine g_aaload X18 A8 rfl (by decide) (by decide) (.ref b3) rfl d4_21 22 rfl ?_
  refine g_astore X18 d4_22 rfl (Ls' := #[.val (.int (1 : Int32)), .val (.int (0 : Int32)), .val (.int (0 : Int32)), .val (.ref b6), .val (.int (6 : Int32)), .val (.int (3 : Int32)), .val (.ref b3)]) rfl 24 rfl ?_
  refine g_aload X18 d4_24 rfl rfl 26 rfl ?_
  refine g_getF X18 (Or.inl (hw _ (List.mem_of_getElem? (i := 39) rfl))) (host := "") Via.refl (F3level.ext X18.old) d4_26 29 rfl ?_
  intro T19 X20
  refine g_iloadN X20 d4_29 rfl 30 rfl ?_
  refine g_icmpYes X20 d4_30 (XT.ii_ne_t (by decide)) 57 (by decide) (by decide) ?_
  refine g_iinc X20 d4_57 rfl (4 : Int32) (by decide) (Ls' := #[.val (.int (1 : Int32)), .val (.int (0 : Int32)), .val (.int (0 : Int32)), .val (.ref b6), .val (.int (6 : Int32)), .val (.int (4 : Int32)), .val (.ref b3)]) rfl 60 rfl ?_
  refine g_goto X20 d4_60 11 (by decide) (by decide) ?_
  refine g_iload X20 d4_11 rfl 13 rfl ?_
  refine g_iload X20 d4_13 rfl 15 rfl ?_
  refine g_icmpNo X20 d4_15 (XT.ii_ge_f (by decide)) 18 rfl ?_
  refine g_aloadN X20 d4_18 rfl rfl 19 rfl ?_
  refine g_iload X20 d4_19 rfl 21 rfl ?_
  refine g_aaload X20 A8 rfl (by decide) (by decide) (.ref b4) rfl d4_21 22 rfl ?_
  refine g_astore X20 d4_22 rfl (Ls' := #[.val (.int (1 : Int32)), .val (.int (0 : Int32)), .val (.int (0 : Int32)), .val (.ref b6), .val (.int (6 : Int32)), .val (.int (4 : Int32)), .val (.ref b4)]) rfl 24 rfl ?_
  refine g_aload X20 d4_24 rfl rfl 26 rfl ?_
  refine g_getF X20 (Or.inl (hw _ (List.mem_of_getElem? (i := 39) rfl))) (host := "") Via.refl (F4level.ext X20.old) d4_26 29 rfl ?_
  intro T21 X22
  refine g_iloadN X22 d4_29 rfl 30 rfl ?_
  refine g_icmpNo X22 d4_30 (XT.ii_ne_f (by decide)) 33 rfl ?_
  refine g_aload X22 d4_33 rfl rfl 35 rfl ?_
  refine g_getF X22 (Or.inl (hw _ (List.mem_of_getElem? (i := 41) rfl))) (host := "") Via.refl (F4type.ext X22.old) d4_35 38 rfl ?_
  intro T23 X24
  refine g_iloadN X24 d4_38 rfl 39 rfl ?_
  refine g_icmpNo X24 d4_39 (XT.ii_ne_f (by decide)) 42 rfl ?_
  refine g_aload X24 d4_42 rfl rfl 44 rfl ?_
  refine g_getF X24 (Or.inl (hw _ (List.mem_of_getElem? (i := 43) rfl))) (host := "") Via.refl (F4id.ext X24.old) d4_44 47 rfl ?_
  intro T25 X26
  refine g_iloadN X26 d4_47 rfl 48 rfl ?_
  refine g_icmpNo X26 d4_48 (XT.ii_ne_f (by decide)) 51 rfl ?_
  refine g_aload X26 d4_51 rfl rfl 53 rfl ?_
  refine g_callSv X26 (hw _ (List.mem_of_getElem? (i := 45) rfl)) (hw _ (List.mem_of_getElem? (i := 46) rfl)) (hw _ (List.mem_of_getElem? (i := 47) rfl)) (hw _ (List.mem_of_getElem? (i := 48) rfl)) (by decide) (c_oof l Z a0 G b4 h5) (by simp) (argsL := [.ref b4]) (rest := []) pd_4 rfl rfl rfl rfl 0 (Nat.le_of_eq rfl) (by decide) (by decide) (ck := 2) rfl (cs := 7) rfl (by decide) (by decide) d4_53 56 rfl ?_
  intro w29 T27 h31 X28 hq30
  obtain ⟨o32, rfl, E33, A34, F35⟩ := hq30
  exact g_retA X28 rfl rfl rfl d4_56 (by decide) (by decide) ⟨_, rfl, ⟨o32, rfl, (((Ext.refl h).trans E7).trans E33), A34, F35⟩⟩
set_option maxRecDepth 65536 in
set_option maxHeartbeats 40000000 in
theorem c_of000 (l : Launch) (Z : State) (a0 : Array Value) (G : Gl Z a0) (b0 b1 b2 b3 b4 b5 bv : Addr) (kv : ClassId) (h : Heap) (TT : Tiers Z b0 b1 b2 b3 b4 b5 bv kv) :
    Ctr l Z EL nw (⟨"com/example/rowpath/rowpath/core/NodeMatch$Tier", "of", "(ZZZ)Ljava/util/Optional;"⟩ : MethodName) prog_48_method_4_code 7 (Option.some (Jvm.ClassFile.FieldType.object "java/util/Optional")) ({ frames := 3, cells := 2, slots := 7, locals := 38 } : Room) #[.int (0 : Int32), .int (0 : Int32), .int (0 : Int32)] h [] (ValQ fun w h' => ∃ o, w = .ref o ∧ Ext h h' ∧ Exa Z h' o "java/util/Optional" ∧ Fld Z h' o "java/util/Optional" "value" "Ljava/lang/Object;" (.ref b5)) := by
  obtain ⟨hw, hEL, hSA, ⟨zc, SC, hz⟩, ⟨fm, SF, hfm⟩⟩ := id G
  refine Ctr.enter (own := "com/example/rowpath/rowpath/core/NodeMatch$Tier") (nm := "of") rfl rfl hEL (plainFor_of_name pn_2) #[.val (.int (0 : Int32)), .val (.int (0 : Int32)), .val (.int (0 : Int32)), .unset, .unset, .unset, .unset] (fun m => by first | rfl | (simp [entryFrame, mkF, argsToLocals, Value.category, maxLocals]; done)) ?_
  intro p e s m below meth c T X
  have TT0 := TT
  obtain ⟨S0, E0, F0level, F0type, F0id, S1, E1, F1level, F1type, F1id, S2, E2, F2level, F2type, F2id, S3, E3, F3level, F3type, F3id, S4, E4, F4level, F4type, F4id, S5, E5, F5level, F5type, F5id, SV, EV, AV⟩ := TT
  refine g_callSv X (hw _ (List.mem_of_getElem? (i := 18) rfl)) (hw _ (List.mem_of_getElem? (i := 19) rfl)) (hw _ (List.mem_of_getElem? (i := 16) rfl)) (hw _ (List.mem_of_getElem? (i := 20) rfl)) (by decide) (c_values l Z a0 G b0 b1 b2 b3 b4 b5 bv kv h TT0) (by simp) (argsL := []) (rest := []) pd_6 rfl rfl rfl rfl 0 (Nat.le_of_eq rfl) (by decide) (by decide) (ck := 1) rfl (cs := 6) rfl (by decide) (by decide) d4_0 3 rfl ?_
  intro w3 T1 h5 X2 hq4
  obtain ⟨b6, rfl, E7, A8⟩ := hq4
  refine g_astoreN X2 d4_3 rfl (Ls' := #[.val (.int (0 : Int32)), .val (.int (0 : Int32)), .val (.int (0 : Int32)), .val (.ref b6), .unset, .unset, .unset]) rfl 4 rfl ?_
  refine g_aloadN X2 d4_4 rfl rfl 5 rfl ?_
  refine g_arrlen X2 A8 d4_5 6 rfl ?_
  refine g_istore X2 d4_6 (Ls' := #[.val (.int (0 : Int32)), .val (.int (0 : Int32)), .val (.int (0 : Int32)), .val (.ref b6), .val (.int (6 : Int32)), .unset, .unset]) rfl 8 rfl ?_
  refine g_iconst X2 (0 : Int32) d4_8 (by decide) 9 rfl ?_
  refine g_istore X2 d4_9 (Ls' := #[.val (.int (0 : Int32)), .val (.int (0 : Int32)), .val (.int (0 : Int32)), .val (.ref b6), .val (.int (6 : Int32)), .val (.int (0 : Int32)), .unset]) rfl 11 rfl ?_
  refine g_iload X2 d4_11 rfl 13 rfl ?_
  refine g_iload X2 d4_13 rfl 15 rfl ?_
  refine g_icmpNo X2 d4_15 (XT.ii_ge_f (by decide)) 18 rfl ?_
  refine g_aloadN X2 d4_18 rfl rfl 19 rfl ?_
  refine g_iload X2 d4_19 rfl 21 rfl ?_
  refine g_aaload X2 A8 rfl (by decide) (by decide) (.ref b0) rfl d4_21 22 rfl ?_
  refine g_astore X2 d4_22 rfl (Ls' := #[.val (.int (0 : Int32)), .val (.int (0 : Int32)), .val (.int (0 : Int32)), .val (.ref b6), .val (.int (6 : Int32)), .val (.int (0 : Int32)), .val (.ref b0)]) rfl 24 rfl ?_
  refine g_aload X2 d4_24 rfl rfl 26 rfl ?_
  refine g_getF X2 (Or.inl (hw _ (List.mem_of_getElem? (i := 39) rfl))) (host := "") Via.refl (F0level.ext X2.old) d4_26 29 rfl ?_
  intro T9 X10
  refine g_iloadN X10 d4_29 rfl 30 rfl ?_
  refine g_icmpYes X10 d4_30 (XT.ii_ne_t (by decide)) 57 (by decide) (by decide) ?_
  refine g_iinc X10 d4_57 rfl (1 : Int32) (by decide) (Ls' := #[.val (.int (0 : Int32)), .val (.int (0 : Int32)), .val (.int (0 : Int32)), .val (.ref b6), .val (.int (6 : Int32)), .val (.int (1 : Int32)), .val (.ref b0)]) rfl 60 rfl ?_
  refine g_goto X10 d4_60 11 (by decide) (by decide) ?_
  refine g_iload X10 d4_11 rfl 13 rfl ?_
  refine g_iload X10 d4_13 rfl 15 rfl ?_
  refine g_icmpNo X10 d4_15 (XT.ii_ge_f (by decide)) 18 rfl ?_
  refine g_aloadN X10 d4_18 rfl rfl 19 rfl ?_
  refine g_iload X10 d4_19 rfl 21 rfl ?_
  refine g_aaload X10 A8 rfl (by decide) (by decide) (.ref b1) rfl d4_21 22 rfl ?_
  refine g_astore X10 d4_22 rfl (Ls' := #[.val (.int (0 : Int32)), .val (.int (0 : Int32)), .val (.int (0 : Int32)), .val (.ref b6), .val (.int (6 : Int32)), .val (.int (1 : Int32)), .val (.ref b1)]) rfl 24 rfl ?_
  refine g_aload X10 d4_24 rfl rfl 26 rfl ?_
  refine g_getF X10 (Or.inl (hw _ (List.mem_of_getElem? (i := 39) rfl))) (host := "") Via.refl (F1level.ext X10.old) d4_26 29 rfl ?_
  intro T11 X12
  refine g_iloadN X12 d4_29 rfl 30 rfl ?_
  refine g_icmpNo X12 d4_30 (XT.ii_ne_f (by decide)) 33 rfl ?_
  refine g_aload X12 d4_33 rfl rfl 35 rfl ?_
  refine g_getF X12 (Or.inl (hw _ (List.mem_of_getElem? (i := 41) rfl))) (host := "") Via.refl (F1type.ext X12.old) d4_35 38 rfl ?_
  intro T13 X14
  refine g_iloadN X14 d4_38 rfl 39 rfl ?_
  refine g_icmpYes X14 d4_39 (XT.ii_ne_t (by decide)) 57 (by decide) (by decide) ?_
  refine g_iinc X14 d4_57 rfl (2 : Int32) (by decide) (Ls' := #[.val (.int (0 : Int32)), .val (.int (0 : Int32)), .val (.int (0 : Int32)), .val (.ref b6), .val (.int (6 : Int32)), .val (.int (2 : Int32)), .val (.ref b1)]) rfl 60 rfl ?_
  refine g_goto X14 d4_60 11 (by decide) (by decide) ?_
  refine g_iload X14 d4_11 rfl 13 rfl ?_
  refine g_iload X14 d4_13 rfl 15 rfl ?_
  refine g_icmpNo X14 d4_15 (XT.ii_ge_f (by decide)) 18 rfl ?_
  refine g_aloadN X14 d4_18 rfl rfl 19 rfl ?_
  refine g_iload X14 d4_19 rfl 21 rfl ?_
  refine g_aaload X14 A8 rfl (by decide) (by decide) (.ref b2) rfl d4_21 22 rfl ?_
  refine g_astore X14 d4_22 rfl (Ls' := #[.val (.int (0 : Int32)), .val (.int (0 : Int32)), .val (.int (0 : Int32)), .val (.ref b6), .val (.int (6 : Int32)), .val (.int (2 : Int32)), .val (.ref b2)]) rfl 24 rfl ?_
  refine g_aload X14 d4_24 rfl rfl 26 rfl ?_
  refine g_getF X14 (Or.inl (hw _ (List.mem_of_getElem? (i := 39) rfl))) (host := "") Via.refl (F2level.ext X14.old) d4_26 29 rfl ?_
  intro T15 X16
  refine g_iloadN X16 d4_29 rfl 30 rfl ?_
  refine g_icmpYes X16 d4_30 (XT.ii_ne_t (by decide)) 57 (by decide) (by decide) ?_
  refine g_iinc X16 d4_57 rfl (3 : Int32) (by decide) (Ls' := #[.val (.int (0 : Int32)), .val (.int (0 : Int32)), .val (.int (0 : Int32)), .val (.ref b6), .val (.int (6 : Int32)), .val (.int (3 : Int32)), .val (.ref b2)]) rfl 60 rfl ?_
  refine g_goto X16 d4_60 11 (by decide) (by decide) ?_
  refine g_iload X16 d4_11 rfl 13 rfl ?_
  refine g_iload X16 d4_13 rfl 15 rfl ?_
  refine g_icmpNo X16 d4_15 (XT.ii_ge_f (by decide)) 18 rfl ?_
  refine g_aloadN X16 d4_18 rfl rfl 19 rfl ?_
  refine g_iload X16 d4_19 rfl 21 rfl ?_
  refine g_aaload X16 A8 rfl (by decide) (by decide) (.ref b3) rfl d4_21 22 rfl ?_
  refine g_astore X16 d4_22 rfl (Ls' := #[.val (.int (0 : Int32)), .val (.int (0 : Int32)), .val (.int (0 : Int32)), .val (.ref b6), .val (.int (6 : Int32)), .val (.int (3 : Int32)), .val (.ref b3)]) rfl 24 rfl ?_
  refine g_aload X16 d4_24 rfl rfl 26 rfl ?_
  refine g_getF X16 (Or.inl (hw _ (List.mem_of_getElem? (i := 39) rfl))) (host := "") Via.refl (F3level.ext X16.old) d4_26 29 rfl ?_
  intro T17 X18
  refine g_iloadN X18 d4_29 rfl 30 rfl ?_
  refine g_icmpNo X18 d4_30 (XT.ii_ne_f (by decide)) 33 rfl ?_
  refine g_aload X18 d4_33 rfl rfl 35 rfl ?_
  refine g_getF X18 (Or.inl (hw _ (List.mem_of_getElem? (i := 41) rfl))) (host := "") Via.refl (F3type.ext X18.old) d4_35 38 rfl ?_
  intro T19 X20
  refine g_iloadN X20 d4_38 rfl 39 rfl ?_
  refine g_icmpYes X20 d4_39 (XT.ii_ne_t (by decide)) 57 (by decide) (by decide) ?_
  refine g_iinc X20 d4_57 rfl (4 : Int32) (by decide) (Ls' := #[.val (.int (0 : Int32)), .val (.int (0 : Int32)), .val (.int (0 : Int32)), .val (.ref b6), .val (.int (6 : Int32)), .val (.int (4 : Int32)), .val (.ref b3)]) rfl 60 rfl ?_
  refine g_goto X20 d4_60 11 (by decide) (by decide) ?_
  refine g_iload X20 d4_11 rfl 13 rfl ?_
  refine g_iload X20 d4_13 rfl 15 rfl ?_
  refine g_icmpNo X20 d4_15 (XT.ii_ge_f (by decide)) 18 rfl ?_
  refine g_aloadN X20 d4_18 rfl rfl 19 rfl ?_
  refine g_iload X20 d4_19 rfl 21 rfl ?_
  refine g_aaload X20 A8 rfl (by decide) (by decide) (.ref b4) rfl d4_21 22 rfl ?_
  refine g_astore X20 d4_22 rfl (Ls' := #[.val (.int (0 : Int32)), .val (.int (0 : Int32)), .val (.int (0 : Int32)), .val (.ref b6), .val (.int (6 : Int32)), .val (.int (4 : Int32)), .val (.ref b4)]) rfl 24 rfl ?_
  refine g_aload X20 d4_24 rfl rfl 26 rfl ?_
  refine g_getF X20 (Or.inl (hw _ (List.mem_of_getElem? (i := 39) rfl))) (host := "") Via.refl (F4level.ext X20.old) d4_26 29 rfl ?_
  intro T21 X22
  refine g_iloadN X22 d4_29 rfl 30 rfl ?_
  refine g_icmpYes X22 d4_30 (XT.ii_ne_t (by decide)) 57 (by decide) (by decide) ?_
  refine g_iinc X22 d4_57 rfl (5 : Int32) (by decide) (Ls' := #[.val (.int (0 : Int32)), .val (.int (0 : Int32)), .val (.int (0 : Int32)), .val (.ref b6), .val (.int (6 : Int32)), .val (.int (5 : Int32)), .val (.ref b4)]) rfl 60 rfl ?_
  refine g_goto X22 d4_60 11 (by decide) (by decide) ?_
  refine g_iload X22 d4_11 rfl 13 rfl ?_
  refine g_iload X22 d4_13 rfl 15 rfl ?_
  refine g_icmpNo X22 d4_15 (XT.ii_ge_f (by decide)) 18 rfl ?_
  refine g_aloadN X22 d4_18 rfl rfl 19 rfl ?_
  refine g_iload X22 d4_19 rfl 21 rfl ?_
  refine g_aaload X22 A8 rfl (by decide) (by decide) (.ref b5) rfl d4_21 22 rfl ?_
  refine g_astore X22 d4_22 rfl (Ls' := #[.val (.int (0 : Int32)), .val (.int (0 : Int32)), .val (.int (0 : Int32)), .val (.ref b6), .val (.int (6 : Int32)), .val (.int (5 : Int32)), .val (.ref b5)]) rfl 24 rfl ?_
  refine g_aload X22 d4_24 rfl rfl 26 rfl ?_
  refine g_getF X22 (Or.inl (hw _ (List.mem_of_getElem? (i := 39) rfl))) (host := "") Via.refl (F5level.ext X22.old) d4_26 29 rfl ?_
  intro T23 X24
  refine g_iloadN X24 d4_29 rfl 30 rfl ?_
  refine g_icmpNo X24 d4_30 (XT.ii_ne_f (by decide)) 33 rfl ?_
  refine g_aload X24 d4_33 rfl rfl 35 rfl ?_
  refine g_getF X24 (Or.inl (hw _ (List.mem_of_getElem? (i := 41) rfl))) (host := "") Via.refl (F5type.ext X24.old) d4_35 38 rfl ?_
  intro T25 X26
  refine g_iloadN X26 d4_38 rfl 39 rfl ?_
  refine g_icmpNo X26 d4_39 (XT.ii_ne_f (by decide)) 42 rfl ?_
  refine g_aload X26 d4_42 rfl rfl 44 rfl ?_
  refine g_getF X26 (Or.inl (hw _ (List.mem_of_getElem? (i := 43) rfl))) (host := "") Via.refl (F5id.ext X26.old) d4_44 47 rfl ?_
  intro T27 X28
  refine g_iloadN X28 d4_47 rfl 48 rfl ?_
  refine g_icmpNo X28 d4_48 (XT.ii_ne_f (by decide)) 51 rfl ?_
  refine g_aload X28 d4_51 rfl rfl 53 rfl ?_
  refine g_callSv X28 (hw _ (List.mem_of_getElem? (i := 45) rfl)) (hw _ (List.mem_of_getElem? (i := 46) rfl)) (hw _ (List.mem_of_getElem? (i := 47) rfl)) (hw _ (List.mem_of_getElem? (i := 48) rfl)) (by decide) (c_oof l Z a0 G b5 h5) (by simp) (argsL := [.ref b5]) (rest := []) pd_4 rfl rfl rfl rfl 0 (Nat.le_of_eq rfl) (by decide) (by decide) (ck := 2) rfl (cs := 7) rfl (by decide) (by decide) d4_53 56 rfl ?_
  intro w31 T29 h33 X30 hq32
  obtain ⟨o34, rfl, E35, A36, F37⟩ := hq32
  exact g_retA X30 rfl rfl rfl d4_56 (by decide) (by decide) ⟨_, rfl, ⟨o34, rfl, (((Ext.refl h).trans E7).trans E35), A36, F37⟩⟩
theorem pd_19 : parseMethodDescriptor "([C)V" = some ⟨[(.array .char)], none⟩ := by decide +kernel
theorem pd_20 : parseMethodDescriptor "([CIILjava/lang/Void;)V" = some ⟨[(.array .char), .int, .int, (.object "java/lang/Void")], none⟩ := by decide +kernel
theorem d14_0 : decode jdk_42_method_149_code 0 = .ok (.aload_n 0, 1) := by decide +kernel
theorem d14_1 : decode jdk_42_method_149_code 1 = .ok (.invokespecial 1, 3) := by decide +kernel
theorem d14_4 : decode jdk_42_method_149_code 4 = .ok (.iload_n 3, 1) := by decide +kernel
theorem d14_5 : decode jdk_42_method_149_code 5 = .ok (.ifCond .ne 22, 3) := by decide +kernel
theorem d14_8 : decode jdk_42_method_149_code 8 = .ok (.aload_n 0, 1) := by decide +kernel
theorem d14_9 : decode jdk_42_method_149_code 9 = .ok (.ldc 7, 2) := by decide +kernel
theorem d14_11 : decode jdk_42_method_149_code 11 = .ok (.getfield 9, 3) := by decide +kernel
theorem d14_14 : decode jdk_42_method_149_code 14 = .ok (.putfield 9, 3) := by decide +kernel
theorem d14_17 : decode jdk_42_method_149_code 17 = .ok (.aload_n 0, 1) := by decide +kernel
theorem d14_18 : decode jdk_42_method_149_code 18 = .ok (.ldc 7, 2) := by decide +kernel
theorem d14_20 : decode jdk_42_method_149_code 20 = .ok (.getfield 15, 3) := by decide +kernel
theorem d14_23 : decode jdk_42_method_149_code 23 = .ok (.putfield 15, 3) := by decide +kernel
theorem d14_26 : decode jdk_42_method_149_code 26 = .ok (.return_, 1) := by decide +kernel
theorem d14_27 : decode jdk_42_method_149_code 27 = .ok (.getstatic 38, 3) := by decide +kernel
theorem d14_30 : decode jdk_42_method_149_code 30 = .ok (.ifCond .eq 28, 3) := by decide +kernel
theorem d14_33 : decode jdk_42_method_149_code 33 = .ok (.aload_n 1, 1) := by decide +kernel
theorem d14_34 : decode jdk_42_method_149_code 34 = .ok (.iload_n 2, 1) := by decide +kernel
theorem d14_35 : decode jdk_42_method_149_code 35 = .ok (.iload_n 3, 1) := by decide +kernel
theorem d14_36 : decode jdk_42_method_149_code 36 = .ok (.invokestatic 177, 3) := by decide +kernel
theorem d14_39 : decode jdk_42_method_149_code 39 = .ok (.astore 5, 2) := by decide +kernel
theorem d14_41 : decode jdk_42_method_149_code 41 = .ok (.aload_n 0, 1) := by decide +kernel
theorem d14_42 : decode jdk_42_method_149_code 42 = .ok (.aload 5, 2) := by decide +kernel
theorem d14_44 : decode jdk_42_method_149_code 44 = .ok (.iload_n 3, 1) := by decide +kernel
theorem d14_45 : decode jdk_42_method_149_code 45 = .ok (.invokestatic 47, 3) := by decide +kernel
theorem d14_48 : decode jdk_42_method_149_code 48 = .ok (.putfield 15, 3) := by decide +kernel
theorem d14_51 : decode jdk_42_method_149_code 51 = .ok (.aload_n 0, 1) := by decide +kernel
theorem d14_52 : decode jdk_42_method_149_code 52 = .ok (.aload 5, 2) := by decide +kernel
theorem d14_54 : decode jdk_42_method_149_code 54 = .ok (.putfield 9, 3) := by decide +kernel
theorem d14_57 : decode jdk_42_method_149_code 57 = .ok (.return_, 1) := by decide +kernel
theorem d14_58 : decode jdk_42_method_149_code 58 = .ok (.aload_n 0, 1) := by decide +kernel
theorem d14_59 : decode jdk_42_method_149_code 59 = .ok (.iconst 1, 1) := by decide +kernel
theorem d14_60 : decode jdk_42_method_149_code 60 = .ok (.putfield 15, 3) := by decide +kernel
theorem d14_63 : decode jdk_42_method_149_code 63 = .ok (.aload_n 0, 1) := by decide +kernel
theorem d14_64 : decode jdk_42_method_149_code 64 = .ok (.aload_n 1, 1) := by decide +kernel
theorem d14_65 : decode jdk_42_method_149_code 65 = .ok (.iload_n 2, 1) := by decide +kernel
theorem d14_66 : decode jdk_42_method_149_code 66 = .ok (.iload_n 3, 1) := by decide +kernel
theorem d14_67 : decode jdk_42_method_149_code 67 = .ok (.invokestatic 180, 3) := by decide +kernel
theorem d14_70 : decode jdk_42_method_149_code 70 = .ok (.putfield 9, 3) := by decide +kernel
theorem d14_73 : decode jdk_42_method_149_code 73 = .ok (.return_, 1) := by decide +kernel
theorem pn_3 : plainName "java/lang/String" = true := by first | (simp [plainName, overriddenIn]; done) | decide +kernel
set_option maxRecDepth 65536 in
set_option maxHeartbeats 40000000 in
theorem c_s149 (l : Launch) (Z : State) (a0 : Array Value) (G : Gl Z a0) (a b : Addr) (us : List Addr) (h : Heap) (E : Exa Z h a "java/lang/String") (V : Fld Z h a "java/lang/String" "value" "[B" .null) (C : Fld Z h a "java/lang/String" "coder" "B" (.int (0 : Int32))) (hne : ∀ x ∈ us, x ≠ a) :
    Ctr l Z EL nw (⟨"java/lang/String", "<init>", "([CIILjava/lang/Void;)V"⟩ : MethodName) jdk_42_method_149_code 6 (Option.none : Option Jvm.ClassFile.FieldType) ({ frames := 1, cells := 4, slots := 8, locals := 12 } : Room) #[.ref a, .ref b, .int (0 : Int32), .int (0 : Int32), .null] h (a :: us) (VoidQ fun h' => Keep h h' [a] ∧ Str Z h' us a []) := by
  obtain ⟨hw, hEL, hSA, ⟨zc, SC, hz⟩, ⟨fm, SF, hfm⟩⟩ := id G
  refine Ctr.enter (own := "java/lang/String") (nm := "<init>") rfl rfl hEL (plainFor_of_name pn_3) #[.val (.ref a), .val (.ref b), .val (.int (0 : Int32)), .val (.int (0 : Int32)), .val (.null), .unset] (fun m => by first | rfl | (simp [entryFrame, mkF, argsToLocals, Value.category, maxLocals]; done)) ?_
  intro p e s m below meth c T X
  refine g_aloadN X d14_0 rfl rfl 1 rfl ?_
  refine g_initO X (hw _ (List.mem_of_getElem? (i := 101) rfl)) (hw _ (List.mem_of_getElem? (i := 12) rfl)) (hw _ (List.mem_of_getElem? (i := 13) rfl)) rfl d14_1 (by decide) 0 (Nat.le_of_eq rfl) (by decide) 4 rfl ?_
  intro T1 X2
  refine g_iloadN X2 d14_4 rfl 5 rfl ?_
  refine g_ifNo X2 d14_5 (XT.ii_ne_f (by decide)) 8 rfl ?_
  refine g_aloadN X2 d14_8 rfl rfl 9 rfl ?_
  refine g_ldcS X2 (cs := []) rfl (hw _ (List.mem_of_getElem? (i := 102) rfl)) hSA (by simp [EL, consts_1]) ⟨by decide, by decide⟩ (by decide) (by decide) d14_9 0 (by decide) (by decide) (ck := 2) rfl (cs' := 4) rfl (by decide) (by decide) 11 rfl ?_
  intro s3 T4 h5 X6 E7 S8
  obtain ⟨t11, kb12, e13, f14, f15, k16, b17, l18, n19⟩ := S8
  refine g_getF X6 (Or.inl (hw _ (List.mem_of_getElem? (i := 108) rfl))) (host := "") Via.refl f15 d14_11 14 rfl ?_
  intro T9 X10
  refine g_putF X10 (Or.inl (hw _ (List.mem_of_getElem? (i := 108) rfl))) (host := "") Via.refl (V.ext E7) (E.ext E7) (Or.inr ⟨(hw _ (List.mem_of_getElem? (i := 104) rfl)), rfl, rfl⟩) (hw _ (List.mem_of_getElem? (i := 91) rfl)) (ty := (.array .byte)) (by rfl) rfl rfl (by simp) d14_14 17 rfl ?_
  intro T20 h21 X22 W23 F24 E25
  refine g_aloadN X22 d14_17 rfl rfl 18 rfl ?_
  refine g_ldcS X22 (cs := []) rfl (hw _ (List.mem_of_getElem? (i := 102) rfl)) hSA (by simp [EL, consts_1]) ⟨by decide, by decide⟩ (by decide) (by decide) d14_18 0 (by decide) (by decide) (ck := 4) rfl (cs' := 8) rfl (by decide) (by decide) 20 rfl ?_
  intro s26 T27 h28 X29 E30 S31
  obtain ⟨t34, kb35, e36, f37, f38, k39, b40, l41, n42⟩ := S31
  refine g_getF X29 (Or.inl (hw _ (List.mem_of_getElem? (i := 109) rfl))) (host := "") Via.refl f37 d14_20 23 rfl ?_
  intro T32 X33
  refine g_putF X33 (Or.inl (hw _ (List.mem_of_getElem? (i := 109) rfl))) (host := "") Via.refl (((C.ext E7).other W23 (Or.inr (slot_ne (Or.inr (hw _ (List.mem_of_getElem? (i := 105) rfl))) (Or.inr (hw _ (List.mem_of_getElem? (i := 104) rfl))) (by decide) (by rfl) (by rfl)))).ext E30) (E25.ext E30) (Or.inr ⟨(hw _ (List.mem_of_getElem? (i := 105) rfl)), rfl, rfl⟩) (hw _ (List.mem_of_getElem? (i := 91) rfl)) (ty := .byte) (by rfl) rfl rfl (by simp) d14_23 26 rfl ?_
  intro T43 h44 X45 W46 F47 E48
  exact g_ret X45 rfl d14_26 (by decide) (by decide) ⟨rfl, ⟨(((((Keep.refl h [a]).ext E7).wr W23 (Or.inl (by simp))).ext E30).wr W46 (Or.inl (by simp))), t11, kb12, E48, F47, ((F24.ext E30).other W46 (Or.inr (slot_ne (Or.inr (hw _ (List.mem_of_getElem? (i := 104) rfl))) (Or.inr (hw _ (List.mem_of_getElem? (i := 105) rfl))) (by decide) (by rfl) (by rfl)))), (((k16.other W23 (Ne.symm (n19 a (by simp)).2)).ext E30).other W46 (Ne.symm (n19 a (by simp)).2)), b17, l18, fun x hx => ⟨hne x hx, (n19 x (List.mem_cons_of_mem _ hx)).2⟩⟩⟩
theorem d13_0 : decode jdk_42_method_3_code 0 = .ok (.aload_n 0, 1) := by decide +kernel
theorem d13_1 : decode jdk_42_method_3_code 1 = .ok (.aload_n 1, 1) := by decide +kernel
theorem d13_2 : decode jdk_42_method_3_code 2 = .ok (.iconst 0, 1) := by decide +kernel
theorem d13_3 : decode jdk_42_method_3_code 3 = .ok (.aload_n 1, 1) := by decide +kernel
theorem d13_4 : decode jdk_42_method_3_code 4 = .ok (.arraylength, 1) := by decide +kernel
theorem d13_5 : decode jdk_42_method_3_code 5 = .ok (.aconst_null, 1) := by decide +kernel
theorem d13_6 : decode jdk_42_method_3_code 6 = .ok (.invokespecial 27, 3) := by decide +kernel
theorem d13_9 : decode jdk_42_method_3_code 9 = .ok (.return_, 1) := by decide +kernel
set_option maxRecDepth 65536 in
set_option maxHeartbeats 40000000 in
theorem c_s3 (l : Launch) (Z : State) (a0 : Array Value) (G : Gl Z a0) (a b : Addr) (kb : ClassId) (us : List Addr) (h : Heap) (E : Exa Z h a "java/lang/String") (V : Fld Z h a "java/lang/String" "value" "[B" .null) (C : Fld Z h a "java/lang/String" "coder" "B" (.int (0 : Int32))) (hne : ∀ x ∈ us, x ≠ a) (A : Arv Z h b kb .char (0 : Int32) [] (.int (0 : Int32))) :
    Ctr l Z EL nw (⟨"java/lang/String", "<init>", "([C)V"⟩ : MethodName) jdk_42_method_3_code 2 (Option.none : Option Jvm.ClassFile.FieldType) ({ frames := 2, cells := 4, slots := 8, locals := 29 } : Room) #[.ref a, .ref b] h (a :: us) (VoidQ fun h' => Keep h h' [a] ∧ Str Z h' us a []) := by
  obtain ⟨hw, hEL, hSA, ⟨zc, SC, hz⟩, ⟨fm, SF, hfm⟩⟩ := id G
  refine Ctr.enter (own := "java/lang/String") (nm := "<init>") rfl rfl hEL (plainFor_of_name pn_3) #[.val (.ref a), .val (.ref b)] (fun m => by first | rfl | (simp [entryFrame, mkF, argsToLocals, Value.category, maxLocals]; done)) ?_
  intro p e s m below meth c T X
  refine g_aloadN X d13_0 rfl rfl 1 rfl ?_
  refine g_aloadN X d13_1 rfl rfl 2 rfl ?_
  refine g_iconst X (0 : Int32) d13_2 (by decide) 3 rfl ?_
  refine g_aloadN X d13_3 rfl rfl 4 rfl ?_
  refine g_arrlen X A d13_4 5 rfl ?_
  refine g_aconstNull X d13_5 6 rfl ?_
  refine g_callIn X rfl (hw _ (List.mem_of_getElem? (i := 97) rfl)) (hw _ (List.mem_of_getElem? (i := 98) rfl)) (hw _ (List.mem_of_getElem? (i := 92) rfl)) (hw _ (List.mem_of_getElem? (i := 100) rfl)) (by decide) (c_s149 l Z a0 G a b us h E V C hne) (fun _ q => q) (argsL := [.ref b, .int (0 : Int32), .int (0 : Int32), .null]) (rest := []) pd_20 rfl rfl rfl rfl 0 (Nat.le_of_eq rfl) (by decide) (by decide) (ck := 4) rfl (cs := 8) rfl (by decide) (by decide) d13_6 9 rfl ?_
  intro T1 h4 X2 hq3
  obtain ⟨K5, S6⟩ := hq3
  exact g_ret X2 rfl d13_9 (by decide) (by decide) ⟨rfl, ⟨K5, S6⟩⟩
theorem d2_0 : decode jdk_30_method_1_code 0 = .ok (.aload_n 0, 1) := by decide +kernel
theorem d2_1 : decode jdk_30_method_1_code 1 = .ok (.invokespecial 1, 3) := by decide +kernel
theorem d2_4 : decode jdk_30_method_1_code 4 = .ok (.return_, 1) := by decide +kernel
theorem pn_4 : plainName "java/lang/Record" = true := by first | (simp [plainName, overriddenIn]; done) | decide +kernel
set_option maxRecDepth 65536 in
set_option maxHeartbeats 40000000 in
theorem c_rec (l : Launch) (Z : State) (a0 : Array Value) (G : Gl Z a0) (a : Addr) (h : Heap)  :
    Ctr l Z EL nw (⟨"java/lang/Record", "<init>", "()V"⟩ : MethodName) jdk_30_method_1_code 1 (Option.none : Option Jvm.ClassFile.FieldType) ({ frames := 1, cells := 0, slots := 0, locals := 12 } : Room) #[.ref a] h [] (VoidQ fun h' => h = h') := by
  obtain ⟨hw, hEL, hSA, ⟨zc, SC, hz⟩, ⟨fm, SF, hfm⟩⟩ := id G
  refine Ctr.enter (own := "java/lang/Record") (nm := "<init>") rfl rfl hEL (plainFor_of_name pn_4) #[.val (.ref a)] (fun m => by first | rfl | (simp [entryFrame, mkF, argsToLocals, Value.category, maxLocals]; done)) ?_
  intro p e s m below meth c T X
  refine g_aloadN X d2_0 rfl rfl 1 rfl ?_
  refine g_initO X (hw _ (List.mem_of_getElem? (i := 11) rfl)) (hw _ (List.mem_of_getElem? (i := 12) rfl)) (hw _ (List.mem_of_getElem? (i := 13) rfl)) rfl d2_1 (by decide) 0 (Nat.le_of_eq rfl) (by decide) 4 rfl ?_
  intro T1 X2
  exact g_ret X2 rfl d2_4 (by decide) (by decide) ⟨rfl, rfl⟩
theorem d17_0 : decode jdk_18_method_1_code 0 = .ok (.aload_n 0, 1) := by decide +kernel
theorem d17_1 : decode jdk_18_method_1_code 1 = .ok (.invokespecial 1, 3) := by decide +kernel
theorem d17_4 : decode jdk_18_method_1_code 4 = .ok (.return_, 1) := by decide +kernel
theorem pn_5 : plainName "java/lang/Number" = true := by first | (simp [plainName, overriddenIn]; done) | decide +kernel
set_option maxRecDepth 65536 in
set_option maxHeartbeats 40000000 in
theorem c_num (l : Launch) (Z : State) (a0 : Array Value) (G : Gl Z a0) (a : Addr) (h : Heap)  :
    Ctr l Z EL nw (⟨"java/lang/Number", "<init>", "()V"⟩ : MethodName) jdk_18_method_1_code 1 (Option.none : Option Jvm.ClassFile.FieldType) ({ frames := 1, cells := 0, slots := 0, locals := 12 } : Room) #[.ref a] h [] (VoidQ fun h' => h = h') := by
  obtain ⟨hw, hEL, hSA, ⟨zc, SC, hz⟩, ⟨fm, SF, hfm⟩⟩ := id G
  refine Ctr.enter (own := "java/lang/Number") (nm := "<init>") rfl rfl hEL (plainFor_of_name pn_5) #[.val (.ref a)] (fun m => by first | rfl | (simp [entryFrame, mkF, argsToLocals, Value.category, maxLocals]; done)) ?_
  intro p e s m below meth c T X
  refine g_aloadN X d17_0 rfl rfl 1 rfl ?_
  refine g_initO X (hw _ (List.mem_of_getElem? (i := 129) rfl)) (hw _ (List.mem_of_getElem? (i := 12) rfl)) (hw _ (List.mem_of_getElem? (i := 13) rfl)) rfl d17_1 (by decide) 0 (Nat.le_of_eq rfl) (by decide) 4 rfl ?_
  intro T1 X2
  exact g_ret X2 rfl d17_4 (by decide) (by decide) ⟨rfl, rfl⟩
theorem d16_0 : decode jdk_33_method_23_code 0 = .ok (.aload_n 0, 1) := by decide +kernel
theorem d16_1 : decode jdk_33_method_23_code 1 = .ok (.invokespecial 202, 3) := by decide +kernel
theorem d16_4 : decode jdk_33_method_23_code 4 = .ok (.aload_n 0, 1) := by decide +kernel
theorem d16_5 : decode jdk_33_method_23_code 5 = .ok (.iload_n 1, 1) := by decide +kernel
theorem d16_6 : decode jdk_33_method_23_code 6 = .ok (.putfield 205, 3) := by decide +kernel
theorem d16_9 : decode jdk_33_method_23_code 9 = .ok (.return_, 1) := by decide +kernel
theorem pn_6 : plainName "java/lang/Integer" = true := by first | (simp [plainName, overriddenIn]; done) | decide +kernel
set_option maxRecDepth 65536 in
set_option maxHeartbeats 40000000 in
theorem c_iinit (l : Launch) (Z : State) (a0 : Array Value) (G : Gl Z a0) (a : Addr) (n : Int32) (h : Heap) (E : Exa Z h a "java/lang/Integer") (F : Fld Z h a "java/lang/Integer" "value" "I" (.int (0 : Int32))) :
    Ctr l Z EL nw (⟨"java/lang/Integer", "<init>", "(I)V"⟩ : MethodName) jdk_33_method_23_code 2 (Option.none : Option Jvm.ClassFile.FieldType) ({ frames := 2, cells := 0, slots := 0, locals := 24 } : Room) #[.ref a, .int n] h [a] (VoidQ fun h' => Keep h h' [a]) := by
  obtain ⟨hw, hEL, hSA, ⟨zc, SC, hz⟩, ⟨fm, SF, hfm⟩⟩ := id G
  refine Ctr.enter (own := "java/lang/Integer") (nm := "<init>") rfl rfl hEL (plainFor_of_name pn_6) #[.val (.ref a), .val (.int n)] (fun m => by first | rfl | (simp [entryFrame, mkF, argsToLocals, Value.category, maxLocals]; done)) ?_
  intro p e s m below meth c T X
  refine g_aloadN X d16_0 rfl rfl 1 rfl ?_
  refine g_callIn X rfl (hw _ (List.mem_of_getElem? (i := 123) rfl)) (hw _ (List.mem_of_getElem? (i := 124) rfl)) (hw _ (List.mem_of_getElem? (i := 127) rfl)) (hw _ (List.mem_of_getElem? (i := 128) rfl)) (by decide) (c_num l Z a0 G a h) (by simp) (argsL := []) (rest := []) pd_10 rfl rfl rfl rfl 0 (Nat.le_of_eq rfl) (by decide) (by decide) (ck := 0) rfl (cs := 0) rfl (by decide) (by decide) d16_1 4 rfl ?_
  intro T1 h4 X2 hq3
  subst hq3
  refine g_aloadN X2 d16_4 rfl rfl 5 rfl ?_
  refine g_iloadN X2 d16_5 rfl 6 rfl ?_
  refine g_putF X2 (Or.inl (hw _ (List.mem_of_getElem? (i := 130) rfl))) (host := "") Via.refl F E (Or.inr ⟨(hw _ (List.mem_of_getElem? (i := 131) rfl)), rfl, rfl⟩) (hw _ (List.mem_of_getElem? (i := 118) rfl)) (ty := .int) (by rfl) rfl rfl (by simp) d16_6 9 rfl ?_
  intro T5 h6 X7 W8 F9 E10
  exact g_ret X7 rfl d16_9 (by decide) (by decide) ⟨rfl, ((Keep.refl h [a]).wr W8 (Or.inl (by simp)))⟩
theorem own_cache {n : Int32} (h1 : ¬ n < (-128 : Int32)) (h2 : ¬ (127 : Int32) < n) : ¬ ((n + (128 : Int32)) < 0 ∨ (256 : Int32).toNatClampNeg ≤ (n + (128 : Int32)).toNatClampNeg) := by
  rw [Int32.lt_iff_toInt_lt] at h1 h2
  have e1 : (-128 : Int32).toInt = -128 := by decide
  have e2 : (127 : Int32).toInt = 127 := by decide
  have e3 : (n + (128 : Int32)).toInt = n.toInt + 128 := by
    have := c_iadd n 128; have r := rng32 (n + 128); have e : (128 : Int32).toInt = 128 := by decide
    omega
  have e4 : (256 : Int32).toNatClampNeg = 256 := by decide
  rw [e4, Int32.lt_iff_toInt_lt]
  have e5 : (n + (128 : Int32)).toNatClampNeg = (n.toInt + 128).toNat := by simp only [Int32.toNatClampNeg, e3]
  have e6 : (0 : Int32).toInt = 0 := by decide
  rw [e5]; omega
theorem d15_0 : decode jdk_33_method_22_code 0 = .ok (.iload_n 0, 1) := by decide +kernel
theorem d15_1 : decode jdk_33_method_22_code 1 = .ok (.bipush (-128), 2) := by decide +kernel
theorem d15_3 : decode jdk_33_method_22_code 3 = .ok (.if_icmp .lt 20, 3) := by decide +kernel
theorem d15_6 : decode jdk_33_method_22_code 6 = .ok (.iload_n 0, 1) := by decide +kernel
theorem d15_7 : decode jdk_33_method_22_code 7 = .ok (.getstatic 191, 3) := by decide +kernel
theorem d15_10 : decode jdk_33_method_22_code 10 = .ok (.if_icmp .gt 13, 3) := by decide +kernel
theorem d15_13 : decode jdk_33_method_22_code 13 = .ok (.getstatic 195, 3) := by decide +kernel
theorem d15_16 : decode jdk_33_method_22_code 16 = .ok (.iload_n 0, 1) := by decide +kernel
theorem d15_17 : decode jdk_33_method_22_code 17 = .ok (.sipush 128, 3) := by decide +kernel
theorem d15_20 : decode jdk_33_method_22_code 20 = .ok (.iadd, 1) := by decide +kernel
theorem d15_21 : decode jdk_33_method_22_code 21 = .ok (.aaload, 1) := by decide +kernel
theorem d15_22 : decode jdk_33_method_22_code 22 = .ok (.areturn, 1) := by decide +kernel
theorem d15_23 : decode jdk_33_method_22_code 23 = .ok (.new 1, 3) := by decide +kernel
theorem d15_26 : decode jdk_33_method_22_code 26 = .ok (.dup, 1) := by decide +kernel
theorem d15_27 : decode jdk_33_method_22_code 27 = .ok (.iload_n 0, 1) := by decide +kernel
theorem d15_28 : decode jdk_33_method_22_code 28 = .ok (.invokespecial 199, 3) := by decide +kernel
theorem d15_31 : decode jdk_33_method_22_code 31 = .ok (.areturn, 1) := by decide +kernel
set_option maxRecDepth 65536 in
set_option maxHeartbeats 40000000 in
theorem c_vof (l : Launch) (Z : State) (a0 : Array Value) (G : Gl Z a0) (n : Int32) (ca : Addr) (cc : Cell) (h : Heap) (SH : Sta Z Z.heap "java/lang/Integer$IntegerCache" "high" "I" (.int (127 : Int32))) (SCA : Sta Z Z.heap "java/lang/Integer$IntegerCache" "cache" "[Ljava/lang/Integer;" (.ref ca)) (BX : Bxs Z ca cc "java/lang/Integer" "I" (256 : Int32) (fun j => .int (j - 128))) :
    Ctr l Z EL nw (⟨"java/lang/Integer", "valueOf", "(I)Ljava/lang/Integer;"⟩ : MethodName) jdk_33_method_22_code 1 (Option.some (Jvm.ClassFile.FieldType.object "java/lang/Integer")) ({ frames := 3, cells := 1, slots := 1, locals := 38 } : Room) #[.int n] h [] (ValQ fun w h' => ∃ a, w = .ref a ∧ Ext h h') := by
  obtain ⟨hw, hEL, hSA, ⟨zc, SC, hz⟩, ⟨fm, SF, hfm⟩⟩ := id G
  refine Ctr.enter (own := "java/lang/Integer") (nm := "valueOf") rfl rfl hEL (plainFor_of_name pn_6) #[.val (.int n)] (fun m => by first | rfl | (simp [entryFrame, mkF, argsToLocals, Value.category, maxLocals]; done)) ?_
  intro p e s m below meth c T X
  refine g_iloadN X d15_0 rfl 1 rfl ?_
  refine g_bipush X (-128 : Int32) d15_1 (by decide) 3 rfl ?_
  by_cases hb3 : n < (-128 : Int32)
  · refine g_icmpYes X d15_3 (XT.ii_lt_t hb3) 23 (by decide) (by decide) ?_
    refine g_new X (hw _ (List.mem_of_getElem? (i := 117) rfl)) (hw _ (List.mem_of_getElem? (i := 118) rfl)) (hw _ (List.mem_of_getElem? (i := 113) rfl)) d15_23 (ck := 1) rfl (cs := 1) rfl (by decide) (by decide) 26 rfl ?_
    intro a1 T2 h3 ea4 X5 E6 A7 D8
    have le_a1 : h.size ≤ a1 := by rw [ea4]; exact (Ext.refl h).1
    have F9 : Fld Z h3 a1 "java/lang/Integer" "value" "I" (.int (0 : Int32)) := D8 (Or.inr (hw _ (List.mem_of_getElem? (i := 131) rfl))) (ty := .int) (by rfl)
    refine g_dup X5 d15_26 rfl 27 rfl ?_
    refine g_iloadN X5 d15_27 rfl 28 rfl ?_
    refine g_callIn X5 rfl (hw _ (List.mem_of_getElem? (i := 119) rfl)) (hw _ (List.mem_of_getElem? (i := 120) rfl)) (hw _ (List.mem_of_getElem? (i := 113) rfl)) (hw _ (List.mem_of_getElem? (i := 122) rfl)) (by decide) (c_iinit l Z a0 G a1 n h3 A7 F9) (by simp) (argsL := [.int n]) (rest := [.ref a1]) pd_11 rfl rfl rfl rfl 1 (Nat.le_of_eq rfl) (by decide) (by decide) (ck := 1) rfl (cs := 1) rfl (by decide) (by decide) d15_28 31 rfl ?_
    intro T10 h13 X11 hq12
    exact g_retA X11 rfl rfl rfl d15_31 (by decide) (by decide) ⟨_, rfl, ⟨a1, rfl, (ext_keep ((Ext.refl h).trans E6) hq12 (fun x hx => by cases List.mem_singleton.mp hx; exact le_a1))⟩⟩
  · refine g_icmpNo X d15_3 (XT.ii_lt_f hb3) 6 rfl ?_
    refine g_iloadN X d15_6 rfl 7 rfl ?_
    refine g_getS X (Or.inl (hw _ (List.mem_of_getElem? (i := 115) rfl))) (host := "") Via.refl (SH.ext X.old) d15_7 10 rfl ?_
    intro T14 X15
    by_cases hb10 : (127 : Int32) < n
    · refine g_icmpYes X15 d15_10 (XT.ii_gt_t hb10) 23 (by decide) (by decide) ?_
      refine g_new X15 (hw _ (List.mem_of_getElem? (i := 117) rfl)) (hw _ (List.mem_of_getElem? (i := 118) rfl)) (hw _ (List.mem_of_getElem? (i := 113) rfl)) d15_23 (ck := 1) rfl (cs := 1) rfl (by decide) (by decide) 26 rfl ?_
      intro a16 T17 h18 ea19 X20 E21 A22 D23
      have le_a16 : h.size ≤ a16 := by rw [ea19]; exact (Ext.refl h).1
      have F24 : Fld Z h18 a16 "java/lang/Integer" "value" "I" (.int (0 : Int32)) := D23 (Or.inr (hw _ (List.mem_of_getElem? (i := 131) rfl))) (ty := .int) (by rfl)
      refine g_dup X20 d15_26 rfl 27 rfl ?_
      refine g_iloadN X20 d15_27 rfl 28 rfl ?_
      refine g_callIn X20 rfl (hw _ (List.mem_of_getElem? (i := 119) rfl)) (hw _ (List.mem_of_getElem? (i := 120) rfl)) (hw _ (List.mem_of_getElem? (i := 113) rfl)) (hw _ (List.mem_of_getElem? (i := 122) rfl)) (by decide) (c_iinit l Z a0 G a16 n h18 A22 F24) (by simp) (argsL := [.int n]) (rest := [.ref a16]) pd_11 rfl rfl rfl rfl 1 (Nat.le_of_eq rfl) (by decide) (by decide) (ck := 1) rfl (cs := 1) rfl (by decide) (by decide) d15_28 31 rfl ?_
      intro T25 h28 X26 hq27
      exact g_retA X26 rfl rfl rfl d15_31 (by decide) (by decide) ⟨_, rfl, ⟨a16, rfl, (ext_keep ((Ext.refl h).trans E21) hq27 (fun x hx => by cases List.mem_singleton.mp hx; exact le_a16))⟩⟩
    · refine g_icmpNo X15 d15_10 (XT.ii_gt_f hb10) 13 rfl ?_
      refine g_getS X15 (Or.inl (hw _ (List.mem_of_getElem? (i := 134) rfl))) (host := "") Via.refl (SCA.ext X15.old) d15_13 16 rfl ?_
      intro T29 X30
      refine g_iloadN X30 d15_16 rfl 17 rfl ?_
      refine g_sipush X30 (128 : Int32) d15_17 (by decide) 20 rfl ?_
      refine g_iadd X30 d15_20 _ rfl 21 rfl ?_
      have hi33 : ¬ ((n + (128 : Int32)) < 0 ∨ cc.slots.size ≤ (n + (128 : Int32)).toNatClampNeg) := by rw [BX.2.1]; exact own_cache hb3 hb10
      obtain ⟨bx31, eb32, -⟩ := BX.2.2.2 _ hi33
      refine g_aaloadA X30 (BX.1.ext X30.old) rfl hi33 eb32 d15_21 22 rfl ?_
      exact g_retA X30 rfl rfl rfl d15_22 (by decide) (by decide) ⟨_, rfl, ⟨bx31, rfl, (Ext.refl h)⟩⟩
theorem d19_0 : decode jdk_43_method_3_code 0 = .ok (.iload_n 0, 1) := by decide +kernel
theorem d19_1 : decode jdk_43_method_3_code 1 = .ok (.sipush 255, 3) := by decide +kernel
theorem d19_4 : decode jdk_43_method_3_code 4 = .ok (.if_icmp .gt 7, 3) := by decide +kernel
theorem d19_7 : decode jdk_43_method_3_code 7 = .ok (.iconst 1, 1) := by decide +kernel
theorem d19_8 : decode jdk_43_method_3_code 8 = .ok (.goto 4, 3) := by decide +kernel
theorem d19_11 : decode jdk_43_method_3_code 11 = .ok (.iconst 0, 1) := by decide +kernel
theorem d19_12 : decode jdk_43_method_3_code 12 = .ok (.ireturn, 1) := by decide +kernel
theorem pn_7 : plainName "java/lang/StringLatin1" = true := by first | (simp [plainName, overriddenIn]; done) | decide +kernel
set_option maxRecDepth 65536 in
set_option maxHeartbeats 40000000 in
theorem c_can (l : Launch) (Z : State) (a0 : Array Value) (G : Gl Z a0) (n : Int32) (h : Heap) (hn : ¬ (255 : Int32) < n) :
    Ctr l Z EL nw (⟨"java/lang/StringLatin1", "canEncode", "(C)Z"⟩ : MethodName) jdk_43_method_3_code 1 (Option.some Jvm.ClassFile.FieldType.boolean) ({ frames := 0, cells := 0, slots := 0, locals := 0 } : Room) #[.int n] h [] (PureQ h fun v => v = .int 1) := by
  obtain ⟨hw, hEL, hSA, ⟨zc, SC, hz⟩, ⟨fm, SF, hfm⟩⟩ := id G
  refine Ctr.enter (own := "java/lang/StringLatin1") (nm := "canEncode") rfl rfl hEL (plainFor_of_name pn_7) #[.val (.int n)] (fun m => by first | rfl | (simp [entryFrame, mkF, argsToLocals, Value.category, maxLocals]; done)) ?_
  intro p e s m below meth c T X
  refine g_iloadN X d19_0 rfl 1 rfl ?_
  refine g_sipush X (255 : Int32) d19_1 (by decide) 4 rfl ?_
  refine g_icmpNo X d19_4 (XT.ii_gt_f hn) 7 rfl ?_
  refine g_iconst X (1 : Int32) d19_7 (by decide) 8 rfl ?_
  refine g_goto X d19_8 12 (by decide) (by decide) ?_
  exact g_retN X (t := .boolean) rfl (by simp) d19_12 _ rfl (by decide) (by decide) ⟨rfl, _, rfl, rfl⟩
theorem nar_i2b (x : Int32) : nar .byte x.toInt8.toInt32 = x.toInt8.toInt32 := by simp [nar]
theorem d20_0 : decode jdk_43_method_46_code 0 = .ok (.iconst 1, 1) := by decide +kernel
theorem d20_1 : decode jdk_43_method_46_code 1 = .ok (.newarray .byte, 2) := by decide +kernel
theorem d20_3 : decode jdk_43_method_46_code 3 = .ok (.dup, 1) := by decide +kernel
theorem d20_4 : decode jdk_43_method_46_code 4 = .ok (.iconst 0, 1) := by decide +kernel
theorem d20_5 : decode jdk_43_method_46_code 5 = .ok (.iload_n 0, 1) := by decide +kernel
theorem d20_6 : decode jdk_43_method_46_code 6 = .ok (.i2b, 1) := by decide +kernel
theorem d20_7 : decode jdk_43_method_46_code 7 = .ok (.bastore, 1) := by decide +kernel
theorem d20_8 : decode jdk_43_method_46_code 8 = .ok (.areturn, 1) := by decide +kernel
set_option maxRecDepth 65536 in
set_option maxHeartbeats 40000000 in
theorem c_tob (l : Launch) (Z : State) (a0 : Array Value) (G : Gl Z a0) (n : Int32) (h : Heap)  :
    Ctr l Z EL nw (⟨"java/lang/StringLatin1", "toBytes", "(C)[B"⟩ : MethodName) jdk_43_method_46_code 1 (Option.some (Jvm.ClassFile.FieldType.array Jvm.ClassFile.FieldType.byte)) ({ frames := 0, cells := 1, slots := 1, locals := 0 } : Room) #[.int n] h [] (ValQ fun w h' => ∃ b, w = .ref b ∧ Ext h h') := by
  obtain ⟨hw, hEL, hSA, ⟨zc, SC, hz⟩, ⟨fm, SF, hfm⟩⟩ := id G
  refine Ctr.enter (own := "java/lang/StringLatin1") (nm := "toBytes") rfl rfl hEL (plainFor_of_name pn_7) #[.val (.int n)] (fun m => by first | rfl | (simp [entryFrame, mkF, argsToLocals, Value.category, maxLocals]; done)) ?_
  intro p e s m below meth c T X
  refine g_iconst X (1 : Int32) d20_0 (by decide) 1 rfl ?_
  refine g_newP X (hw _ (List.mem_of_getElem? (i := 103) rfl)) d20_1 (by decide) 1 (by decide) (by decide) (ck := 1) rfl (cs := 1) rfl (by decide) (by decide) 3 rfl ?_
  intro a1 T2 h3 k4 ea5 X6 E7 A8
  have A9 : Arv Z h3 a1 k4 .byte (1 : Int32) [.int (0 : Int32)] (.int (0 : Int32)) := A8.pad (fun i => by rcases i with _ | _ | _ | _ | _ | i <;> rfl)
  have le_a1 : h.size ≤ a1 := by rw [ea5]; exact (Ext.refl h).1
  refine g_dup X6 d20_3 rfl 4 rfl ?_
  refine g_iconst X6 (0 : Int32) d20_4 (by decide) 5 rfl ?_
  refine g_iloadN X6 d20_5 rfl 6 rfl ?_
  refine g_i2b X6 d20_6 _ rfl 7 rfl ?_
  refine g_bastore X6 A9 0 (by decide) (by decide) (by decide) (by simp) n.toInt8.toInt32 (nar_i2b _) (by simp) d20_7 8 rfl ?_
  intro T10 h11 X12 W13 B15
  have A14 : Arv Z h11 a1 k4 .byte (1 : Int32) [.int n.toInt8.toInt32] (.int (0 : Int32)) := B15
  exact g_retA X12 rfl rfl rfl d20_8 (by decide) (by decide) ⟨_, rfl, ⟨a1, rfl, (ext_wr ((Ext.refl h).trans E7) W13 le_a1)⟩⟩
theorem d21_0 : decode jdk_42_method_151_code 0 = .ok (.aload_n 0, 1) := by decide +kernel
theorem d21_1 : decode jdk_42_method_151_code 1 = .ok (.invokespecial 1, 3) := by decide +kernel
theorem d21_4 : decode jdk_42_method_151_code 4 = .ok (.aload_n 0, 1) := by decide +kernel
theorem d21_5 : decode jdk_42_method_151_code 5 = .ok (.aload_n 1, 1) := by decide +kernel
theorem d21_6 : decode jdk_42_method_151_code 6 = .ok (.putfield 9, 3) := by decide +kernel
theorem d21_9 : decode jdk_42_method_151_code 9 = .ok (.aload_n 0, 1) := by decide +kernel
theorem d21_10 : decode jdk_42_method_151_code 10 = .ok (.iload_n 2, 1) := by decide +kernel
theorem d21_11 : decode jdk_42_method_151_code 11 = .ok (.putfield 15, 3) := by decide +kernel
theorem d21_14 : decode jdk_42_method_151_code 14 = .ok (.return_, 1) := by decide +kernel
set_option maxRecDepth 65536 in
set_option maxHeartbeats 40000000 in
theorem c_sbb (l : Launch) (Z : State) (a0 : Array Value) (G : Gl Z a0) (a b : Addr) (h : Heap) (E : Exa Z h a "java/lang/String") (V : Fld Z h a "java/lang/String" "value" "[B" .null) (C : Fld Z h a "java/lang/String" "coder" "B" (.int (0 : Int32))) :
    Ctr l Z EL nw (⟨"java/lang/String", "<init>", "([BB)V"⟩ : MethodName) jdk_42_method_151_code 3 (Option.none : Option Jvm.ClassFile.FieldType) ({ frames := 1, cells := 0, slots := 0, locals := 12 } : Room) #[.ref a, .ref b, .int (0 : Int32)] h [a] (VoidQ fun h' => Keep h h' [a]) := by
  obtain ⟨hw, hEL, hSA, ⟨zc, SC, hz⟩, ⟨fm, SF, hfm⟩⟩ := id G
  refine Ctr.enter (own := "java/lang/String") (nm := "<init>") rfl rfl hEL (plainFor_of_name pn_3) #[.val (.ref a), .val (.ref b), .val (.int (0 : Int32))] (fun m => by first | rfl | (simp [entryFrame, mkF, argsToLocals, Value.category, maxLocals]; done)) ?_
  intro p e s m below meth c T X
  refine g_aloadN X d21_0 rfl rfl 1 rfl ?_
  refine g_initO X (hw _ (List.mem_of_getElem? (i := 101) rfl)) (hw _ (List.mem_of_getElem? (i := 12) rfl)) (hw _ (List.mem_of_getElem? (i := 13) rfl)) rfl d21_1 (by decide) 0 (Nat.le_of_eq rfl) (by decide) 4 rfl ?_
  intro T1 X2
  refine g_aloadN X2 d21_4 rfl rfl 5 rfl ?_
  refine g_aloadN X2 d21_5 rfl rfl 6 rfl ?_
  refine g_putF X2 (Or.inl (hw _ (List.mem_of_getElem? (i := 108) rfl))) (host := "") Via.refl V E (Or.inr ⟨(hw _ (List.mem_of_getElem? (i := 104) rfl)), rfl, rfl⟩) (hw _ (List.mem_of_getElem? (i := 91) rfl)) (ty := (.array .byte)) (by rfl) rfl rfl (by simp) d21_6 9 rfl ?_
  intro T3 h4 X5 W6 F7 E8
  refine g_aloadN X5 d21_9 rfl rfl 10 rfl ?_
  refine g_iloadN X5 d21_10 rfl 11 rfl ?_
  refine g_putF X5 (Or.inl (hw _ (List.mem_of_getElem? (i := 109) rfl))) (host := "") Via.refl (C.other W6 (Or.inr (slot_ne (Or.inr (hw _ (List.mem_of_getElem? (i := 105) rfl))) (Or.inr (hw _ (List.mem_of_getElem? (i := 104) rfl))) (by decide) (by rfl) (by rfl)))) E8 (Or.inr ⟨(hw _ (List.mem_of_getElem? (i := 105) rfl)), rfl, rfl⟩) (hw _ (List.mem_of_getElem? (i := 91) rfl)) (ty := .byte) (by rfl) rfl rfl (by simp) d21_11 14 rfl ?_
  intro T9 h10 X11 W12 F13 E14
  exact g_ret X11 rfl d21_14 (by decide) (by decide) ⟨rfl, (((Keep.refl h [a]).wr W6 (Or.inl (by simp))).wr W12 (Or.inl (by simp)))⟩
theorem d18_0 : decode jdk_42_method_139_code 0 = .ok (.getstatic 38, 3) := by decide +kernel
theorem d18_3 : decode jdk_42_method_139_code 3 = .ok (.ifCond .eq 23, 3) := by decide +kernel
theorem d18_6 : decode jdk_42_method_139_code 6 = .ok (.iload_n 0, 1) := by decide +kernel
theorem d18_7 : decode jdk_42_method_139_code 7 = .ok (.invokestatic 1015, 3) := by decide +kernel
theorem d18_10 : decode jdk_42_method_139_code 10 = .ok (.ifCond .eq 16, 3) := by decide +kernel
theorem d18_13 : decode jdk_42_method_139_code 13 = .ok (.new 10, 3) := by decide +kernel
theorem d18_16 : decode jdk_42_method_139_code 16 = .ok (.dup, 1) := by decide +kernel
theorem d18_17 : decode jdk_42_method_139_code 17 = .ok (.iload_n 0, 1) := by decide +kernel
theorem d18_18 : decode jdk_42_method_139_code 18 = .ok (.invokestatic 1018, 3) := by decide +kernel
theorem d18_21 : decode jdk_42_method_139_code 21 = .ok (.iconst 0, 1) := by decide +kernel
theorem d18_22 : decode jdk_42_method_139_code 22 = .ok (.invokespecial 209, 3) := by decide +kernel
theorem d18_25 : decode jdk_42_method_139_code 25 = .ok (.areturn, 1) := by decide +kernel
theorem d18_26 : decode jdk_42_method_139_code 26 = .ok (.new 10, 3) := by decide +kernel
theorem d18_29 : decode jdk_42_method_139_code 29 = .ok (.dup, 1) := by decide +kernel
theorem d18_30 : decode jdk_42_method_139_code 30 = .ok (.iload_n 0, 1) := by decide +kernel
theorem d18_31 : decode jdk_42_method_139_code 31 = .ok (.invokestatic 1021, 3) := by decide +kernel
theorem d18_34 : decode jdk_42_method_139_code 34 = .ok (.iconst 1, 1) := by decide +kernel
theorem d18_35 : decode jdk_42_method_139_code 35 = .ok (.invokespecial 209, 3) := by decide +kernel
theorem d18_38 : decode jdk_42_method_139_code 38 = .ok (.areturn, 1) := by decide +kernel
set_option maxRecDepth 65536 in
set_option maxHeartbeats 40000000 in
theorem c_sval (l : Launch) (Z : State) (a0 : Array Value) (G : Gl Z a0) (n : Int32) (h : Heap) (hn : ¬ (255 : Int32) < n) :
    Ctr l Z EL nw (⟨"java/lang/String", "valueOf", "(C)Ljava/lang/String;"⟩ : MethodName) jdk_42_method_139_code 1 (Option.some (Jvm.ClassFile.FieldType.object "java/lang/String")) ({ frames := 2, cells := 2, slots := 5, locals := 27 } : Room) #[.int n] h [] (ValQ fun w h' => ∃ a, w = .ref a ∧ Ext h h') := by
  obtain ⟨hw, hEL, hSA, ⟨zc, SC, hz⟩, ⟨fm, SF, hfm⟩⟩ := id G
  refine Ctr.enter (own := "java/lang/String") (nm := "valueOf") rfl rfl hEL (plainFor_of_name pn_3) #[.val (.int n)] (fun m => by first | rfl | (simp [entryFrame, mkF, argsToLocals, Value.category, maxLocals]; done)) ?_
  intro p e s m below meth c T X
  refine g_getS X (Or.inl (hw _ (List.mem_of_getElem? (i := 139) rfl))) (host := "") Via.refl (SC.ext X.old) d18_0 3 rfl ?_
  intro T1 X2
  refine g_ifNo X2 d18_3 (XT.ii_eq_f hz) 6 rfl ?_
  refine g_iloadN X2 d18_6 rfl 7 rfl ?_
  refine g_callSp X2 (hw _ (List.mem_of_getElem? (i := 140) rfl)) (hw _ (List.mem_of_getElem? (i := 141) rfl)) (hw _ (List.mem_of_getElem? (i := 142) rfl)) (hw _ (List.mem_of_getElem? (i := 143) rfl)) (by decide) (c_can l Z a0 G n h hn) (by simp) (argsL := [.int n]) (rest := []) pd_13 rfl rfl rfl rfl 0 (Nat.le_of_eq rfl) (by decide) (by decide) (ck := 0) rfl (cs := 0) rfl (by decide) (by decide) d18_7 10 rfl ?_
  intro w5 T3 X4 hq6
  subst hq6
  refine g_ifNo X4 d18_10 (XT.ii_eq_f (by decide)) 13 rfl ?_
  refine g_new X4 (hw _ (List.mem_of_getElem? (i := 144) rfl)) (hw _ (List.mem_of_getElem? (i := 91) rfl)) (hw _ (List.mem_of_getElem? (i := 92) rfl)) d18_13 (ck := 1) rfl (cs := 4) rfl (by decide) (by decide) 16 rfl ?_
  intro a7 T8 h9 ea10 X11 E12 A13 D14
  have le_a7 : h.size ≤ a7 := by rw [ea10]; exact (Ext.refl h).1
  have F15 : Fld Z h9 a7 "java/lang/String" "value" "[B" (.null) := D14 (Or.inr (hw _ (List.mem_of_getElem? (i := 104) rfl))) (ty := (.array .byte)) (by rfl)
  have F16 : Fld Z h9 a7 "java/lang/String" "coder" "B" (.int (0 : Int32)) := D14 (Or.inr (hw _ (List.mem_of_getElem? (i := 105) rfl))) (ty := .byte) (by rfl)
  refine g_dup X11 d18_16 rfl 17 rfl ?_
  refine g_iloadN X11 d18_17 rfl 18 rfl ?_
  refine g_callSv X11 (hw _ (List.mem_of_getElem? (i := 145) rfl)) (hw _ (List.mem_of_getElem? (i := 146) rfl)) (hw _ (List.mem_of_getElem? (i := 142) rfl)) (hw _ (List.mem_of_getElem? (i := 147) rfl)) (by decide) (c_tob l Z a0 G n h9) (by simp) (argsL := [.int n]) (rest := [.ref a7, .ref a7]) pd_14 rfl rfl rfl rfl 2 (Nat.le_of_eq rfl) (by decide) (by decide) (ck := 2) rfl (cs := 5) rfl (by decide) (by decide) d18_18 21 rfl ?_
  intro w19 T17 h21 X18 hq20
  obtain ⟨b22, rfl, E23⟩ := hq20
  refine g_iconst X18 (0 : Int32) d18_21 (by decide) 22 rfl ?_
  refine g_callIn X18 rfl (hw _ (List.mem_of_getElem? (i := 148) rfl)) (hw _ (List.mem_of_getElem? (i := 149) rfl)) (hw _ (List.mem_of_getElem? (i := 92) rfl)) (hw _ (List.mem_of_getElem? (i := 150) rfl)) (by decide) (c_sbb l Z a0 G a7 b22 h21 (A13.ext E23) (F15.ext E23) (F16.ext E23)) (by simp) (argsL := [.ref b22, .int (0 : Int32)]) (rest := [.ref a7]) pd_15 rfl rfl rfl rfl 1 (Nat.le_of_eq rfl) (by decide) (by decide) (ck := 2) rfl (cs := 5) rfl (by decide) (by decide) d18_22 25 rfl ?_
  intro T24 h27 X25 hq26
  exact g_retA X25 rfl rfl rfl d18_25 (by decide) (by decide) ⟨_, rfl, ⟨a7, rfl, (ext_keep (((Ext.refl h).trans E12).trans E23) hq26 (fun x hx => by cases List.mem_singleton.mp hx; exact le_a7))⟩⟩
theorem d12_0 : decode method_3_code 0 = .ok (.iload_n 0, 1) := by decide +kernel
theorem d12_1 : decode method_3_code 1 = .ok (.bipush 16, 2) := by decide +kernel
theorem d12_3 : decode method_3_code 3 = .ok (.iushr, 1) := by decide +kernel
theorem d12_4 : decode method_3_code 4 = .ok (.sipush 32767, 3) := by decide +kernel
theorem d12_7 : decode method_3_code 7 = .ok (.iand, 1) := by decide +kernel
theorem d12_8 : decode method_3_code 8 = .ok (.iconst 3, 1) := by decide +kernel
theorem d12_9 : decode method_3_code 9 = .ok (.irem, 1) := by decide +kernel
theorem d12_10 : decode method_3_code 10 = .ok (.istore_n 1, 1) := by decide +kernel
theorem d12_11 : decode method_3_code 11 = .ok (.iload_n 0, 1) := by decide +kernel
theorem d12_12 : decode method_3_code 12 = .ok (.sipush 255, 3) := by decide +kernel
theorem d12_15 : decode method_3_code 15 = .ok (.iand, 1) := by decide +kernel
theorem d12_16 : decode method_3_code 16 = .ok (.i2c, 1) := by decide +kernel
theorem d12_17 : decode method_3_code 17 = .ok (.istore_n 2, 1) := by decide +kernel
theorem d12_18 : decode method_3_code 18 = .ok (.iload_n 0, 1) := by decide +kernel
theorem d12_19 : decode method_3_code 19 = .ok (.bipush 8, 2) := by decide +kernel
theorem d12_21 : decode method_3_code 21 = .ok (.iushr, 1) := by decide +kernel
theorem d12_22 : decode method_3_code 22 = .ok (.sipush 255, 3) := by decide +kernel
theorem d12_25 : decode method_3_code 25 = .ok (.iand, 1) := by decide +kernel
theorem d12_26 : decode method_3_code 26 = .ok (.i2c, 1) := by decide +kernel
theorem d12_27 : decode method_3_code 27 = .ok (.istore_n 3, 1) := by decide +kernel
theorem d12_28 : decode method_3_code 28 = .ok (.iload_n 1, 1) := by decide +kernel
theorem d12_29 : decode method_3_code 29 = .ok (.ifCond .ne 14, 3) := by decide +kernel
theorem d12_32 : decode method_3_code 32 = .ok (.new 49, 3) := by decide +kernel
theorem d12_35 : decode method_3_code 35 = .ok (.dup, 1) := by decide +kernel
theorem d12_36 : decode method_3_code 36 = .ok (.iconst 0, 1) := by decide +kernel
theorem d12_37 : decode method_3_code 37 = .ok (.newarray .char, 2) := by decide +kernel
theorem d12_39 : decode method_3_code 39 = .ok (.invokespecial 51, 3) := by decide +kernel
theorem d12_42 : decode method_3_code 42 = .ok (.areturn, 1) := by decide +kernel
theorem d12_43 : decode method_3_code 43 = .ok (.iload_n 1, 1) := by decide +kernel
theorem d12_44 : decode method_3_code 44 = .ok (.iconst 1, 1) := by decide +kernel
theorem d12_45 : decode method_3_code 45 = .ok (.if_icmp .ne 8, 3) := by decide +kernel
theorem d12_48 : decode method_3_code 48 = .ok (.iload_n 2, 1) := by decide +kernel
theorem d12_49 : decode method_3_code 49 = .ok (.invokestatic 54, 3) := by decide +kernel
theorem d12_52 : decode method_3_code 52 = .ok (.areturn, 1) := by decide +kernel
theorem d12_53 : decode method_3_code 53 = .ok (.new 49, 3) := by decide +kernel
theorem d12_56 : decode method_3_code 56 = .ok (.dup, 1) := by decide +kernel
theorem d12_57 : decode method_3_code 57 = .ok (.iconst 2, 1) := by decide +kernel
theorem d12_58 : decode method_3_code 58 = .ok (.newarray .char, 2) := by decide +kernel
theorem d12_60 : decode method_3_code 60 = .ok (.dup, 1) := by decide +kernel
theorem d12_61 : decode method_3_code 61 = .ok (.iconst 0, 1) := by decide +kernel
theorem d12_62 : decode method_3_code 62 = .ok (.iload_n 2, 1) := by decide +kernel
theorem d12_63 : decode method_3_code 63 = .ok (.castore, 1) := by decide +kernel
theorem d12_64 : decode method_3_code 64 = .ok (.dup, 1) := by decide +kernel
theorem d12_65 : decode method_3_code 65 = .ok (.iconst 1, 1) := by decide +kernel
theorem d12_66 : decode method_3_code 66 = .ok (.iload_n 3, 1) := by decide +kernel
theorem d12_67 : decode method_3_code 67 = .ok (.castore, 1) := by decide +kernel
theorem d12_68 : decode method_3_code 68 = .ok (.invokespecial 51, 3) := by decide +kernel
theorem d12_71 : decode method_3_code 71 = .ok (.areturn, 1) := by decide +kernel
theorem pn_8 : plainName "com/example/rowpath/rowpath/core/NodeMatchTierPinLaw" = true := by first | (simp [plainName, overriddenIn]; done) | decide +kernel
set_option maxRecDepth 65536 in
set_option maxHeartbeats 40000000 in
theorem c_text (l : Launch) (Z : State) (a0 : Array Value) (G : Gl Z a0) (n : Int32) (h : Heap)  :
    Ctr l Z EL nw (⟨"com/example/rowpath/rowpath/core/NodeMatchTierPinLaw", "text", "(I)Ljava/lang/String;"⟩ : MethodName) method_3_code 4 (Option.some (Jvm.ClassFile.FieldType.object "java/lang/String")) ({ frames := 4, cells := 6, slots := 12, locals := 66 } : Room) #[.int n] h [] (ValQ fun w h' => ∃ a, w = .ref a ∧ Ext h h') := by
  obtain ⟨hw, hEL, hSA, ⟨zc, SC, hz⟩, ⟨fm, SF, hfm⟩⟩ := id G
  refine Ctr.enter (own := "com/example/rowpath/rowpath/core/NodeMatchTierPinLaw") (nm := "text") rfl rfl hEL (plainFor_of_name pn_8) #[.val (.int n), .unset, .unset, .unset] (fun m => by first | rfl | (simp [entryFrame, mkF, argsToLocals, Value.category, maxLocals]; done)) ?_
  intro p e s m below meth c T X
  refine g_iloadN X d12_0 rfl 1 rfl ?_
  refine g_bipush X (16 : Int32) d12_1 (by decide) 3 rfl ?_
  refine g_iushr X d12_3 _ rfl 4 rfl ?_
  refine g_sipush X (32767 : Int32) d12_4 (by decide) 7 rfl ?_
  refine g_iand X d12_7 _ rfl 8 rfl ?_
  refine g_iconst X (3 : Int32) d12_8 (by decide) 9 rfl ?_
  refine g_irem X d12_9 (by decide) _ rfl 10 rfl ?_
  refine g_istoreN X d12_10 (Ls' := #[.val (.int n), .val (.int (((XT.ushr n (16 : Int32)) &&& (32767 : Int32)) % (3 : Int32))), .unset, .unset]) rfl 11 rfl ?_
  refine g_iloadN X d12_11 rfl 12 rfl ?_
  refine g_sipush X (255 : Int32) d12_12 (by decide) 15 rfl ?_
  refine g_iand X d12_15 _ rfl 16 rfl ?_
  refine g_i2c X d12_16 (n &&& (255 : Int32)) (i2c_mask _) 17 rfl ?_
  refine g_istoreN X d12_17 (Ls' := #[.val (.int n), .val (.int (((XT.ushr n (16 : Int32)) &&& (32767 : Int32)) % (3 : Int32))), .val (.int (n &&& (255 : Int32))), .unset]) rfl 18 rfl ?_
  refine g_iloadN X d12_18 rfl 19 rfl ?_
  refine g_bipush X (8 : Int32) d12_19 (by decide) 21 rfl ?_
  refine g_iushr X d12_21 _ rfl 22 rfl ?_
  refine g_sipush X (255 : Int32) d12_22 (by decide) 25 rfl ?_
  refine g_iand X d12_25 _ rfl 26 rfl ?_
  refine g_i2c X d12_26 ((XT.ushr n (8 : Int32)) &&& (255 : Int32)) (i2c_mask _) 27 rfl ?_
  refine g_istoreN X d12_27 (Ls' := #[.val (.int n), .val (.int (((XT.ushr n (16 : Int32)) &&& (32767 : Int32)) % (3 : Int32))), .val (.int (n &&& (255 : Int32))), .val (.int ((XT.ushr n (8 : Int32)) &&& (255 : Int32)))]) rfl 28 rfl ?_
  refine g_iloadN X d12_28 rfl 29 rfl ?_
  by_cases hb29 : (((XT.ushr n (16 : Int32)) &&& (32767 : Int32)) % (3 : Int32)) = (0 : Int32)
  · refine g_ifNo X d12_29 (XT.ii_ne_f hb29) 32 rfl ?_
    refine g_new X (hw _ (List.mem_of_getElem? (i := 90) rfl)) (hw _ (List.mem_of_getElem? (i := 91) rfl)) (hw _ (List.mem_of_getElem? (i := 92) rfl)) d12_32 (ck := 1) rfl (cs := 4) rfl (by decide) (by decide) 35 rfl ?_
    intro a1 T2 h3 ea4 X5 E6 A7 D8
    have le_a1 : h.size ≤ a1 := by rw [ea4]; exact (Ext.refl h).1
    have F9 : Fld Z h3 a1 "java/lang/String" "value" "[B" (.null) := D8 (Or.inr (hw _ (List.mem_of_getElem? (i := 104) rfl))) (ty := (.array .byte)) (by rfl)
    have F10 : Fld Z h3 a1 "java/lang/String" "coder" "B" (.int (0 : Int32)) := D8 (Or.inr (hw _ (List.mem_of_getElem? (i := 105) rfl))) (ty := .byte) (by rfl)
    refine g_dup X5 d12_35 rfl 36 rfl ?_
    refine g_iconst X5 (0 : Int32) d12_36 (by decide) 37 rfl ?_
    refine g_newP X5 (hw _ (List.mem_of_getElem? (i := 93) rfl)) d12_37 (by decide) 0 (by decide) (by decide) (ck := 2) rfl (cs := 4) rfl (by decide) (by decide) 39 rfl ?_
    intro a11 T12 h13 k14 ea15 X16 E17 A18
    have A19 : Arv Z h13 a11 k14 .char (0 : Int32) [] (.int (0 : Int32)) := A18.pad (fun i => by rcases i with _ | _ | _ | _ | _ | i <;> rfl)
    have le_a11 : h.size ≤ a11 := by rw [ea15]; exact ((Ext.refl h).trans E6).1
    have ne_a1_a11 : a1 ≠ a11 := by rw [ea15]; exact Nat.ne_of_lt A7.lt
    refine g_callIn X16 rfl (hw _ (List.mem_of_getElem? (i := 94) rfl)) (hw _ (List.mem_of_getElem? (i := 95) rfl)) (hw _ (List.mem_of_getElem? (i := 92) rfl)) (hw _ (List.mem_of_getElem? (i := 96) rfl)) (by decide) (c_s3 l Z a0 G a1 a11 k14 ([]) h13 (A7.ext E17) (F9.ext E17) (F10.ext E17) (fun x hx => Nat.ne_of_lt (Nat.lt_of_lt_of_le (X.news x hx) le_a1)) A19) (fun _ hx => List.mem_cons_of_mem _ hx) (argsL := [.ref a11]) (rest := [.ref a1]) pd_19 rfl rfl rfl rfl 1 (Nat.le_of_eq rfl) (by decide) (by decide) (ck := 6) rfl (cs := 12) rfl (by decide) (by decide) d12_39 42 rfl ?_
    intro T20 h23 X21 hq22
    obtain ⟨K24, S25⟩ := hq22
    have X26 := X21.sub (us' := []) (by simp)
    exact g_retA X26 rfl rfl rfl d12_42 (by decide) (by decide) ⟨_, rfl, ⟨a1, rfl, (ext_keep (((Ext.refl h).trans E6).trans E17) K24 (fun x hx => by cases List.mem_singleton.mp hx; exact le_a1))⟩⟩
  · refine g_ifYes X d12_29 (XT.ii_ne_t hb29) 43 (by decide) (by decide) ?_
    refine g_iloadN X d12_43 rfl 44 rfl ?_
    refine g_iconst X (1 : Int32) d12_44 (by decide) 45 rfl ?_
    by_cases hb45 : (((XT.ushr n (16 : Int32)) &&& (32767 : Int32)) % (3 : Int32)) = (1 : Int32)
    · refine g_icmpNo X d12_45 (XT.ii_ne_f hb45) 48 rfl ?_
      refine g_iloadN X d12_48 rfl 49 rfl ?_
      refine g_callSv X (hw _ (List.mem_of_getElem? (i := 136) rfl)) (hw _ (List.mem_of_getElem? (i := 137) rfl)) (hw _ (List.mem_of_getElem? (i := 92) rfl)) (hw _ (List.mem_of_getElem? (i := 138) rfl)) (by decide) (c_sval l Z a0 G _ h (and255 _).2) (by simp) (argsL := [.int (n &&& (255 : Int32))]) (rest := []) pd_16 rfl rfl rfl rfl 0 (Nat.le_of_eq rfl) (by decide) (by decide) (ck := 2) rfl (cs := 5) rfl (by decide) (by decide) d12_49 52 rfl ?_
      intro w29 T27 h31 X28 hq30
      obtain ⟨b32, rfl, E33⟩ := hq30
      exact g_retA X28 rfl rfl rfl d12_52 (by decide) (by decide) ⟨_, rfl, ⟨b32, rfl, ((Ext.refl h).trans E33)⟩⟩
    · refine g_icmpYes X d12_45 (XT.ii_ne_t hb45) 53 (by decide) (by decide) ?_
      refine g_new X (hw _ (List.mem_of_getElem? (i := 90) rfl)) (hw _ (List.mem_of_getElem? (i := 91) rfl)) (hw _ (List.mem_of_getElem? (i := 92) rfl)) d12_53 (ck := 1) rfl (cs := 4) rfl (by decide) (by decide) 56 rfl ?_
      intro a34 T35 h36 ea37 X38 E39 A40 D41
      have le_a34 : h.size ≤ a34 := by rw [ea37]; exact (Ext.refl h).1
      have F42 : Fld Z h36 a34 "java/lang/String" "value" "[B" (.null) := D41 (Or.inr (hw _ (List.mem_of_getElem? (i := 104) rfl))) (ty := (.array .byte)) (by rfl)
      have F43 : Fld Z h36 a34 "java/lang/String" "coder" "B" (.int (0 : Int32)) := D41 (Or.inr (hw _ (List.mem_of_getElem? (i := 105) rfl))) (ty := .byte) (by rfl)
      refine g_dup X38 d12_56 rfl 57 rfl ?_
      refine g_iconst X38 (2 : Int32) d12_57 (by decide) 58 rfl ?_
      refine g_newP X38 (hw _ (List.mem_of_getElem? (i := 93) rfl)) d12_58 (by decide) 2 (by decide) (by decide) (ck := 2) rfl (cs := 6) rfl (by decide) (by decide) 60 rfl ?_
      intro a44 T45 h46 k47 ea48 X49 E50 A51
      have A52 : Arv Z h46 a44 k47 .char (2 : Int32) [.int (0 : Int32), .int (0 : Int32)] (.int (0 : Int32)) := A51.pad (fun i => by rcases i with _ | _ | _ | _ | _ | i <;> rfl)
      have le_a44 : h.size ≤ a44 := by rw [ea48]; exact ((Ext.refl h).trans E39).1
      have ne_a34_a44 : a34 ≠ a44 := by rw [ea48]; exact Nat.ne_of_lt A40.lt
      refine g_dup X49 d12_60 rfl 61 rfl ?_
      refine g_iconst X49 (0 : Int32) d12_61 (by decide) 62 rfl ?_
      refine g_iloadN X49 d12_62 rfl 63 rfl ?_
      refine g_castore X49 A52 0 (by decide) (by decide) (by decide) (by simp) (n &&& (255 : Int32)) (nar_mask _) (by simp) d12_63 64 rfl ?_
      intro T53 h54 X55 W56 B58
      have A57 : Arv Z h54 a44 k47 .char (2 : Int32) [.int (n &&& (255 : Int32)), .int (0 : Int32)] (.int (0 : Int32)) := B58
      refine g_dup X55 d12_64 rfl 65 rfl ?_
      refine g_iconst X55 (1 : Int32) d12_65 (by decide) 66 rfl ?_
      refine g_iloadN X55 d12_66 rfl 67 rfl ?_
      refine g_castore X55 A57 1 (by decide) (by decide) (by decide) (by simp) ((XT.ushr n (8 : Int32)) &&& (255 : Int32)) (nar_mask _) (by simp) d12_67 68 rfl ?_
      intro T59 h60 X61 W62 B64
      have A63 : Arv Z h60 a44 k47 .char (2 : Int32) [.int (n &&& (255 : Int32)), .int ((XT.ushr n (8 : Int32)) &&& (255 : Int32))] (.int (0 : Int32)) := B64
      refine g_strNew X61 (cs := [n &&& (255 : Int32), (XT.ushr n (8 : Int32)) &&& (255 : Int32)]) (hw _ (List.mem_of_getElem? (i := 94) rfl)) (hw _ (List.mem_of_getElem? (i := 95) rfl)) (hw _ (List.mem_of_getElem? (i := 96) rfl)) (hwsV hw) (hw _ (List.mem_of_getElem? (i := 91) rfl)) (SC.ext X61.old) hz (((A40.ext E50).wr W56).wr W62) (((F42.ext E50).other W56 (Or.inl ne_a34_a44)).other W62 (Or.inl ne_a34_a44)) (((F43.ext E50).other W56 (Or.inl ne_a34_a44)).other W62 (Or.inl ne_a34_a44)) A63 rfl 2 rfl rfl (by decide) (by decide) (by intro c hc; simp only [List.mem_cons, List.not_mem_nil, or_false] at hc; rcases hc with rfl | rfl <;> exact and255 _) (by simp) rfl 1 (Nat.le_of_eq rfl) (by decide) (by decide) (ck := 3) rfl (cs' := 8) rfl (by decide) (by decide) d12_68 71 rfl ?_
      intro T65 h66 X67 K68 Q69
      have S70 : Str Z h66 ([]) a34 [n &&& (255 : Int32), (XT.ushr n (8 : Int32)) &&& (255 : Int32)] := str_of Q69 X.news le_a34 (ext_wr (ext_wr (((Ext.refl h).trans E39).trans E50) W56 le_a44) W62 le_a44).1
      have X71 := X67.sub (us' := []) (by simp)
      exact g_retA X71 rfl rfl rfl d12_71 (by decide) (by decide) ⟨_, rfl, ⟨a34, rfl, (ext_keep (ext_wr (ext_wr (((Ext.refl h).trans E39).trans E50) W56 le_a44) W62 le_a44) K68 (fun x hx => by cases List.mem_singleton.mp hx; exact le_a34))⟩⟩
theorem d1_0 : decode prog_47_method_1_code 0 = .ok (.aload_n 0, 1) := by decide +kernel
theorem d1_1 : decode prog_47_method_1_code 1 = .ok (.invokespecial 1, 3) := by decide +kernel
theorem d1_4 : decode prog_47_method_1_code 4 = .ok (.aload_n 1, 1) := by decide +kernel
theorem d1_5 : decode prog_47_method_1_code 5 = .ok (.ifnull 7, 3) := by decide +kernel
theorem d1_8 : decode prog_47_method_1_code 8 = .ok (.iconst 1, 1) := by decide +kernel
theorem d1_9 : decode prog_47_method_1_code 9 = .ok (.goto 4, 3) := by decide +kernel
theorem d1_12 : decode prog_47_method_1_code 12 = .ok (.iconst 0, 1) := by decide +kernel
theorem d1_13 : decode prog_47_method_1_code 13 = .ok (.aload_n 2, 1) := by decide +kernel
theorem d1_14 : decode prog_47_method_1_code 14 = .ok (.ifnull 7, 3) := by decide +kernel
theorem d1_17 : decode prog_47_method_1_code 17 = .ok (.iconst 1, 1) := by decide +kernel
theorem d1_18 : decode prog_47_method_1_code 18 = .ok (.goto 4, 3) := by decide +kernel
theorem d1_21 : decode prog_47_method_1_code 21 = .ok (.iconst 0, 1) := by decide +kernel
theorem d1_22 : decode prog_47_method_1_code 22 = .ok (.aload_n 3, 1) := by decide +kernel
theorem d1_23 : decode prog_47_method_1_code 23 = .ok (.ifnull 7, 3) := by decide +kernel
theorem d1_26 : decode prog_47_method_1_code 26 = .ok (.iconst 1, 1) := by decide +kernel
theorem d1_27 : decode prog_47_method_1_code 27 = .ok (.goto 4, 3) := by decide +kernel
theorem d1_30 : decode prog_47_method_1_code 30 = .ok (.iconst 0, 1) := by decide +kernel
theorem d1_31 : decode prog_47_method_1_code 31 = .ok (.invokestatic 7, 3) := by decide +kernel
theorem d1_34 : decode prog_47_method_1_code 34 = .ok (.invokevirtual 13, 3) := by decide +kernel
theorem d1_37 : decode prog_47_method_1_code 37 = .ok (.ifCond .eq 13, 3) := by decide +kernel
theorem d1_40 : decode prog_47_method_1_code 40 = .ok (.new 19, 3) := by decide +kernel
theorem d1_43 : decode prog_47_method_1_code 43 = .ok (.dup, 1) := by decide +kernel
theorem d1_44 : decode prog_47_method_1_code 44 = .ok (.ldc 21, 2) := by decide +kernel
theorem d1_46 : decode prog_47_method_1_code 46 = .ok (.invokespecial 23, 3) := by decide +kernel
theorem d1_49 : decode prog_47_method_1_code 49 = .ok (.athrow, 1) := by decide +kernel
theorem d1_50 : decode prog_47_method_1_code 50 = .ok (.aload_n 0, 1) := by decide +kernel
theorem d1_51 : decode prog_47_method_1_code 51 = .ok (.aload_n 1, 1) := by decide +kernel
theorem d1_52 : decode prog_47_method_1_code 52 = .ok (.putfield 26, 3) := by decide +kernel
theorem d1_55 : decode prog_47_method_1_code 55 = .ok (.aload_n 0, 1) := by decide +kernel
theorem d1_56 : decode prog_47_method_1_code 56 = .ok (.aload_n 2, 1) := by decide +kernel
theorem d1_57 : decode prog_47_method_1_code 57 = .ok (.putfield 32, 3) := by decide +kernel
theorem d1_60 : decode prog_47_method_1_code 60 = .ok (.aload_n 0, 1) := by decide +kernel
theorem d1_61 : decode prog_47_method_1_code 61 = .ok (.aload_n 3, 1) := by decide +kernel
theorem d1_62 : decode prog_47_method_1_code 62 = .ok (.putfield 36, 3) := by decide +kernel
theorem d1_65 : decode prog_47_method_1_code 65 = .ok (.return_, 1) := by decide +kernel
theorem pn_9 : plainName "com/example/rowpath/rowpath/core/NodeMatch" = true := by first | (simp [plainName, overriddenIn]; done) | decide +kernel
set_option maxRecDepth 65536 in
set_option maxHeartbeats 40000000 in
theorem c_nm111 (l : Launch) (Z : State) (a0 : Array Value) (G : Gl Z a0) (m0 : Addr) (x0 x1 x2 : Addr) (b0 b1 b2 b3 b4 b5 bv : Addr) (kv : ClassId) (h : Heap) (E : Exa Z h m0 "com/example/rowpath/rowpath/core/NodeMatch") (F0 : Fld Z h m0 "com/example/rowpath/rowpath/core/NodeMatch" "level" "Ljava/lang/Integer;" .null) (F1 : Fld Z h m0 "com/example/rowpath/rowpath/core/NodeMatch" "type" "Ljava/lang/String;" .null) (F2 : Fld Z h m0 "com/example/rowpath/rowpath/core/NodeMatch" "id" "Ljava/lang/String;" .null) (TT : Tiers Z b0 b1 b2 b3 b4 b5 bv kv) :
    Ctr l Z EL nw (⟨"com/example/rowpath/rowpath/core/NodeMatch", "<init>", "(Ljava/lang/Integer;Ljava/lang/String;Ljava/lang/String;)V"⟩ : MethodName) prog_47_method_1_code 4 (Option.none : Option Jvm.ClassFile.FieldType) ({ frames := 4, cells := 2, slots := 7, locals := 56 } : Room) #[.ref m0, .ref x0, .ref x1, .ref x2] h [m0] (VoidQ fun h' => Keep h h' [m0] ∧ Exa Z h' m0 "com/example/rowpath/rowpath/core/NodeMatch" ∧ Fld Z h' m0 "com/example/rowpath/rowpath/core/NodeMatch" "level" "Ljava/lang/Integer;" (.ref x0) ∧ Fld Z h' m0 "com/example/rowpath/rowpath/core/NodeMatch" "type" "Ljava/lang/String;" (.ref x1) ∧ Fld Z h' m0 "com/example/rowpath/rowpath/core/NodeMatch" "id" "Ljava/lang/String;" (.ref x2)) := by
  obtain ⟨hw, hEL, hSA, ⟨zc, SC, hz⟩, ⟨fm, SF, hfm⟩⟩ := id G
  refine Ctr.enter (own := "com/example/rowpath/rowpath/core/NodeMatch") (nm := "<init>") rfl rfl hEL (plainFor_of_name pn_9) #[.val (.ref m0), .val (.ref x0), .val (.ref x1), .val (.ref x2)] (fun m => by first | rfl | (simp [entryFrame, mkF, argsToLocals, Value.category, maxLocals]; done)) ?_
  intro p e s m below meth c T X
  refine g_aloadN X d1_0 rfl rfl 1 rfl ?_
  refine g_callIn X rfl (hw _ (List.mem_of_getElem? (i := 6) rfl)) (hw _ (List.mem_of_getElem? (i := 7) rfl)) (hw _ (List.mem_of_getElem? (i := 9) rfl)) (hw _ (List.mem_of_getElem? (i := 10) rfl)) (by decide) (c_rec l Z a0 G m0 h) (by simp) (argsL := []) (rest := []) pd_10 rfl rfl rfl rfl 0 (Nat.le_of_eq rfl) (by decide) (by decide) (ck := 0) rfl (cs := 0) rfl (by decide) (by decide) d1_1 4 rfl ?_
  intro T1 h4 X2 hq3
  subst hq3
  refine g_aloadN X2 d1_4 rfl rfl 5 rfl ?_
  refine g_ifnullNo X2 d1_5 8 rfl ?_
  refine g_iconst X2 (1 : Int32) d1_8 (by decide) 9 rfl ?_
  refine g_goto X2 d1_9 13 (by decide) (by decide) ?_
  refine g_aloadN X2 d1_13 rfl rfl 14 rfl ?_
  refine g_ifnullNo X2 d1_14 17 rfl ?_
  refine g_iconst X2 (1 : Int32) d1_17 (by decide) 18 rfl ?_
  refine g_goto X2 d1_18 22 (by decide) (by decide) ?_
  refine g_aloadN X2 d1_22 rfl rfl 23 rfl ?_
  refine g_ifnullNo X2 d1_23 26 rfl ?_
  refine g_iconst X2 (1 : Int32) d1_26 (by decide) 27 rfl ?_
  refine g_goto X2 d1_27 31 (by decide) (by decide) ?_
  refine g_callSv X2 (hw _ (List.mem_of_getElem? (i := 14) rfl)) (hw _ (List.mem_of_getElem? (i := 15) rfl)) (hw _ (List.mem_of_getElem? (i := 16) rfl)) (hw _ (List.mem_of_getElem? (i := 17) rfl)) (by decide) (c_of111 l Z a0 G b0 b1 b2 b3 b4 b5 bv kv h TT) (by simp) (argsL := [.int (1 : Int32), .int (1 : Int32), .int (1 : Int32)]) (rest := []) pd_7 rfl rfl rfl rfl 0 (Nat.le_of_eq rfl) (by decide) (by decide) (ck := 2) rfl (cs := 7) rfl (by decide) (by decide) d1_31 34 rfl ?_
  intro w7 T5 h9 X6 hq8
  obtain ⟨o10, rfl, E11, A12, F13⟩ := hq8
  refine g_callVp X6 (hw _ (List.mem_of_getElem? (i := 62) rfl)) (hw _ (List.mem_of_getElem? (i := 63) rfl)) (hw _ (List.mem_of_getElem? (i := 65) rfl)) (hw _ (List.mem_of_getElem? (i := 64) rfl)) (hw _ (List.mem_of_getElem? (i := 47) rfl)) (hw _ (List.mem_of_getElem? (i := 66) rfl)) (nfSel (hw _ (List.mem_of_getElem? (i := 65) rfl))) (by decide) A12 (c_ie l Z a0 G o10 b0 h9 F13) (by simp) (argsL := []) (rest := []) pd_0 rfl rfl rfl rfl 0 (Nat.le_of_eq rfl) (by decide) (by decide) (ck := 2) rfl (cs := 7) rfl (by decide) (by decide) d1_34 37 rfl ?_
  intro w16 T14 X15 hq17
  subst hq17
  refine g_ifYes X15 d1_37 (XT.ii_eq_t (by decide)) 50 (by decide) (by decide) ?_
  refine g_aloadN X15 d1_50 rfl rfl 51 rfl ?_
  refine g_aloadN X15 d1_51 rfl rfl 52 rfl ?_
  refine g_putF X15 (Or.inl (hw _ (List.mem_of_getElem? (i := 67) rfl))) (host := "") Via.refl (F0.ext E11) (E.ext E11) (Or.inr ⟨(hw _ (List.mem_of_getElem? (i := 68) rfl)), rfl, rfl⟩) (hw _ (List.mem_of_getElem? (i := 1) rfl)) (ty := (.object "java/lang/Integer")) (by rfl) rfl rfl (by simp) d1_52 55 rfl ?_
  intro T18 h19 X20 W21 F22 E23
  refine g_aloadN X20 d1_55 rfl rfl 56 rfl ?_
  refine g_aloadN X20 d1_56 rfl rfl 57 rfl ?_
  refine g_putF X20 (Or.inl (hw _ (List.mem_of_getElem? (i := 69) rfl))) (host := "") Via.refl ((F1.ext E11).other W21 (Or.inr (slot_ne (Or.inr (hw _ (List.mem_of_getElem? (i := 70) rfl))) (Or.inr (hw _ (List.mem_of_getElem? (i := 68) rfl))) (by decide) (by rfl) (by rfl)))) E23 (Or.inr ⟨(hw _ (List.mem_of_getElem? (i := 70) rfl)), rfl, rfl⟩) (hw _ (List.mem_of_getElem? (i := 1) rfl)) (ty := (.object "java/lang/String")) (by rfl) rfl rfl (by simp) d1_57 60 rfl ?_
  intro T24 h25 X26 W27 F28 E29
  refine g_aloadN X26 d1_60 rfl rfl 61 rfl ?_
  refine g_aloadN X26 d1_61 rfl rfl 62 rfl ?_
  refine g_putF X26 (Or.inl (hw _ (List.mem_of_getElem? (i := 71) rfl))) (host := "") Via.refl (((F2.ext E11).other W21 (Or.inr (slot_ne (Or.inr (hw _ (List.mem_of_getElem? (i := 72) rfl))) (Or.inr (hw _ (List.mem_of_getElem? (i := 68) rfl))) (by decide) (by rfl) (by rfl)))).other W27 (Or.inr (slot_ne (Or.inr (hw _ (List.mem_of_getElem? (i := 72) rfl))) (Or.inr (hw _ (List.mem_of_getElem? (i := 70) rfl))) (by decide) (by rfl) (by rfl)))) E29 (Or.inr ⟨(hw _ (List.mem_of_getElem? (i := 72) rfl)), rfl, rfl⟩) (hw _ (List.mem_of_getElem? (i := 1) rfl)) (ty := (.object "java/lang/String")) (by rfl) rfl rfl (by simp) d1_62 65 rfl ?_
  intro T30 h31 X32 W33 F34 E35
  exact g_ret X32 rfl d1_65 (by decide) (by decide) ⟨rfl, ⟨(((((Keep.refl h [m0]).ext E11).wr W21 (Or.inl (by simp))).wr W27 (Or.inl (by simp))).wr W33 (Or.inl (by simp))), E35, ((F22.other W27 (Or.inr (slot_ne (Or.inr (hw _ (List.mem_of_getElem? (i := 68) rfl))) (Or.inr (hw _ (List.mem_of_getElem? (i := 70) rfl))) (by decide) (by rfl) (by rfl)))).other W33 (Or.inr (slot_ne (Or.inr (hw _ (List.mem_of_getElem? (i := 68) rfl))) (Or.inr (hw _ (List.mem_of_getElem? (i := 72) rfl))) (by decide) (by rfl) (by rfl)))), (F28.other W33 (Or.inr (slot_ne (Or.inr (hw _ (List.mem_of_getElem? (i := 70) rfl))) (Or.inr (hw _ (List.mem_of_getElem? (i := 72) rfl))) (by decide) (by rfl) (by rfl)))), F34⟩⟩
theorem d10_0 : decode prog_47_method_2_code 0 = .ok (.aload_n 0, 1) := by decide +kernel
theorem d10_1 : decode prog_47_method_2_code 1 = .ok (.getfield 26, 3) := by decide +kernel
theorem d10_4 : decode prog_47_method_2_code 4 = .ok (.ifnull 7, 3) := by decide +kernel
theorem d10_7 : decode prog_47_method_2_code 7 = .ok (.iconst 1, 1) := by decide +kernel
theorem d10_8 : decode prog_47_method_2_code 8 = .ok (.goto 4, 3) := by decide +kernel
theorem d10_11 : decode prog_47_method_2_code 11 = .ok (.iconst 0, 1) := by decide +kernel
theorem d10_12 : decode prog_47_method_2_code 12 = .ok (.aload_n 0, 1) := by decide +kernel
theorem d10_13 : decode prog_47_method_2_code 13 = .ok (.getfield 32, 3) := by decide +kernel
theorem d10_16 : decode prog_47_method_2_code 16 = .ok (.ifnull 7, 3) := by decide +kernel
theorem d10_19 : decode prog_47_method_2_code 19 = .ok (.iconst 1, 1) := by decide +kernel
theorem d10_20 : decode prog_47_method_2_code 20 = .ok (.goto 4, 3) := by decide +kernel
theorem d10_23 : decode prog_47_method_2_code 23 = .ok (.iconst 0, 1) := by decide +kernel
theorem d10_24 : decode prog_47_method_2_code 24 = .ok (.aload_n 0, 1) := by decide +kernel
theorem d10_25 : decode prog_47_method_2_code 25 = .ok (.getfield 36, 3) := by decide +kernel
theorem d10_28 : decode prog_47_method_2_code 28 = .ok (.ifnull 7, 3) := by decide +kernel
theorem d10_31 : decode prog_47_method_2_code 31 = .ok (.iconst 1, 1) := by decide +kernel
theorem d10_32 : decode prog_47_method_2_code 32 = .ok (.goto 4, 3) := by decide +kernel
theorem d10_35 : decode prog_47_method_2_code 35 = .ok (.iconst 0, 1) := by decide +kernel
theorem d10_36 : decode prog_47_method_2_code 36 = .ok (.invokestatic 7, 3) := by decide +kernel
theorem d10_39 : decode prog_47_method_2_code 39 = .ok (.invokevirtual 39, 3) := by decide +kernel
theorem d10_42 : decode prog_47_method_2_code 42 = .ok (.checkcast 8, 3) := by decide +kernel
theorem d10_45 : decode prog_47_method_2_code 45 = .ok (.areturn, 1) := by decide +kernel
set_option maxRecDepth 65536 in
set_option maxHeartbeats 40000000 in
theorem c_ti111 (l : Launch) (Z : State) (a0 : Array Value) (G : Gl Z a0) (m0 : Addr) (x0 x1 x2 : Addr) (b0 b1 b2 b3 b4 b5 bv : Addr) (kv : ClassId) (h : Heap) (E : Exa Z h m0 "com/example/rowpath/rowpath/core/NodeMatch") (F0 : Fld Z h m0 "com/example/rowpath/rowpath/core/NodeMatch" "level" "Ljava/lang/Integer;" (.ref x0)) (F1 : Fld Z h m0 "com/example/rowpath/rowpath/core/NodeMatch" "type" "Ljava/lang/String;" (.ref x1)) (F2 : Fld Z h m0 "com/example/rowpath/rowpath/core/NodeMatch" "id" "Ljava/lang/String;" (.ref x2)) (TT : Tiers Z b0 b1 b2 b3 b4 b5 bv kv) :
    Ctr l Z EL nw (⟨"com/example/rowpath/rowpath/core/NodeMatch", "tier", "()Lcom/example/rowpath/rowpath/core/NodeMatch$Tier;"⟩ : MethodName) prog_47_method_2_code 1 (Option.some (Jvm.ClassFile.FieldType.object "com/example/rowpath/rowpath/core/NodeMatch$Tier")) ({ frames := 4, cells := 2, slots := 7, locals := 56 } : Room) #[.ref m0] h [] (ValQ fun w h' => w = .ref b0) := by
  obtain ⟨hw, hEL, hSA, ⟨zc, SC, hz⟩, ⟨fm, SF, hfm⟩⟩ := id G
  refine Ctr.enter (own := "com/example/rowpath/rowpath/core/NodeMatch") (nm := "tier") rfl rfl hEL (plainFor_of_name pn_9) #[.val (.ref m0)] (fun m => by first | rfl | (simp [entryFrame, mkF, argsToLocals, Value.category, maxLocals]; done)) ?_
  intro p e s m below meth c T X
  have TT0 := TT
  obtain ⟨S0, E0, F0level, F0type, F0id, S1, E1, F1level, F1type, F1id, S2, E2, F2level, F2type, F2id, S3, E3, F3level, F3type, F3id, S4, E4, F4level, F4type, F4id, S5, E5, F5level, F5type, F5id, SV, EV, AV⟩ := id TT
  refine g_aloadN X d10_0 rfl rfl 1 rfl ?_
  refine g_getF X (Or.inl (hw _ (List.mem_of_getElem? (i := 67) rfl))) (host := "") Via.refl F0 d10_1 4 rfl ?_
  intro T1 X2
  refine g_ifnullNo X2 d10_4 7 rfl ?_
  refine g_iconst X2 (1 : Int32) d10_7 (by decide) 8 rfl ?_
  refine g_goto X2 d10_8 12 (by decide) (by decide) ?_
  refine g_aloadN X2 d10_12 rfl rfl 13 rfl ?_
  refine g_getF X2 (Or.inl (hw _ (List.mem_of_getElem? (i := 69) rfl))) (host := "") Via.refl F1 d10_13 16 rfl ?_
  intro T3 X4
  refine g_ifnullNo X4 d10_16 19 rfl ?_
  refine g_iconst X4 (1 : Int32) d10_19 (by decide) 20 rfl ?_
  refine g_goto X4 d10_20 24 (by decide) (by decide) ?_
  refine g_aloadN X4 d10_24 rfl rfl 25 rfl ?_
  refine g_getF X4 (Or.inl (hw _ (List.mem_of_getElem? (i := 71) rfl))) (host := "") Via.refl F2 d10_25 28 rfl ?_
  intro T5 X6
  refine g_ifnullNo X6 d10_28 31 rfl ?_
  refine g_iconst X6 (1 : Int32) d10_31 (by decide) 32 rfl ?_
  refine g_goto X6 d10_32 36 (by decide) (by decide) ?_
  refine g_callSv X6 (hw _ (List.mem_of_getElem? (i := 14) rfl)) (hw _ (List.mem_of_getElem? (i := 15) rfl)) (hw _ (List.mem_of_getElem? (i := 16) rfl)) (hw _ (List.mem_of_getElem? (i := 17) rfl)) (by decide) (c_of111 l Z a0 G b0 b1 b2 b3 b4 b5 bv kv h TT) (by simp) (argsL := [.int (1 : Int32), .int (1 : Int32), .int (1 : Int32)]) (rest := []) pd_7 rfl rfl rfl rfl 0 (Nat.le_of_eq rfl) (by decide) (by decide) (ck := 2) rfl (cs := 7) rfl (by decide) (by decide) d10_36 39 rfl ?_
  intro w9 T7 h11 X8 hq10
  obtain ⟨o12, rfl, E13, A14, F15⟩ := hq10
  refine g_callVp X8 (hw _ (List.mem_of_getElem? (i := 79) rfl)) (hw _ (List.mem_of_getElem? (i := 80) rfl)) (hw _ (List.mem_of_getElem? (i := 82) rfl)) (hw _ (List.mem_of_getElem? (i := 81) rfl)) (hw _ (List.mem_of_getElem? (i := 47) rfl)) (hw _ (List.mem_of_getElem? (i := 83) rfl)) (nfSel (hw _ (List.mem_of_getElem? (i := 82) rfl))) (by decide) A14 (c_oet l Z a0 G o12 b0 h11 F15) (by simp) (argsL := []) (rest := []) pd_1 rfl rfl rfl rfl 0 (Nat.le_of_eq rfl) (by decide) (by decide) (ck := 2) rfl (cs := 7) rfl (by decide) (by decide) d10_39 42 rfl ?_
  intro w18 T16 X17 hq19
  subst hq19
  refine g_cast X17 (hw _ (List.mem_of_getElem? (i := 84) rfl)) (Ins.self (E0.ext X17.old)) d10_42 45 rfl ?_
  intro T20 X21
  exact g_retA X21 rfl rfl rfl d10_45 (by decide) (by decide) ⟨_, rfl, rfl⟩
set_option maxRecDepth 65536 in
set_option maxHeartbeats 40000000 in
theorem c_nm011 (l : Launch) (Z : State) (a0 : Array Value) (G : Gl Z a0) (m0 : Addr) (x1 x2 : Addr) (b0 b1 b2 b3 b4 b5 bv : Addr) (kv : ClassId) (h : Heap) (E : Exa Z h m0 "com/example/rowpath/rowpath/core/NodeMatch") (F0 : Fld Z h m0 "com/example/rowpath/rowpath/core/NodeMatch" "level" "Ljava/lang/Integer;" .null) (F1 : Fld Z h m0 "com/example/rowpath/rowpath/core/NodeMatch" "type" "Ljava/lang/String;" .null) (F2 : Fld Z h m0 "com/example/rowpath/rowpath/core/NodeMatch" "id" "Ljava/lang/String;" .null) (TT : Tiers Z b0 b1 b2 b3 b4 b5 bv kv) :
    Ctr l Z EL nw (⟨"com/example/rowpath/rowpath/core/NodeMatch", "<init>", "(Ljava/lang/Integer;Ljava/lang/String;Ljava/lang/String;)V"⟩ : MethodName) prog_47_method_1_code 4 (Option.none : Option Jvm.ClassFile.FieldType) ({ frames := 4, cells := 2, slots := 7, locals := 56 } : Room) #[.ref m0, .null, .ref x1, .ref x2] h [m0] (VoidQ fun h' => Keep h h' [m0] ∧ Exa Z h' m0 "com/example/rowpath/rowpath/core/NodeMatch" ∧ Fld Z h' m0 "com/example/rowpath/rowpath/core/NodeMatch" "level" "Ljava/lang/Integer;" (.null) ∧ Fld Z h' m0 "com/example/rowpath/rowpath/core/NodeMatch" "type" "Ljava/lang/String;" (.ref x1) ∧ Fld Z h' m0 "com/example/rowpath/rowpath/core/NodeMatch" "id" "Ljava/lang/String;" (.ref x2)) := by
  obtain ⟨hw, hEL, hSA, ⟨zc, SC, hz⟩, ⟨fm, SF, hfm⟩⟩ := id G
  refine Ctr.enter (own := "com/example/rowpath/rowpath/core/NodeMatch") (nm := "<init>") rfl rfl hEL (plainFor_of_name pn_9) #[.val (.ref m0), .val (.null), .val (.ref x1), .val (.ref x2)] (fun m => by first | rfl | (simp [entryFrame, mkF, argsToLocals, Value.category, maxLocals]; done)) ?_
  intro p e s m below meth c T X
  refine g_aloadN X d1_0 rfl rfl 1 rfl ?_
  refine g_callIn X rfl (hw _ (List.mem_of_getElem? (i := 6) rfl)) (hw _ (List.mem_of_getElem? (i := 7) rfl)) (hw _ (List.mem_of_getElem? (i := 9) rfl)) (hw _ (List.mem_of_getElem? (i := 10) rfl)) (by decide) (c_rec l Z a0 G m0 h) (by simp) (argsL := []) (rest := []) pd_10 rfl rfl rfl rfl 0 (Nat.le_of_eq rfl) (by decide) (by decide) (ck := 0) rfl (cs := 0) rfl (by decide) (by decide) d1_1 4 rfl ?_
  intro T1 h4 X2 hq3
  subst hq3
  refine g_aloadN X2 d1_4 rfl rfl 5 rfl ?_
  refine g_ifnullYes X2 d1_5 12 (by decide) (by decide) ?_
  refine g_iconst X2 (0 : Int32) d1_12 (by decide) 13 rfl ?_
  refine g_aloadN X2 d1_13 rfl rfl 14 rfl ?_
  refine g_ifnullNo X2 d1_14 17 rfl ?_
  refine g_iconst X2 (1 : Int32) d1_17 (by decide) 18 rfl ?_
  refine g_goto X2 d1_18 22 (by decide) (by decide) ?_
  refine g_aloadN X2 d1_22 rfl rfl 23 rfl ?_
  refine g_ifnullNo X2 d1_23 26 rfl ?_
  refine g_iconst X2 (1 : Int32) d1_26 (by decide) 27 rfl ?_
  refine g_goto X2 d1_27 31 (by decide) (by decide) ?_
  refine g_callSv X2 (hw _ (List.mem_of_getElem? (i := 14) rfl)) (hw _ (List.mem_of_getElem? (i := 15) rfl)) (hw _ (List.mem_of_getElem? (i := 16) rfl)) (hw _ (List.mem_of_getElem? (i := 17) rfl)) (by decide) (c_of011 l Z a0 G b0 b1 b2 b3 b4 b5 bv kv h TT) (by simp) (argsL := [.int (0 : Int32), .int (1 : Int32), .int (1 : Int32)]) (rest := []) pd_7 rfl rfl rfl rfl 0 (Nat.le_of_eq rfl) (by decide) (by decide) (ck := 2) rfl (cs := 7) rfl (by decide) (by decide) d1_31 34 rfl ?_
  intro w7 T5 h9 X6 hq8
  obtain ⟨o10, rfl, E11, A12, F13⟩ := hq8
  refine g_callVp X6 (hw _ (List.mem_of_getElem? (i := 62) rfl)) (hw _ (List.mem_of_getElem? (i := 63) rfl)) (hw _ (List.mem_of_getElem? (i := 65) rfl)) (hw _ (List.mem_of_getElem? (i := 64) rfl)) (hw _ (List.mem_of_getElem? (i := 47) rfl)) (hw _ (List.mem_of_getElem? (i := 66) rfl)) (nfSel (hw _ (List.mem_of_getElem? (i := 65) rfl))) (by decide) A12 (c_ie l Z a0 G o10 b1 h9 F13) (by simp) (argsL := []) (rest := []) pd_0 rfl rfl rfl rfl 0 (Nat.le_of_eq rfl) (by decide) (by decide) (ck := 2) rfl (cs := 7) rfl (by decide) (by decide) d1_34 37 rfl ?_
  intro w16 T14 X15 hq17
  subst hq17
  refine g_ifYes X15 d1_37 (XT.ii_eq_t (by decide)) 50 (by decide) (by decide) ?_
  refine g_aloadN X15 d1_50 rfl rfl 51 rfl ?_
  refine g_aloadN X15 d1_51 rfl rfl 52 rfl ?_
  refine g_putF X15 (Or.inl (hw _ (List.mem_of_getElem? (i := 67) rfl))) (host := "") Via.refl (F0.ext E11) (E.ext E11) (Or.inr ⟨(hw _ (List.mem_of_getElem? (i := 68) rfl)), rfl, rfl⟩) (hw _ (List.mem_of_getElem? (i := 1) rfl)) (ty := (.object "java/lang/Integer")) (by rfl) rfl rfl (by simp) d1_52 55 rfl ?_
  intro T18 h19 X20 W21 F22 E23
  refine g_aloadN X20 d1_55 rfl rfl 56 rfl ?_
  refine g_aloadN X20 d1_56 rfl rfl 57 rfl ?_
  refine g_putF X20 (Or.inl (hw _ (List.mem_of_getElem? (i := 69) rfl))) (host := "") Via.refl ((F1.ext E11).other W21 (Or.inr (slot_ne (Or.inr (hw _ (List.mem_of_getElem? (i := 70) rfl))) (Or.inr (hw _ (List.mem_of_getElem? (i := 68) rfl))) (by decide) (by rfl) (by rfl)))) E23 (Or.inr ⟨(hw _ (List.mem_of_getElem? (i := 70) rfl)), rfl, rfl⟩) (hw _ (List.mem_of_getElem? (i := 1) rfl)) (ty := (.object "java/lang/String")) (by rfl) rfl rfl (by simp) d1_57 60 rfl ?_
  intro T24 h25 X26 W27 F28 E29
  refine g_aloadN X26 d1_60 rfl rfl 61 rfl ?_
  refine g_aloadN X26 d1_61 rfl rfl 62 rfl ?_
  refine g_putF X26 (Or.inl (hw _ (List.mem_of_getElem? (i := 71) rfl))) (host := "") Via.refl (((F2.ext E11).other W21 (Or.inr (slot_ne (Or.inr (hw _ (List.mem_of_getElem? (i := 72) rfl))) (Or.inr (hw _ (List.mem_of_getElem? (i := 68) rfl))) (by decide) (by rfl) (by rfl)))).other W27 (Or.inr (slot_ne (Or.inr (hw _ (List.mem_of_getElem? (i := 72) rfl))) (Or.inr (hw _ (List.mem_of_getElem? (i := 70) rfl))) (by decide) (by rfl) (by rfl)))) E29 (Or.inr ⟨(hw _ (List.mem_of_getElem? (i := 72) rfl)), rfl, rfl⟩) (hw _ (List.mem_of_getElem? (i := 1) rfl)) (ty := (.object "java/lang/String")) (by rfl) rfl rfl (by simp) d1_62 65 rfl ?_
  intro T30 h31 X32 W33 F34 E35
  exact g_ret X32 rfl d1_65 (by decide) (by decide) ⟨rfl, ⟨(((((Keep.refl h [m0]).ext E11).wr W21 (Or.inl (by simp))).wr W27 (Or.inl (by simp))).wr W33 (Or.inl (by simp))), E35, ((F22.other W27 (Or.inr (slot_ne (Or.inr (hw _ (List.mem_of_getElem? (i := 68) rfl))) (Or.inr (hw _ (List.mem_of_getElem? (i := 70) rfl))) (by decide) (by rfl) (by rfl)))).other W33 (Or.inr (slot_ne (Or.inr (hw _ (List.mem_of_getElem? (i := 68) rfl))) (Or.inr (hw _ (List.mem_of_getElem? (i := 72) rfl))) (by decide) (by rfl) (by rfl)))), (F28.other W33 (Or.inr (slot_ne (Or.inr (hw _ (List.mem_of_getElem? (i := 70) rfl))) (Or.inr (hw _ (List.mem_of_getElem? (i := 72) rfl))) (by decide) (by rfl) (by rfl)))), F34⟩⟩
set_option maxRecDepth 65536 in
set_option maxHeartbeats 40000000 in
theorem c_ti011 (l : Launch) (Z : State) (a0 : Array Value) (G : Gl Z a0) (m0 : Addr) (x1 x2 : Addr) (b0 b1 b2 b3 b4 b5 bv : Addr) (kv : ClassId) (h : Heap) (E : Exa Z h m0 "com/example/rowpath/rowpath/core/NodeMatch") (F0 : Fld Z h m0 "com/example/rowpath/rowpath/core/NodeMatch" "level" "Ljava/lang/Integer;" (.null)) (F1 : Fld Z h m0 "com/example/rowpath/rowpath/core/NodeMatch" "type" "Ljava/lang/String;" (.ref x1)) (F2 : Fld Z h m0 "com/example/rowpath/rowpath/core/NodeMatch" "id" "Ljava/lang/String;" (.ref x2)) (TT : Tiers Z b0 b1 b2 b3 b4 b5 bv kv) :
    Ctr l Z EL nw (⟨"com/example/rowpath/rowpath/core/NodeMatch", "tier", "()Lcom/example/rowpath/rowpath/core/NodeMatch$Tier;"⟩ : MethodName) prog_47_method_2_code 1 (Option.some (Jvm.ClassFile.FieldType.object "com/example/rowpath/rowpath/core/NodeMatch$Tier")) ({ frames := 4, cells := 2, slots := 7, locals := 56 } : Room) #[.ref m0] h [] (ValQ fun w h' => w = .ref b1) := by
  obtain ⟨hw, hEL, hSA, ⟨zc, SC, hz⟩, ⟨fm, SF, hfm⟩⟩ := id G
  refine Ctr.enter (own := "com/example/rowpath/rowpath/core/NodeMatch") (nm := "tier") rfl rfl hEL (plainFor_of_name pn_9) #[.val (.ref m0)] (fun m => by first | rfl | (simp [entryFrame, mkF, argsToLocals, Value.category, maxLocals]; done)) ?_
  intro p e s m below meth c T X
  have TT0 := TT
  obtain ⟨S0, E0, F0level, F0type, F0id, S1, E1, F1level, F1type, F1id, S2, E2, F2level, F2type, F2id, S3, E3, F3level, F3type, F3id, S4, E4, F4level, F4type, F4id, S5, E5, F5level, F5type, F5id, SV, EV, AV⟩ := id TT
  refine g_aloadN X d10_0 rfl rfl 1 rfl ?_
  refine g_getF X (Or.inl (hw _ (List.mem_of_getElem? (i := 67) rfl))) (host := "") Via.refl F0 d10_1 4 rfl ?_
  intro T1 X2
  refine g_ifnullYes X2 d10_4 11 (by decide) (by decide) ?_
  refine g_iconst X2 (0 : Int32) d10_11 (by decide) 12 rfl ?_
  refine g_aloadN X2 d10_12 rfl rfl 13 rfl ?_
  refine g_getF X2 (Or.inl (hw _ (List.mem_of_getElem? (i := 69) rfl))) (host := "") Via.refl F1 d10_13 16 rfl ?_
  intro T3 X4
  refine g_ifnullNo X4 d10_16 19 rfl ?_
  refine g_iconst X4 (1 : Int32) d10_19 (by decide) 20 rfl ?_
  refine g_goto X4 d10_20 24 (by decide) (by decide) ?_
  refine g_aloadN X4 d10_24 rfl rfl 25 rfl ?_
  refine g_getF X4 (Or.inl (hw _ (List.mem_of_getElem? (i := 71) rfl))) (host := "") Via.refl F2 d10_25 28 rfl ?_
  intro T5 X6
  refine g_ifnullNo X6 d10_28 31 rfl ?_
  refine g_iconst X6 (1 : Int32) d10_31 (by decide) 32 rfl ?_
  refine g_goto X6 d10_32 36 (by decide) (by decide) ?_
  refine g_callSv X6 (hw _ (List.mem_of_getElem? (i := 14) rfl)) (hw _ (List.mem_of_getElem? (i := 15) rfl)) (hw _ (List.mem_of_getElem? (i := 16) rfl)) (hw _ (List.mem_of_getElem? (i := 17) rfl)) (by decide) (c_of011 l Z a0 G b0 b1 b2 b3 b4 b5 bv kv h TT) (by simp) (argsL := [.int (0 : Int32), .int (1 : Int32), .int (1 : Int32)]) (rest := []) pd_7 rfl rfl rfl rfl 0 (Nat.le_of_eq rfl) (by decide) (by decide) (ck := 2) rfl (cs := 7) rfl (by decide) (by decide) d10_36 39 rfl ?_
  intro w9 T7 h11 X8 hq10
  obtain ⟨o12, rfl, E13, A14, F15⟩ := hq10
  refine g_callVp X8 (hw _ (List.mem_of_getElem? (i := 79) rfl)) (hw _ (List.mem_of_getElem? (i := 80) rfl)) (hw _ (List.mem_of_getElem? (i := 82) rfl)) (hw _ (List.mem_of_getElem? (i := 81) rfl)) (hw _ (List.mem_of_getElem? (i := 47) rfl)) (hw _ (List.mem_of_getElem? (i := 83) rfl)) (nfSel (hw _ (List.mem_of_getElem? (i := 82) rfl))) (by decide) A14 (c_oet l Z a0 G o12 b1 h11 F15) (by simp) (argsL := []) (rest := []) pd_1 rfl rfl rfl rfl 0 (Nat.le_of_eq rfl) (by decide) (by decide) (ck := 2) rfl (cs := 7) rfl (by decide) (by decide) d10_39 42 rfl ?_
  intro w18 T16 X17 hq19
  subst hq19
  refine g_cast X17 (hw _ (List.mem_of_getElem? (i := 84) rfl)) (Ins.self (E1.ext X17.old)) d10_42 45 rfl ?_
  intro T20 X21
  exact g_retA X21 rfl rfl rfl d10_45 (by decide) (by decide) ⟨_, rfl, rfl⟩
set_option maxRecDepth 65536 in
set_option maxHeartbeats 40000000 in
theorem c_nm110 (l : Launch) (Z : State) (a0 : Array Value) (G : Gl Z a0) (m0 : Addr) (x0 x1 : Addr) (b0 b1 b2 b3 b4 b5 bv : Addr) (kv : ClassId) (h : Heap) (E : Exa Z h m0 "com/example/rowpath/rowpath/core/NodeMatch") (F0 : Fld Z h m0 "com/example/rowpath/rowpath/core/NodeMatch" "level" "Ljava/lang/Integer;" .null) (F1 : Fld Z h m0 "com/example/rowpath/rowpath/core/NodeMatch" "type" "Ljava/lang/String;" .null) (F2 : Fld Z h m0 "com/example/rowpath/rowpath/core/NodeMatch" "id" "Ljava/lang/String;" .null) (TT : Tiers Z b0 b1 b2 b3 b4 b5 bv kv) :
    Ctr l Z EL nw (⟨"com/example/rowpath/rowpath/core/NodeMatch", "<init>", "(Ljava/lang/Integer;Ljava/lang/String;Ljava/lang/String;)V"⟩ : MethodName) prog_47_method_1_code 4 (Option.none : Option Jvm.ClassFile.FieldType) ({ frames := 4, cells := 2, slots := 7, locals := 56 } : Room) #[.ref m0, .ref x0, .ref x1, .null] h [m0] (VoidQ fun h' => Keep h h' [m0] ∧ Exa Z h' m0 "com/example/rowpath/rowpath/core/NodeMatch" ∧ Fld Z h' m0 "com/example/rowpath/rowpath/core/NodeMatch" "level" "Ljava/lang/Integer;" (.ref x0) ∧ Fld Z h' m0 "com/example/rowpath/rowpath/core/NodeMatch" "type" "Ljava/lang/String;" (.ref x1) ∧ Fld Z h' m0 "com/example/rowpath/rowpath/core/NodeMatch" "id" "Ljava/lang/String;" (.null)) := by
  obtain ⟨hw, hEL, hSA, ⟨zc, SC, hz⟩, ⟨fm, SF, hfm⟩⟩ := id G
  refine Ctr.enter (own := "com/example/rowpath/rowpath/core/NodeMatch") (nm := "<init>") rfl rfl hEL (plainFor_of_name pn_9) #[.val (.ref m0), .val (.ref x0), .val (.ref x1), .val (.null)] (fun m => by first | rfl | (simp [entryFrame, mkF, argsToLocals, Value.category, maxLocals]; done)) ?_
  intro p e s m below meth c T X
  refine g_aloadN X d1_0 rfl rfl 1 rfl ?_
  refine g_callIn X rfl (hw _ (List.mem_of_getElem? (i := 6) rfl)) (hw _ (List.mem_of_getElem? (i := 7) rfl)) (hw _ (List.mem_of_getElem? (i := 9) rfl)) (hw _ (List.mem_of_getElem? (i := 10) rfl)) (by decide) (c_rec l Z a0 G m0 h) (by simp) (argsL := []) (rest := []) pd_10 rfl rfl rfl rfl 0 (Nat.le_of_eq rfl) (by decide) (by decide) (ck := 0) rfl (cs := 0) rfl (by decide) (by decide) d1_1 4 rfl ?_
  intro T1 h4 X2 hq3
  subst hq3
  refine g_aloadN X2 d1_4 rfl rfl 5 rfl ?_
  refine g_ifnullNo X2 d1_5 8 rfl ?_
  refine g_iconst X2 (1 : Int32) d1_8 (by decide) 9 rfl ?_
  refine g_goto X2 d1_9 13 (by decide) (by decide) ?_
  refine g_aloadN X2 d1_13 rfl rfl 14 rfl ?_
  refine g_ifnullNo X2 d1_14 17 rfl ?_
  refine g_iconst X2 (1 : Int32) d1_17 (by decide) 18 rfl ?_
  refine g_goto X2 d1_18 22 (by decide) (by decide) ?_
  refine g_aloadN X2 d1_22 rfl rfl 23 rfl ?_
  refine g_ifnullYes X2 d1_23 30 (by decide) (by decide) ?_
  refine g_iconst X2 (0 : Int32) d1_30 (by decide) 31 rfl ?_
  refine g_callSv X2 (hw _ (List.mem_of_getElem? (i := 14) rfl)) (hw _ (List.mem_of_getElem? (i := 15) rfl)) (hw _ (List.mem_of_getElem? (i := 16) rfl)) (hw _ (List.mem_of_getElem? (i := 17) rfl)) (by decide) (c_of110 l Z a0 G b0 b1 b2 b3 b4 b5 bv kv h TT) (by simp) (argsL := [.int (1 : Int32), .int (1 : Int32), .int (0 : Int32)]) (rest := []) pd_7 rfl rfl rfl rfl 0 (Nat.le_of_eq rfl) (by decide) (by decide) (ck := 2) rfl (cs := 7) rfl (by decide) (by decide) d1_31 34 rfl ?_
  intro w7 T5 h9 X6 hq8
  obtain ⟨o10, rfl, E11, A12, F13⟩ := hq8
  refine g_callVp X6 (hw _ (List.mem_of_getElem? (i := 62) rfl)) (hw _ (List.mem_of_getElem? (i := 63) rfl)) (hw _ (List.mem_of_getElem? (i := 65) rfl)) (hw _ (List.mem_of_getElem? (i := 64) rfl)) (hw _ (List.mem_of_getElem? (i := 47) rfl)) (hw _ (List.mem_of_getElem? (i := 66) rfl)) (nfSel (hw _ (List.mem_of_getElem? (i := 65) rfl))) (by decide) A12 (c_ie l Z a0 G o10 b2 h9 F13) (by simp) (argsL := []) (rest := []) pd_0 rfl rfl rfl rfl 0 (Nat.le_of_eq rfl) (by decide) (by decide) (ck := 2) rfl (cs := 7) rfl (by decide) (by decide) d1_34 37 rfl ?_
  intro w16 T14 X15 hq17
  subst hq17
  refine g_ifYes X15 d1_37 (XT.ii_eq_t (by decide)) 50 (by decide) (by decide) ?_
  refine g_aloadN X15 d1_50 rfl rfl 51 rfl ?_
  refine g_aloadN X15 d1_51 rfl rfl 52 rfl ?_
  refine g_putF X15 (Or.inl (hw _ (List.mem_of_getElem? (i := 67) rfl))) (host := "") Via.refl (F0.ext E11) (E.ext E11) (Or.inr ⟨(hw _ (List.mem_of_getElem? (i := 68) rfl)), rfl, rfl⟩) (hw _ (List.mem_of_getElem? (i := 1) rfl)) (ty := (.object "java/lang/Integer")) (by rfl) rfl rfl (by simp) d1_52 55 rfl ?_
  intro T18 h19 X20 W21 F22 E23
  refine g_aloadN X20 d1_55 rfl rfl 56 rfl ?_
  refine g_aloadN X20 d1_56 rfl rfl 57 rfl ?_
  refine g_putF X20 (Or.inl (hw _ (List.mem_of_getElem? (i := 69) rfl))) (host := "") Via.refl ((F1.ext E11).other W21 (Or.inr (slot_ne (Or.inr (hw _ (List.mem_of_getElem? (i := 70) rfl))) (Or.inr (hw _ (List.mem_of_getElem? (i := 68) rfl))) (by decide) (by rfl) (by rfl)))) E23 (Or.inr ⟨(hw _ (List.mem_of_getElem? (i := 70) rfl)), rfl, rfl⟩) (hw _ (List.mem_of_getElem? (i := 1) rfl)) (ty := (.object "java/lang/String")) (by rfl) rfl rfl (by simp) d1_57 60 rfl ?_
  intro T24 h25 X26 W27 F28 E29
  refine g_aloadN X26 d1_60 rfl rfl 61 rfl ?_
  refine g_aloadN X26 d1_61 rfl rfl 62 rfl ?_
  refine g_putF X26 (Or.inl (hw _ (List.mem_of_getElem? (i := 71) rfl))) (host := "") Via.refl (((F2.ext E11).other W21 (Or.inr (slot_ne (Or.inr (hw _ (List.mem_of_getElem? (i := 72) rfl))) (Or.inr (hw _ (List.mem_of_getElem? (i := 68) rfl))) (by decide) (by rfl) (by rfl)))).other W27 (Or.inr (slot_ne (Or.inr (hw _ (List.mem_of_getElem? (i := 72) rfl))) (Or.inr (hw _ (List.mem_of_getElem? (i := 70) rfl))) (by decide) (by rfl) (by rfl)))) E29 (Or.inr ⟨(hw _ (List.mem_of_getElem? (i := 72) rfl)), rfl, rfl⟩) (hw _ (List.mem_of_getElem? (i := 1) rfl)) (ty := (.object "java/lang/String")) (by rfl) rfl rfl (by simp) d1_62 65 rfl ?_
  intro T30 h31 X32 W33 F34 E35
  exact g_ret X32 rfl d1_65 (by decide) (by decide) ⟨rfl, ⟨(((((Keep.refl h [m0]).ext E11).wr W21 (Or.inl (by simp))).wr W27 (Or.inl (by simp))).wr W33 (Or.inl (by simp))), E35, ((F22.other W27 (Or.inr (slot_ne (Or.inr (hw _ (List.mem_of_getElem? (i := 68) rfl))) (Or.inr (hw _ (List.mem_of_getElem? (i := 70) rfl))) (by decide) (by rfl) (by rfl)))).other W33 (Or.inr (slot_ne (Or.inr (hw _ (List.mem_of_getElem? (i := 68) rfl))) (Or.inr (hw _ (List.mem_of_getElem? (i := 72) rfl))) (by decide) (by rfl) (by rfl)))), (F28.other W33 (Or.inr (slot_ne (Or.inr (hw _ (List.mem_of_getElem? (i := 70) rfl))) (Or.inr (hw _ (List.mem_of_getElem? (i := 72) rfl))) (by decide) (by rfl) (by rfl)))), F34⟩⟩
set_option maxRecDepth 65536 in
set_option maxHeartbeats 40000000 in
theorem c_ti110 (l : Launch) (Z : State) (a0 : Array Value) (G : Gl Z a0) (m0 : Addr) (x0 x1 : Addr) (b0 b1 b2 b3 b4 b5 bv : Addr) (kv : ClassId) (h : Heap) (E : Exa Z h m0 "com/example/rowpath/rowpath/core/NodeMatch") (F0 : Fld Z h m0 "com/example/rowpath/rowpath/core/NodeMatch" "level" "Ljava/lang/Integer;" (.ref x0)) (F1 : Fld Z h m0 "com/example/rowpath/rowpath/core/NodeMatch" "type" "Ljava/lang/String;" (.ref x1)) (F2 : Fld Z h m0 "com/example/rowpath/rowpath/core/NodeMatch" "id" "Ljava/lang/String;" (.null)) (TT : Tiers Z b0 b1 b2 b3 b4 b5 bv kv) :
    Ctr l Z EL nw (⟨"com/example/rowpath/rowpath/core/NodeMatch", "tier", "()Lcom/example/rowpath/rowpath/core/NodeMatch$Tier;"⟩ : MethodName) prog_47_method_2_code 1 (Option.some (Jvm.ClassFile.FieldType.object "com/example/rowpath/rowpath/core/NodeMatch$Tier")) ({ frames := 4, cells := 2, slots := 7, locals := 56 } : Room) #[.ref m0] h [] (ValQ fun w h' => w = .ref b2) := by
  obtain ⟨hw, hEL, hSA, ⟨zc, SC, hz⟩, ⟨fm, SF, hfm⟩⟩ := id G
  refine Ctr.enter (own := "com/example/rowpath/rowpath/core/NodeMatch") (nm := "tier") rfl rfl hEL (plainFor_of_name pn_9) #[.val (.ref m0)] (fun m => by first | rfl | (simp [entryFrame, mkF, argsToLocals, Value.category, maxLocals]; done)) ?_
  intro p e s m below meth c T X
  have TT0 := TT
  obtain ⟨S0, E0, F0level, F0type, F0id, S1, E1, F1level, F1type, F1id, S2, E2, F2level, F2type, F2id, S3, E3, F3level, F3type, F3id, S4, E4, F4level, F4type, F4id, S5, E5, F5level, F5type, F5id, SV, EV, AV⟩ := id TT
  refine g_aloadN X d10_0 rfl rfl 1 rfl ?_
  refine g_getF X (Or.inl (hw _ (List.mem_of_getElem? (i := 67) rfl))) (host := "") Via.refl F0 d10_1 4 rfl ?_
  intro T1 X2
  refine g_ifnullNo X2 d10_4 7 rfl ?_
  refine g_iconst X2 (1 : Int32) d10_7 (by decide) 8 rfl ?_
  refine g_goto X2 d10_8 12 (by decide) (by decide) ?_
  refine g_aloadN X2 d10_12 rfl rfl 13 rfl ?_
  refine g_getF X2 (Or.inl (hw _ (List.mem_of_getElem? (i := 69) rfl))) (host := "") Via.refl F1 d10_13 16 rfl ?_
  intro T3 X4
  refine g_ifnullNo X4 d10_16 19 rfl ?_
  refine g_iconst X4 (1 : Int32) d10_19 (by decide) 20 rfl ?_
  refine g_goto X4 d10_20 24 (by decide) (by decide) ?_
  refine g_aloadN X4 d10_24 rfl rfl 25 rfl ?_
  refine g_getF X4 (Or.inl (hw _ (List.mem_of_getElem? (i := 71) rfl))) (host := "") Via.refl F2 d10_25 28 rfl ?_
  intro T5 X6
  refine g_ifnullYes X6 d10_28 35 (by decide) (by decide) ?_
  refine g_iconst X6 (0 : Int32) d10_35 (by decide) 36 rfl ?_
  refine g_callSv X6 (hw _ (List.mem_of_getElem? (i := 14) rfl)) (hw _ (List.mem_of_getElem? (i := 15) rfl)) (hw _ (List.mem_of_getElem? (i := 16) rfl)) (hw _ (List.mem_of_getElem? (i := 17) rfl)) (by decide) (c_of110 l Z a0 G b0 b1 b2 b3 b4 b5 bv kv h TT) (by simp) (argsL := [.int (1 : Int32), .int (1 : Int32), .int (0 : Int32)]) (rest := []) pd_7 rfl rfl rfl rfl 0 (Nat.le_of_eq rfl) (by decide) (by decide) (ck := 2) rfl (cs := 7) rfl (by decide) (by decide) d10_36 39 rfl ?_
  intro w9 T7 h11 X8 hq10
  obtain ⟨o12, rfl, E13, A14, F15⟩ := hq10
  refine g_callVp X8 (hw _ (List.mem_of_getElem? (i := 79) rfl)) (hw _ (List.mem_of_getElem? (i := 80) rfl)) (hw _ (List.mem_of_getElem? (i := 82) rfl)) (hw _ (List.mem_of_getElem? (i := 81) rfl)) (hw _ (List.mem_of_getElem? (i := 47) rfl)) (hw _ (List.mem_of_getElem? (i := 83) rfl)) (nfSel (hw _ (List.mem_of_getElem? (i := 82) rfl))) (by decide) A14 (c_oet l Z a0 G o12 b2 h11 F15) (by simp) (argsL := []) (rest := []) pd_1 rfl rfl rfl rfl 0 (Nat.le_of_eq rfl) (by decide) (by decide) (ck := 2) rfl (cs := 7) rfl (by decide) (by decide) d10_39 42 rfl ?_
  intro w18 T16 X17 hq19
  subst hq19
  refine g_cast X17 (hw _ (List.mem_of_getElem? (i := 84) rfl)) (Ins.self (E2.ext X17.old)) d10_42 45 rfl ?_
  intro T20 X21
  exact g_retA X21 rfl rfl rfl d10_45 (by decide) (by decide) ⟨_, rfl, rfl⟩
set_option maxRecDepth 65536 in
set_option maxHeartbeats 40000000 in
theorem c_nm010 (l : Launch) (Z : State) (a0 : Array Value) (G : Gl Z a0) (m0 : Addr) (x1 : Addr) (b0 b1 b2 b3 b4 b5 bv : Addr) (kv : ClassId) (h : Heap) (E : Exa Z h m0 "com/example/rowpath/rowpath/core/NodeMatch") (F0 : Fld Z h m0 "com/example/rowpath/rowpath/core/NodeMatch" "level" "Ljava/lang/Integer;" .null) (F1 : Fld Z h m0 "com/example/rowpath/rowpath/core/NodeMatch" "type" "Ljava/lang/String;" .null) (F2 : Fld Z h m0 "com/example/rowpath/rowpath/core/NodeMatch" "id" "Ljava/lang/String;" .null) (TT : Tiers Z b0 b1 b2 b3 b4 b5 bv kv) :
    Ctr l Z EL nw (⟨"com/example/rowpath/rowpath/core/NodeMatch", "<init>", "(Ljava/lang/Integer;Ljava/lang/String;Ljava/lang/String;)V"⟩ : MethodName) prog_47_method_1_code 4 (Option.none : Option Jvm.ClassFile.FieldType) ({ frames := 4, cells := 2, slots := 7, locals := 56 } : Room) #[.ref m0, .null, .ref x1, .null] h [m0] (VoidQ fun h' => Keep h h' [m0] ∧ Exa Z h' m0 "com/example/rowpath/rowpath/core/NodeMatch" ∧ Fld Z h' m0 "com/example/rowpath/rowpath/core/NodeMatch" "level" "Ljava/lang/Integer;" (.null) ∧ Fld Z h' m0 "com/example/rowpath/rowpath/core/NodeMatch" "type" "Ljava/lang/String;" (.ref x1) ∧ Fld Z h' m0 "com/example/rowpath/rowpath/core/NodeMatch" "id" "Ljava/lang/String;" (.null)) := by
  obtain ⟨hw, hEL, hSA, ⟨zc, SC, hz⟩, ⟨fm, SF, hfm⟩⟩ := id G
  refine Ctr.enter (own := "com/example/rowpath/rowpath/core/NodeMatch") (nm := "<init>") rfl rfl hEL (plainFor_of_name pn_9) #[.val (.ref m0), .val (.null), .val (.ref x1), .val (.null)] (fun m => by first | rfl | (simp [entryFrame, mkF, argsToLocals, Value.category, maxLocals]; done)) ?_
  intro p e s m below meth c T X
  refine g_aloadN X d1_0 rfl rfl 1 rfl ?_
  refine g_callIn X rfl (hw _ (List.mem_of_getElem? (i := 6) rfl)) (hw _ (List.mem_of_getElem? (i := 7) rfl)) (hw _ (List.mem_of_getElem? (i := 9) rfl)) (hw _ (List.mem_of_getElem? (i := 10) rfl)) (by decide) (c_rec l Z a0 G m0 h) (by simp) (argsL := []) (rest := []) pd_10 rfl rfl rfl rfl 0 (Nat.le_of_eq rfl) (by decide) (by decide) (ck := 0) rfl (cs := 0) rfl (by decide) (by decide) d1_1 4 rfl ?_
  intro T1 h4 X2 hq3
  subst hq3
  refine g_aloadN X2 d1_4 rfl rfl 5 rfl ?_
  refine g_ifnullYes X2 d1_5 12 (by decide) (by decide) ?_
  refine g_iconst X2 (0 : Int32) d1_12 (by decide) 13 rfl ?_
  refine g_aloadN X2 d1_13 rfl rfl 14 rfl ?_
  refine g_ifnullNo X2 d1_14 17 rfl ?_
  refine g_iconst X2 (1 : Int32) d1_17 (by decide) 18 rfl ?_
  refine g_goto X2 d1_18 22 (by decide) (by decide) ?_
  refine g_aloadN X2 d1_22 rfl rfl 23 rfl ?_
  refine g_ifnullYes X2 d1_23 30 (by decide) (by decide) ?_
  refine g_iconst X2 (0 : Int32) d1_30 (by decide) 31 rfl ?_
  refine g_callSv X2 (hw _ (List.mem_of_getElem? (i := 14) rfl)) (hw _ (List.mem_of_getElem? (i := 15) rfl)) (hw _ (List.mem_of_getElem? (i := 16) rfl)) (hw _ (List.mem_of_getElem? (i := 17) rfl)) (by decide) (c_of010 l Z a0 G b0 b1 b2 b3 b4 b5 bv kv h TT) (by simp) (argsL := [.int (0 : Int32), .int (1 : Int32), .int (0 : Int32)]) (rest := []) pd_7 rfl rfl rfl rfl 0 (Nat.le_of_eq rfl) (by decide) (by decide) (ck := 2) rfl (cs := 7) rfl (by decide) (by decide) d1_31 34 rfl ?_
  intro w7 T5 h9 X6 hq8
  obtain ⟨o10, rfl, E11, A12, F13⟩ := hq8
  refine g_callVp X6 (hw _ (List.mem_of_getElem? (i := 62) rfl)) (hw _ (List.mem_of_getElem? (i := 63) rfl)) (hw _ (List.mem_of_getElem? (i := 65) rfl)) (hw _ (List.mem_of_getElem? (i := 64) rfl)) (hw _ (List.mem_of_getElem? (i := 47) rfl)) (hw _ (List.mem_of_getElem? (i := 66) rfl)) (nfSel (hw _ (List.mem_of_getElem? (i := 65) rfl))) (by decide) A12 (c_ie l Z a0 G o10 b3 h9 F13) (by simp) (argsL := []) (rest := []) pd_0 rfl rfl rfl rfl 0 (Nat.le_of_eq rfl) (by decide) (by decide) (ck := 2) rfl (cs := 7) rfl (by decide) (by decide) d1_34 37 rfl ?_
  intro w16 T14 X15 hq17
  subst hq17
  refine g_ifYes X15 d1_37 (XT.ii_eq_t (by decide)) 50 (by decide) (by decide) ?_
  refine g_aloadN X15 d1_50 rfl rfl 51 rfl ?_
  refine g_aloadN X15 d1_51 rfl rfl 52 rfl ?_
  refine g_putF X15 (Or.inl (hw _ (List.mem_of_getElem? (i := 67) rfl))) (host := "") Via.refl (F0.ext E11) (E.ext E11) (Or.inr ⟨(hw _ (List.mem_of_getElem? (i := 68) rfl)), rfl, rfl⟩) (hw _ (List.mem_of_getElem? (i := 1) rfl)) (ty := (.object "java/lang/Integer")) (by rfl) rfl rfl (by simp) d1_52 55 rfl ?_
  intro T18 h19 X20 W21 F22 E23
  refine g_aloadN X20 d1_55 rfl rfl 56 rfl ?_
  refine g_aloadN X20 d1_56 rfl rfl 57 rfl ?_
  refine g_putF X20 (Or.inl (hw _ (List.mem_of_getElem? (i := 69) rfl))) (host := "") Via.refl ((F1.ext E11).other W21 (Or.inr (slot_ne (Or.inr (hw _ (List.mem_of_getElem? (i := 70) rfl))) (Or.inr (hw _ (List.mem_of_getElem? (i := 68) rfl))) (by decide) (by rfl) (by rfl)))) E23 (Or.inr ⟨(hw _ (List.mem_of_getElem? (i := 70) rfl)), rfl, rfl⟩) (hw _ (List.mem_of_getElem? (i := 1) rfl)) (ty := (.object "java/lang/String")) (by rfl) rfl rfl (by simp) d1_57 60 rfl ?_
  intro T24 h25 X26 W27 F28 E29
  refine g_aloadN X26 d1_60 rfl rfl 61 rfl ?_
  refine g_aloadN X26 d1_61 rfl rfl 62 rfl ?_
  refine g_putF X26 (Or.inl (hw _ (List.mem_of_getElem? (i := 71) rfl))) (host := "") Via.refl (((F2.ext E11).other W21 (Or.inr (slot_ne (Or.inr (hw _ (List.mem_of_getElem? (i := 72) rfl))) (Or.inr (hw _ (List.mem_of_getElem? (i := 68) rfl))) (by decide) (by rfl) (by rfl)))).other W27 (Or.inr (slot_ne (Or.inr (hw _ (List.mem_of_getElem? (i := 72) rfl))) (Or.inr (hw _ (List.mem_of_getElem? (i := 70) rfl))) (by decide) (by rfl) (by rfl)))) E29 (Or.inr ⟨(hw _ (List.mem_of_getElem? (i := 72) rfl)), rfl, rfl⟩) (hw _ (List.mem_of_getElem? (i := 1) rfl)) (ty := (.object "java/lang/String")) (by rfl) rfl rfl (by simp) d1_62 65 rfl ?_
  intro T30 h31 X32 W33 F34 E35
  exact g_ret X32 rfl d1_65 (by decide) (by decide) ⟨rfl, ⟨(((((Keep.refl h [m0]).ext E11).wr W21 (Or.inl (by simp))).wr W27 (Or.inl (by simp))).wr W33 (Or.inl (by simp))), E35, ((F22.other W27 (Or.inr (slot_ne (Or.inr (hw _ (List.mem_of_getElem? (i := 68) rfl))) (Or.inr (hw _ (List.mem_of_getElem? (i := 70) rfl))) (by decide) (by rfl) (by rfl)))).other W33 (Or.inr (slot_ne (Or.inr (hw _ (List.mem_of_getElem? (i := 68) rfl))) (Or.inr (hw _ (List.mem_of_getElem? (i := 72) rfl))) (by decide) (by rfl) (by rfl)))), (F28.other W33 (Or.inr (slot_ne (Or.inr (hw _ (List.mem_of_getElem? (i := 70) rfl))) (Or.inr (hw _ (List.mem_of_getElem? (i := 72) rfl))) (by decide) (by rfl) (by rfl)))), F34⟩⟩
set_option maxRecDepth 65536 in
set_option maxHeartbeats 40000000 in
theorem c_ti010 (l : Launch) (Z : State) (a0 : Array Value) (G : Gl Z a0) (m0 : Addr) (x1 : Addr) (b0 b1 b2 b3 b4 b5 bv : Addr) (kv : ClassId) (h : Heap) (E : Exa Z h m0 "com/example/rowpath/rowpath/core/NodeMatch") (F0 : Fld Z h m0 "com/example/rowpath/rowpath/core/NodeMatch" "level" "Ljava/lang/Integer;" (.null)) (F1 : Fld Z h m0 "com/example/rowpath/rowpath/core/NodeMatch" "type" "Ljava/lang/String;" (.ref x1)) (F2 : Fld Z h m0 "com/example/rowpath/rowpath/core/NodeMatch" "id" "Ljava/lang/String;" (.null)) (TT : Tiers Z b0 b1 b2 b3 b4 b5 bv kv) :
    Ctr l Z EL nw (⟨"com/example/rowpath/rowpath/core/NodeMatch", "tier", "()Lcom/example/rowpath/rowpath/core/NodeMatch$Tier;"⟩ : MethodName) prog_47_method_2_code 1 (Option.some (Jvm.ClassFile.FieldType.object "com/example/rowpath/rowpath/core/NodeMatch$Tier")) ({ frames := 4, cells := 2, slots := 7, locals := 56 } : Room) #[.ref m0] h [] (ValQ fun w h' => w = .ref b3) := by
  obtain ⟨hw, hEL, hSA, ⟨zc, SC, hz⟩, ⟨fm, SF, hfm⟩⟩ := id G
  refine Ctr.enter (own := "com/example/rowpath/rowpath/core/NodeMatch") (nm := "tier") rfl rfl hEL (plainFor_of_name pn_9) #[.val (.ref m0)] (fun m => by first | rfl | (simp [entryFrame, mkF, argsToLocals, Value.category, maxLocals]; done)) ?_
  intro p e s m below meth c T X
  have TT0 := TT
  obtain ⟨S0, E0, F0level, F0type, F0id, S1, E1, F1level, F1type, F1id, S2, E2, F2level, F2type, F2id, S3, E3, F3level, F3type, F3id, S4, E4, F4level, F4type, F4id, S5, E5, F5level, F5type, F5id, SV, EV, AV⟩ := id TT
  refine g_aloadN X d10_0 rfl rfl 1 rfl ?_
  refine g_getF X (Or.inl (hw _ (List.mem_of_getElem? (i := 67) rfl))) (host := "") Via.refl F0 d10_1 4 rfl ?_
  intro T1 X2
  refine g_ifnullYes X2 d10_4 11 (by decide) (by decide) ?_
  refine g_iconst X2 (0 : Int32) d10_11 (by decide) 12 rfl ?_
  refine g_aloadN X2 d10_12 rfl rfl 13 rfl ?_
  refine g_getF X2 (Or.inl (hw _ (List.mem_of_getElem? (i := 69) rfl))) (host := "") Via.refl F1 d10_13 16 rfl ?_
  intro T3 X4
  refine g_ifnullNo X4 d10_16 19 rfl ?_
  refine g_iconst X4 (1 : Int32) d10_19 (by decide) 20 rfl ?_
  refine g_goto X4 d10_20 24 (by decide) (by decide) ?_
  refine g_aloadN X4 d10_24 rfl rfl 25 rfl ?_
  refine g_getF X4 (Or.inl (hw _ (List.mem_of_getElem? (i := 71) rfl))) (host := "") Via.refl F2 d10_25 28 rfl ?_
  intro T5 X6
  refine g_ifnullYes X6 d10_28 35 (by decide) (by decide) ?_
  refine g_iconst X6 (0 : Int32) d10_35 (by decide) 36 rfl ?_
  refine g_callSv X6 (hw _ (List.mem_of_getElem? (i := 14) rfl)) (hw _ (List.mem_of_getElem? (i := 15) rfl)) (hw _ (List.mem_of_getElem? (i := 16) rfl)) (hw _ (List.mem_of_getElem? (i := 17) rfl)) (by decide) (c_of010 l Z a0 G b0 b1 b2 b3 b4 b5 bv kv h TT) (by simp) (argsL := [.int (0 : Int32), .int (1 : Int32), .int (0 : Int32)]) (rest := []) pd_7 rfl rfl rfl rfl 0 (Nat.le_of_eq rfl) (by decide) (by decide) (ck := 2) rfl (cs := 7) rfl (by decide) (by decide) d10_36 39 rfl ?_
  intro w9 T7 h11 X8 hq10
  obtain ⟨o12, rfl, E13, A14, F15⟩ := hq10
  refine g_callVp X8 (hw _ (List.mem_of_getElem? (i := 79) rfl)) (hw _ (List.mem_of_getElem? (i := 80) rfl)) (hw _ (List.mem_of_getElem? (i := 82) rfl)) (hw _ (List.mem_of_getElem? (i := 81) rfl)) (hw _ (List.mem_of_getElem? (i := 47) rfl)) (hw _ (List.mem_of_getElem? (i := 83) rfl)) (nfSel (hw _ (List.mem_of_getElem? (i := 82) rfl))) (by decide) A14 (c_oet l Z a0 G o12 b3 h11 F15) (by simp) (argsL := []) (rest := []) pd_1 rfl rfl rfl rfl 0 (Nat.le_of_eq rfl) (by decide) (by decide) (ck := 2) rfl (cs := 7) rfl (by decide) (by decide) d10_39 42 rfl ?_
  intro w18 T16 X17 hq19
  subst hq19
  refine g_cast X17 (hw _ (List.mem_of_getElem? (i := 84) rfl)) (Ins.self (E3.ext X17.old)) d10_42 45 rfl ?_
  intro T20 X21
  exact g_retA X21 rfl rfl rfl d10_45 (by decide) (by decide) ⟨_, rfl, rfl⟩
set_option maxRecDepth 65536 in
set_option maxHeartbeats 40000000 in
theorem c_nm100 (l : Launch) (Z : State) (a0 : Array Value) (G : Gl Z a0) (m0 : Addr) (x0 : Addr) (b0 b1 b2 b3 b4 b5 bv : Addr) (kv : ClassId) (h : Heap) (E : Exa Z h m0 "com/example/rowpath/rowpath/core/NodeMatch") (F0 : Fld Z h m0 "com/example/rowpath/rowpath/core/NodeMatch" "level" "Ljava/lang/Integer;" .null) (F1 : Fld Z h m0 "com/example/rowpath/rowpath/core/NodeMatch" "type" "Ljava/lang/String;" .null) (F2 : Fld Z h m0 "com/example/rowpath/rowpath/core/NodeMatch" "id" "Ljava/lang/String;" .null) (TT : Tiers Z b0 b1 b2 b3 b4 b5 bv kv) :
    Ctr l Z EL nw (⟨"com/example/rowpath/rowpath/core/NodeMatch", "<init>", "(Ljava/lang/Integer;Ljava/lang/String;Ljava/lang/String;)V"⟩ : MethodName) prog_47_method_1_code 4 (Option.none : Option Jvm.ClassFile.FieldType) ({ frames := 4, cells := 2, slots := 7, locals := 56 } : Room) #[.ref m0, .ref x0, .null, .null] h [m0] (VoidQ fun h' => Keep h h' [m0] ∧ Exa Z h' m0 "com/example/rowpath/rowpath/core/NodeMatch" ∧ Fld Z h' m0 "com/example/rowpath/rowpath/core/NodeMatch" "level" "Ljava/lang/Integer;" (.ref x0) ∧ Fld Z h' m0 "com/example/rowpath/rowpath/core/NodeMatch" "type" "Ljava/lang/String;" (.null) ∧ Fld Z h' m0 "com/example/rowpath/rowpath/core/NodeMatch" "id" "Ljava/lang/String;" (.null)) := by
  obtain ⟨hw, hEL, hSA, ⟨zc, SC, hz⟩, ⟨fm, SF, hfm⟩⟩ := id G
  refine Ctr.enter (own := "com/example/rowpath/rowpath/core/NodeMatch") (nm := "<init>") rfl rfl hEL (plainFor_of_name pn_9) #[.val (.ref m0), .val (.ref x0), .val (.null), .val (.null)] (fun m => by first | rfl | (simp [entryFrame, mkF, argsToLocals, Value.category, maxLocals]; done)) ?_
  intro p e s m below meth c T X
  refine g_aloadN X d1_0 rfl rfl 1 rfl ?_
  refine g_callIn X rfl (hw _ (List.mem_of_getElem? (i := 6) rfl)) (hw _ (List.mem_of_getElem? (i := 7) rfl)) (hw _ (List.mem_of_getElem? (i := 9) rfl)) (hw _ (List.mem_of_getElem? (i := 10) rfl)) (by decide) (c_rec l Z a0 G m0 h) (by simp) (argsL := []) (rest := []) pd_10 rfl rfl rfl rfl 0 (Nat.le_of_eq rfl) (by decide) (by decide) (ck := 0) rfl (cs := 0) rfl (by decide) (by decide) d1_1 4 rfl ?_
  intro T1 h4 X2 hq3
  subst hq3
  refine g_aloadN X2 d1_4 rfl rfl 5 rfl ?_
  refine g_ifnullNo X2 d1_5 8 rfl ?_
  refine g_iconst X2 (1 : Int32) d1_8 (by decide) 9 rfl ?_
  refine g_goto X2 d1_9 13 (by decide) (by decide) ?_
  refine g_aloadN X2 d1_13 rfl rfl 14 rfl ?_
  refine g_ifnullYes X2 d1_14 21 (by decide) (by decide) ?_
  refine g_iconst X2 (0 : Int32) d1_21 (by decide) 22 rfl ?_
  refine g_aloadN X2 d1_22 rfl rfl 23 rfl ?_
  refine g_ifnullYes X2 d1_23 30 (by decide) (by decide) ?_
  refine g_iconst X2 (0 : Int32) d1_30 (by decide) 31 rfl ?_
  refine g_callSv X2 (hw _ (List.mem_of_getElem? (i := 14) rfl)) (hw _ (List.mem_of_getElem? (i := 15) rfl)) (hw _ (List.mem_of_getElem? (i := 16) rfl)) (hw _ (List.mem_of_getElem? (i := 17) rfl)) (by decide) (c_of100 l Z a0 G b0 b1 b2 b3 b4 b5 bv kv h TT) (by simp) (argsL := [.int (1 : Int32), .int (0 : Int32), .int (0 : Int32)]) (rest := []) pd_7 rfl rfl rfl rfl 0 (Nat.le_of_eq rfl) (by decide) (by decide) (ck := 2) rfl (cs := 7) rfl (by decide) (by decide) d1_31 34 rfl ?_
  intro w7 T5 h9 X6 hq8
  obtain ⟨o10, rfl, E11, A12, F13⟩ := hq8
  refine g_callVp X6 (hw _ (List.mem_of_getElem? (i := 62) rfl)) (hw _ (List.mem_of_getElem? (i := 63) rfl)) (hw _ (List.mem_of_getElem? (i := 65) rfl)) (hw _ (List.mem_of_getElem? (i := 64) rfl)) (hw _ (List.mem_of_getElem? (i := 47) rfl)) (hw _ (List.mem_of_getElem? (i := 66) rfl)) (nfSel (hw _ (List.mem_of_getElem? (i := 65) rfl))) (by decide) A12 (c_ie l Z a0 G o10 b4 h9 F13) (by simp) (argsL := []) (rest := []) pd_0 rfl rfl rfl rfl 0 (Nat.le_of_eq rfl) (by decide) (by decide) (ck := 2) rfl (cs := 7) rfl (by decide) (by decide) d1_34 37 rfl ?_
  intro w16 T14 X15 hq17
  subst hq17
  refine g_ifYes X15 d1_37 (XT.ii_eq_t (by decide)) 50 (by decide) (by decide) ?_
  refine g_aloadN X15 d1_50 rfl rfl 51 rfl ?_
  refine g_aloadN X15 d1_51 rfl rfl 52 rfl ?_
  refine g_putF X15 (Or.inl (hw _ (List.mem_of_getElem? (i := 67) rfl))) (host := "") Via.refl (F0.ext E11) (E.ext E11) (Or.inr ⟨(hw _ (List.mem_of_getElem? (i := 68) rfl)), rfl, rfl⟩) (hw _ (List.mem_of_getElem? (i := 1) rfl)) (ty := (.object "java/lang/Integer")) (by rfl) rfl rfl (by simp) d1_52 55 rfl ?_
  intro T18 h19 X20 W21 F22 E23
  refine g_aloadN X20 d1_55 rfl rfl 56 rfl ?_
  refine g_aloadN X20 d1_56 rfl rfl 57 rfl ?_
  refine g_putF X20 (Or.inl (hw _ (List.mem_of_getElem? (i := 69) rfl))) (host := "") Via.refl ((F1.ext E11).other W21 (Or.inr (slot_ne (Or.inr (hw _ (List.mem_of_getElem? (i := 70) rfl))) (Or.inr (hw _ (List.mem_of_getElem? (i := 68) rfl))) (by decide) (by rfl) (by rfl)))) E23 (Or.inr ⟨(hw _ (List.mem_of_getElem? (i := 70) rfl)), rfl, rfl⟩) (hw _ (List.mem_of_getElem? (i := 1) rfl)) (ty := (.object "java/lang/String")) (by rfl) rfl rfl (by simp) d1_57 60 rfl ?_
  intro T24 h25 X26 W27 F28 E29
  refine g_aloadN X26 d1_60 rfl rfl 61 rfl ?_
  refine g_aloadN X26 d1_61 rfl rfl 62 rfl ?_
  refine g_putF X26 (Or.inl (hw _ (List.mem_of_getElem? (i := 71) rfl))) (host := "") Via.refl (((F2.ext E11).other W21 (Or.inr (slot_ne (Or.inr (hw _ (List.mem_of_getElem? (i := 72) rfl))) (Or.inr (hw _ (List.mem_of_getElem? (i := 68) rfl))) (by decide) (by rfl) (by rfl)))).other W27 (Or.inr (slot_ne (Or.inr (hw _ (List.mem_of_getElem? (i := 72) rfl))) (Or.inr (hw _ (List.mem_of_getElem? (i := 70) rfl))) (by decide) (by rfl) (by rfl)))) E29 (Or.inr ⟨(hw _ (List.mem_of_getElem? (i := 72) rfl)), rfl, rfl⟩) (hw _ (List.mem_of_getElem? (i := 1) rfl)) (ty := (.object "java/lang/String")) (by rfl) rfl rfl (by simp) d1_62 65 rfl ?_
  intro T30 h31 X32 W33 F34 E35
  exact g_ret X32 rfl d1_65 (by decide) (by decide) ⟨rfl, ⟨(((((Keep.refl h [m0]).ext E11).wr W21 (Or.inl (by simp))).wr W27 (Or.inl (by simp))).wr W33 (Or.inl (by simp))), E35, ((F22.other W27 (Or.inr (slot_ne (Or.inr (hw _ (List.mem_of_getElem? (i := 68) rfl))) (Or.inr (hw _ (List.mem_of_getElem? (i := 70) rfl))) (by decide) (by rfl) (by rfl)))).other W33 (Or.inr (slot_ne (Or.inr (hw _ (List.mem_of_getElem? (i := 68) rfl))) (Or.inr (hw _ (List.mem_of_getElem? (i := 72) rfl))) (by decide) (by rfl) (by rfl)))), (F28.other W33 (Or.inr (slot_ne (Or.inr (hw _ (List.mem_of_getElem? (i := 70) rfl))) (Or.inr (hw _ (List.mem_of_getElem? (i := 72) rfl))) (by decide) (by rfl) (by rfl)))), F34⟩⟩
set_option maxRecDepth 65536 in
set_option maxHeartbeats 40000000 in
theorem c_ti100 (l : Launch) (Z : State) (a0 : Array Value) (G : Gl Z a0) (m0 : Addr) (x0 : Addr) (b0 b1 b2 b3 b4 b5 bv : Addr) (kv : ClassId) (h : Heap) (E : Exa Z h m0 "com/example/rowpath/rowpath/core/NodeMatch") (F0 : Fld Z h m0 "com/example/rowpath/rowpath/core/NodeMatch" "level" "Ljava/lang/Integer;" (.ref x0)) (F1 : Fld Z h m0 "com/example/rowpath/rowpath/core/NodeMatch" "type" "Ljava/lang/String;" (.null)) (F2 : Fld Z h m0 "com/example/rowpath/rowpath/core/NodeMatch" "id" "Ljava/lang/String;" (.null)) (TT : Tiers Z b0 b1 b2 b3 b4 b5 bv kv) :
    Ctr l Z EL nw (⟨"com/example/rowpath/rowpath/core/NodeMatch", "tier", "()Lcom/example/rowpath/rowpath/core/NodeMatch$Tier;"⟩ : MethodName) prog_47_method_2_code 1 (Option.some (Jvm.ClassFile.FieldType.object "com/example/rowpath/rowpath/core/NodeMatch$Tier")) ({ frames := 4, cells := 2, slots := 7, locals := 56 } : Room) #[.ref m0] h [] (ValQ fun w h' => w = .ref b4) := by
  obtain ⟨hw, hEL, hSA, ⟨zc, SC, hz⟩, ⟨fm, SF, hfm⟩⟩ := id G
  refine Ctr.enter (own := "com/example/rowpath/rowpath/core/NodeMatch") (nm := "tier") rfl rfl hEL (plainFor_of_name pn_9) #[.val (.ref m0)] (fun m => by first | rfl | (simp [entryFrame, mkF, argsToLocals, Value.category, maxLocals]; done)) ?_
  intro p e s m below meth c T X
  have TT0 := TT
  obtain ⟨S0, E0, F0level, F0type, F0id, S1, E1, F1level, F1type, F1id, S2, E2, F2level, F2type, F2id, S3, E3, F3level, F3type, F3id, S4, E4, F4level, F4type, F4id, S5, E5, F5level, F5type, F5id, SV, EV, AV⟩ := id TT
  refine g_aloadN X d10_0 rfl rfl 1 rfl ?_
  refine g_getF X (Or.inl (hw _ (List.mem_of_getElem? (i := 67) rfl))) (host := "") Via.refl F0 d10_1 4 rfl ?_
  intro T1 X2
  refine g_ifnullNo X2 d10_4 7 rfl ?_
  refine g_iconst X2 (1 : Int32) d10_7 (by decide) 8 rfl ?_
  refine g_goto X2 d10_8 12 (by decide) (by decide) ?_
  refine g_aloadN X2 d10_12 rfl rfl 13 rfl ?_
  refine g_getF X2 (Or.inl (hw _ (List.mem_of_getElem? (i := 69) rfl))) (host := "") Via.refl F1 d10_13 16 rfl ?_
  intro T3 X4
  refine g_ifnullYes X4 d10_16 23 (by decide) (by decide) ?_
  refine g_iconst X4 (0 : Int32) d10_23 (by decide) 24 rfl ?_
  refine g_aloadN X4 d10_24 rfl rfl 25 rfl ?_
  refine g_getF X4 (Or.inl (hw _ (List.mem_of_getElem? (i := 71) rfl))) (host := "") Via.refl F2 d10_25 28 rfl ?_
  intro T5 X6
  refine g_ifnullYes X6 d10_28 35 (by decide) (by decide) ?_
  refine g_iconst X6 (0 : Int32) d10_35 (by decide) 36 rfl ?_
  refine g_callSv X6 (hw _ (List.mem_of_getElem? (i := 14) rfl)) (hw _ (List.mem_of_getElem? (i := 15) rfl)) (hw _ (List.mem_of_getElem? (i := 16) rfl)) (hw _ (List.mem_of_getElem? (i := 17) rfl)) (by decide) (c_of100 l Z a0 G b0 b1 b2 b3 b4 b5 bv kv h TT) (by simp) (argsL := [.int (1 : Int32), .int (0 : Int32), .int (0 : Int32)]) (rest := []) pd_7 rfl rfl rfl rfl 0 (Nat.le_of_eq rfl) (by decide) (by decide) (ck := 2) rfl (cs := 7) rfl (by decide) (by decide) d10_36 39 rfl ?_
  intro w9 T7 h11 X8 hq10
  obtain ⟨o12, rfl, E13, A14, F15⟩ := hq10
  refine g_callVp X8 (hw _ (List.mem_of_getElem? (i := 79) rfl)) (hw _ (List.mem_of_getElem? (i := 80) rfl)) (hw _ (List.mem_of_getElem? (i := 82) rfl)) (hw _ (List.mem_of_getElem? (i := 81) rfl)) (hw _ (List.mem_of_getElem? (i := 47) rfl)) (hw _ (List.mem_of_getElem? (i := 83) rfl)) (nfSel (hw _ (List.mem_of_getElem? (i := 82) rfl))) (by decide) A14 (c_oet l Z a0 G o12 b4 h11 F15) (by simp) (argsL := []) (rest := []) pd_1 rfl rfl rfl rfl 0 (Nat.le_of_eq rfl) (by decide) (by decide) (ck := 2) rfl (cs := 7) rfl (by decide) (by decide) d10_39 42 rfl ?_
  intro w18 T16 X17 hq19
  subst hq19
  refine g_cast X17 (hw _ (List.mem_of_getElem? (i := 84) rfl)) (Ins.self (E4.ext X17.old)) d10_42 45 rfl ?_
  intro T20 X21
  exact g_retA X21 rfl rfl rfl d10_45 (by decide) (by decide) ⟨_, rfl, rfl⟩
set_option maxRecDepth 65536 in
set_option maxHeartbeats 40000000 in
theorem c_nm000 (l : Launch) (Z : State) (a0 : Array Value) (G : Gl Z a0) (m0 : Addr)  (b0 b1 b2 b3 b4 b5 bv : Addr) (kv : ClassId) (h : Heap) (E : Exa Z h m0 "com/example/rowpath/rowpath/core/NodeMatch") (F0 : Fld Z h m0 "com/example/rowpath/rowpath/core/NodeMatch" "level" "Ljava/lang/Integer;" .null) (F1 : Fld Z h m0 "com/example/rowpath/rowpath/core/NodeMatch" "type" "Ljava/lang/String;" .null) (F2 : Fld Z h m0 "com/example/rowpath/rowpath/core/NodeMatch" "id" "Ljava/lang/String;" .null) (TT : Tiers Z b0 b1 b2 b3 b4 b5 bv kv) :
    Ctr l Z EL nw (⟨"com/example/rowpath/rowpath/core/NodeMatch", "<init>", "(Ljava/lang/Integer;Ljava/lang/String;Ljava/lang/String;)V"⟩ : MethodName) prog_47_method_1_code 4 (Option.none : Option Jvm.ClassFile.FieldType) ({ frames := 4, cells := 2, slots := 7, locals := 56 } : Room) #[.ref m0, .null, .null, .null] h [m0] (VoidQ fun h' => Keep h h' [m0] ∧ Exa Z h' m0 "com/example/rowpath/rowpath/core/NodeMatch" ∧ Fld Z h' m0 "com/example/rowpath/rowpath/core/NodeMatch" "level" "Ljava/lang/Integer;" (.null) ∧ Fld Z h' m0 "com/example/rowpath/rowpath/core/NodeMatch" "type" "Ljava/lang/String;" (.null) ∧ Fld Z h' m0 "com/example/rowpath/rowpath/core/NodeMatch" "id" "Ljava/lang/String;" (.null)) := by
  obtain ⟨hw, hEL, hSA, ⟨zc, SC, hz⟩, ⟨fm, SF, hfm⟩⟩ := id G
  refine Ctr.enter (own := "com/example/rowpath/rowpath/core/NodeMatch") (nm := "<init>") rfl rfl hEL (plainFor_of_name pn_9) #[.val (.ref m0), .val (.null), .val (.null), .val (.null)] (fun m => by first | rfl | (simp [entryFrame, mkF, argsToLocals, Value.category, maxLocals]; done)) ?_
  intro p e s m below meth c T X
  refine g_aloadN X d1_0 rfl rfl 1 rfl ?_
  refine g_callIn X rfl (hw _ (List.mem_of_getElem? (i := 6) rfl)) (hw _ (List.mem_of_getElem? (i := 7) rfl)) (hw _ (List.mem_of_getElem? (i := 9) rfl)) (hw _ (List.mem_of_getElem? (i := 10) rfl)) (by decide) (c_rec l Z a0 G m0 h) (by simp) (argsL := []) (rest := []) pd_10 rfl rfl rfl rfl 0 (Nat.le_of_eq rfl) (by decide) (by decide) (ck := 0) rfl (cs := 0) rfl (by decide) (by decide) d1_1 4 rfl ?_
  intro T1 h4 X2 hq3
  subst hq3
  refine g_aloadN X2 d1_4 rfl rfl 5 rfl ?_
  refine g_ifnullYes X2 d1_5 12 (by decide) (by decide) ?_
  refine g_iconst X2 (0 : Int32) d1_12 (by decide) 13 rfl ?_
  refine g_aloadN X2 d1_13 rfl rfl 14 rfl ?_
  refine g_ifnullYes X2 d1_14 21 (by decide) (by decide) ?_
  refine g_iconst X2 (0 : Int32) d1_21 (by decide) 22 rfl ?_
  refine g_aloadN X2 d1_22 rfl rfl 23 rfl ?_
  refine g_ifnullYes X2 d1_23 30 (by decide) (by decide) ?_
  refine g_iconst X2 (0 : Int32) d1_30 (by decide) 31 rfl ?_
  refine g_callSv X2 (hw _ (List.mem_of_getElem? (i := 14) rfl)) (hw _ (List.mem_of_getElem? (i := 15) rfl)) (hw _ (List.mem_of_getElem? (i := 16) rfl)) (hw _ (List.mem_of_getElem? (i := 17) rfl)) (by decide) (c_of000 l Z a0 G b0 b1 b2 b3 b4 b5 bv kv h TT) (by simp) (argsL := [.int (0 : Int32), .int (0 : Int32), .int (0 : Int32)]) (rest := []) pd_7 rfl rfl rfl rfl 0 (Nat.le_of_eq rfl) (by decide) (by decide) (ck := 2) rfl (cs := 7) rfl (by decide) (by decide) d1_31 34 rfl ?_
  intro w7 T5 h9 X6 hq8
  obtain ⟨o10, rfl, E11, A12, F13⟩ := hq8
  refine g_callVp X6 (hw _ (List.mem_of_getElem? (i := 62) rfl)) (hw _ (List.mem_of_getElem? (i := 63) rfl)) (hw _ (List.mem_of_getElem? (i := 65) rfl)) (hw _ (List.mem_of_getElem? (i := 64) rfl)) (hw _ (List.mem_of_getElem? (i := 47) rfl)) (hw _ (List.mem_of_getElem? (i := 66) rfl)) (nfSel (hw _ (List.mem_of_getElem? (i := 65) rfl))) (by decide) A12 (c_ie l Z a0 G o10 b5 h9 F13) (by simp) (argsL := []) (rest := []) pd_0 rfl rfl rfl rfl 0 (Nat.le_of_eq rfl) (by decide) (by decide) (ck := 2) rfl (cs := 7) rfl (by decide) (by decide) d1_34 37 rfl ?_
  intro w16 T14 X15 hq17
  subst hq17
  refine g_ifYes X15 d1_37 (XT.ii_eq_t (by decide)) 50 (by decide) (by decide) ?_
  refine g_aloadN X15 d1_50 rfl rfl 51 rfl ?_
  refine g_aloadN X15 d1_51 rfl rfl 52 rfl ?_
  refine g_putF X15 (Or.inl (hw _ (List.mem_of_getElem? (i := 67) rfl))) (host := "") Via.refl (F0.ext E11) (E.ext E11) (Or.inr ⟨(hw _ (List.mem_of_getElem? (i := 68) rfl)), rfl, rfl⟩) (hw _ (List.mem_of_getElem? (i := 1) rfl)) (ty := (.object "java/lang/Integer")) (by rfl) rfl rfl (by simp) d1_52 55 rfl ?_
  intro T18 h19 X20 W21 F22 E23
  refine g_aloadN X20 d1_55 rfl rfl 56 rfl ?_
  refine g_aloadN X20 d1_56 rfl rfl 57 rfl ?_
  refine g_putF X20 (Or.inl (hw _ (List.mem_of_getElem? (i := 69) rfl))) (host := "") Via.refl ((F1.ext E11).other W21 (Or.inr (slot_ne (Or.inr (hw _ (List.mem_of_getElem? (i := 70) rfl))) (Or.inr (hw _ (List.mem_of_getElem? (i := 68) rfl))) (by decide) (by rfl) (by rfl)))) E23 (Or.inr ⟨(hw _ (List.mem_of_getElem? (i := 70) rfl)), rfl, rfl⟩) (hw _ (List.mem_of_getElem? (i := 1) rfl)) (ty := (.object "java/lang/String")) (by rfl) rfl rfl (by simp) d1_57 60 rfl ?_
  intro T24 h25 X26 W27 F28 E29
  refine g_aloadN X26 d1_60 rfl rfl 61 rfl ?_
  refine g_aloadN X26 d1_61 rfl rfl 62 rfl ?_
  refine g_putF X26 (Or.inl (hw _ (List.mem_of_getElem? (i := 71) rfl))) (host := "") Via.refl (((F2.ext E11).other W21 (Or.inr (slot_ne (Or.inr (hw _ (List.mem_of_getElem? (i := 72) rfl))) (Or.inr (hw _ (List.mem_of_getElem? (i := 68) rfl))) (by decide) (by rfl) (by rfl)))).other W27 (Or.inr (slot_ne (Or.inr (hw _ (List.mem_of_getElem? (i := 72) rfl))) (Or.inr (hw _ (List.mem_of_getElem? (i := 70) rfl))) (by decide) (by rfl) (by rfl)))) E29 (Or.inr ⟨(hw _ (List.mem_of_getElem? (i := 72) rfl)), rfl, rfl⟩) (hw _ (List.mem_of_getElem? (i := 1) rfl)) (ty := (.object "java/lang/String")) (by rfl) rfl rfl (by simp) d1_62 65 rfl ?_
  intro T30 h31 X32 W33 F34 E35
  exact g_ret X32 rfl d1_65 (by decide) (by decide) ⟨rfl, ⟨(((((Keep.refl h [m0]).ext E11).wr W21 (Or.inl (by simp))).wr W27 (Or.inl (by simp))).wr W33 (Or.inl (by simp))), E35, ((F22.other W27 (Or.inr (slot_ne (Or.inr (hw _ (List.mem_of_getElem? (i := 68) rfl))) (Or.inr (hw _ (List.mem_of_getElem? (i := 70) rfl))) (by decide) (by rfl) (by rfl)))).other W33 (Or.inr (slot_ne (Or.inr (hw _ (List.mem_of_getElem? (i := 68) rfl))) (Or.inr (hw _ (List.mem_of_getElem? (i := 72) rfl))) (by decide) (by rfl) (by rfl)))), (F28.other W33 (Or.inr (slot_ne (Or.inr (hw _ (List.mem_of_getElem? (i := 70) rfl))) (Or.inr (hw _ (List.mem_of_getElem? (i := 72) rfl))) (by decide) (by rfl) (by rfl)))), F34⟩⟩
set_option maxRecDepth 65536 in
set_option maxHeartbeats 40000000 in
theorem c_ti000 (l : Launch) (Z : State) (a0 : Array Value) (G : Gl Z a0) (m0 : Addr)  (b0 b1 b2 b3 b4 b5 bv : Addr) (kv : ClassId) (h : Heap) (E : Exa Z h m0 "com/example/rowpath/rowpath/core/NodeMatch") (F0 : Fld Z h m0 "com/example/rowpath/rowpath/core/NodeMatch" "level" "Ljava/lang/Integer;" (.null)) (F1 : Fld Z h m0 "com/example/rowpath/rowpath/core/NodeMatch" "type" "Ljava/lang/String;" (.null)) (F2 : Fld Z h m0 "com/example/rowpath/rowpath/core/NodeMatch" "id" "Ljava/lang/String;" (.null)) (TT : Tiers Z b0 b1 b2 b3 b4 b5 bv kv) :
    Ctr l Z EL nw (⟨"com/example/rowpath/rowpath/core/NodeMatch", "tier", "()Lcom/example/rowpath/rowpath/core/NodeMatch$Tier;"⟩ : MethodName) prog_47_method_2_code 1 (Option.some (Jvm.ClassFile.FieldType.object "com/example/rowpath/rowpath/core/NodeMatch$Tier")) ({ frames := 4, cells := 2, slots := 7, locals := 56 } : Room) #[.ref m0] h [] (ValQ fun w h' => w = .ref b5) := by
  obtain ⟨hw, hEL, hSA, ⟨zc, SC, hz⟩, ⟨fm, SF, hfm⟩⟩ := id G
  refine Ctr.enter (own := "com/example/rowpath/rowpath/core/NodeMatch") (nm := "tier") rfl rfl hEL (plainFor_of_name pn_9) #[.val (.ref m0)] (fun m => by first | rfl | (simp [entryFrame, mkF, argsToLocals, Value.category, maxLocals]; done)) ?_
  intro p e s m below meth c T X
  have TT0 := TT
  obtain ⟨S0, E0, F0level, F0type, F0id, S1, E1, F1level, F1type, F1id, S2, E2, F2level, F2type, F2id, S3, E3, F3level, F3type, F3id, S4, E4, F4level, F4type, F4id, S5, E5, F5level, F5type, F5id, SV, EV, AV⟩ := id TT
  refine g_aloadN X d10_0 rfl rfl 1 rfl ?_
  refine g_getF X (Or.inl (hw _ (List.mem_of_getElem? (i := 67) rfl))) (host := "") Via.refl F0 d10_1 4 rfl ?_
  intro T1 X2
  refine g_ifnullYes X2 d10_4 11 (by decide) (by decide) ?_
  refine g_iconst X2 (0 : Int32) d10_11 (by decide) 12 rfl ?_
  refine g_aloadN X2 d10_12 rfl rfl 13 rfl ?_
  refine g_getF X2 (Or.inl (hw _ (List.mem_of_getElem? (i := 69) rfl))) (host := "") Via.refl F1 d10_13 16 rfl ?_
  intro T3 X4
  refine g_ifnullYes X4 d10_16 23 (by decide) (by decide) ?_
  refine g_iconst X4 (0 : Int32) d10_23 (by decide) 24 rfl ?_
  refine g_aloadN X4 d10_24 rfl rfl 25 rfl ?_
  refine g_getF X4 (Or.inl (hw _ (List.mem_of_getElem? (i := 71) rfl))) (host := "") Via.refl F2 d10_25 28 rfl ?_
  intro T5 X6
  refine g_ifnullYes X6 d10_28 35 (by decide) (by decide) ?_
  refine g_iconst X6 (0 : Int32) d10_35 (by decide) 36 rfl ?_
  refine g_callSv X6 (hw _ (List.mem_of_getElem? (i := 14) rfl)) (hw _ (List.mem_of_getElem? (i := 15) rfl)) (hw _ (List.mem_of_getElem? (i := 16) rfl)) (hw _ (List.mem_of_getElem? (i := 17) rfl)) (by decide) (c_of000 l Z a0 G b0 b1 b2 b3 b4 b5 bv kv h TT) (by simp) (argsL := [.int (0 : Int32), .int (0 : Int32), .int (0 : Int32)]) (rest := []) pd_7 rfl rfl rfl rfl 0 (Nat.le_of_eq rfl) (by decide) (by decide) (ck := 2) rfl (cs := 7) rfl (by decide) (by decide) d10_36 39 rfl ?_
  intro w9 T7 h11 X8 hq10
  obtain ⟨o12, rfl, E13, A14, F15⟩ := hq10
  refine g_callVp X8 (hw _ (List.mem_of_getElem? (i := 79) rfl)) (hw _ (List.mem_of_getElem? (i := 80) rfl)) (hw _ (List.mem_of_getElem? (i := 82) rfl)) (hw _ (List.mem_of_getElem? (i := 81) rfl)) (hw _ (List.mem_of_getElem? (i := 47) rfl)) (hw _ (List.mem_of_getElem? (i := 83) rfl)) (nfSel (hw _ (List.mem_of_getElem? (i := 82) rfl))) (by decide) A14 (c_oet l Z a0 G o12 b5 h11 F15) (by simp) (argsL := []) (rest := []) pd_1 rfl rfl rfl rfl 0 (Nat.le_of_eq rfl) (by decide) (by decide) (ck := 2) rfl (cs := 7) rfl (by decide) (by decide) d10_39 42 rfl ?_
  intro w18 T16 X17 hq19
  subst hq19
  refine g_cast X17 (hw _ (List.mem_of_getElem? (i := 84) rfl)) (Ins.self (E5.ext X17.old)) d10_42 45 rfl ?_
  intro T20 X21
  exact g_retA X21 rfl rfl rfl d10_45 (by decide) (by decide) ⟨_, rfl, rfl⟩
set_option maxRecDepth 65536 in
set_option maxHeartbeats 40000000 in
theorem c_law (l : Launch) (Z : State) (a0 : Array Value) (G : Gl Z a0) (k0 k1 k2 k3 : Int32) (ca : Addr) (cc : Cell) (b0 b1 b2 b3 b4 b5 bv : Addr) (kv : ClassId) (h : Heap) (SH : Sta Z Z.heap "java/lang/Integer$IntegerCache" "high" "I" (.int (127 : Int32))) (SCA : Sta Z Z.heap "java/lang/Integer$IntegerCache" "cache" "[Ljava/lang/Integer;" (.ref ca)) (BX : Bxs Z ca cc "java/lang/Integer" "I" (256 : Int32) (fun j => .int (j - 128))) (TT : Tiers Z b0 b1 b2 b3 b4 b5 bv kv) :
    Ctr l Z EL nw x code maxLocals ret room_1 #[.int k0, .int k1, .int k2, .int k3] h [] (fun v _ => v = some (.int 1)) := by
  obtain ⟨hw, hEL, hSA, ⟨zc, SC, hz⟩, ⟨fm, SF, hfm⟩⟩ := id G
  refine Ctr.enter (own := "com/example/rowpath/rowpath/core/NodeMatchTierPinLaw") (nm := "law") rfl rfl hEL (plainFor_of_name pn_8) #[.val (.int k0), .val (.int k1), .val (.int k2), .val (.int k3), .unset, .unset, .unset, .unset, .unset, .unset, .unset, .unset] (fun m => by first | rfl | (simp [entryFrame, mkF, argsToLocals, Value.category, maxLocals]; done)) ?_
  intro p e s m below meth c T X
  have TT0 := TT
  obtain ⟨S0, E0, F0level, F0type, F0id, S1, E1, F1level, F1type, F1id, S2, E2, F2level, F2type, F2id, S3, E3, F3level, F3type, F3id, S4, E4, F4level, F4type, F4id, S5, E5, F5level, F5type, F5id, SV, EV, AV⟩ := id TT
  refine g_iloadN X at_0 rfl 1 rfl ?_
  refine g_iconst X (1 : Int32) at_1 (by decide) 2 rfl ?_
  refine g_iand X at_2 _ rfl 3 rfl ?_
  by_cases hb3 : (k0 &&& (1 : Int32)) = (0 : Int32)
  · refine g_ifYes X at_3 (XT.ii_eq_t hb3) 10 (by decide) (by decide) ?_
    refine g_iconst X (0 : Int32) at_10 (by decide) 11 rfl ?_
    refine g_istore X at_11 (Ls' := #[.val (.int k0), .val (.int k1), .val (.int k2), .val (.int k3), .val (.int (0 : Int32)), .unset, .unset, .unset, .unset, .unset, .unset, .unset]) rfl 13 rfl ?_
    refine g_iloadN X at_13 rfl 14 rfl ?_
    refine g_iconst X (2 : Int32) at_14 (by decide) 15 rfl ?_
    refine g_iand X at_15 _ rfl 16 rfl ?_
    by_cases hb16 : (k0 &&& (2 : Int32)) = (0 : Int32)
    · refine g_ifYes X at_16 (XT.ii_eq_t hb16) 23 (by decide) (by decide) ?_
      refine g_iconst X (0 : Int32) at_23 (by decide) 24 rfl ?_
      refine g_istore X at_24 (Ls' := #[.val (.int k0), .val (.int k1), .val (.int k2), .val (.int k3), .val (.int (0 : Int32)), .val (.int (0 : Int32)), .unset, .unset, .unset, .unset, .unset, .unset]) rfl 26 rfl ?_
      refine g_iloadN X at_26 rfl 27 rfl ?_
      refine g_iconst X (4 : Int32) at_27 (by decide) 28 rfl ?_
      refine g_iand X at_28 _ rfl 29 rfl ?_
      by_cases hb29 : (k0 &&& (4 : Int32)) = (0 : Int32)
      · refine g_ifYes X at_29 (XT.ii_eq_t hb29) 36 (by decide) (by decide) ?_
        refine g_iconst X (0 : Int32) at_36 (by decide) 37 rfl ?_
        refine g_istore X at_37 (Ls' := #[.val (.int k0), .val (.int k1), .val (.int k2), .val (.int k3), .val (.int (0 : Int32)), .val (.int (0 : Int32)), .val (.int (0 : Int32)), .unset, .unset, .unset, .unset, .unset]) rfl 39 rfl ?_
        refine g_iload X at_39 rfl 41 rfl ?_
        refine g_ifYes X at_41 (XT.ii_eq_t (by decide)) 52 (by decide) (by decide) ?_
        refine g_iload X at_52 rfl 54 rfl ?_
        refine g_ifYes X at_54 (XT.ii_eq_t (by decide)) 64 (by decide) (by decide) ?_
        refine g_aconstNull X at_64 65 rfl ?_
        refine g_astore X at_65 rfl (Ls' := #[.val (.int k0), .val (.int k1), .val (.int k2), .val (.int k3), .val (.int (0 : Int32)), .val (.int (0 : Int32)), .val (.int (0 : Int32)), .val (.null), .unset, .unset, .unset, .unset]) rfl 67 rfl ?_
        refine g_iload X at_67 rfl 69 rfl ?_
        refine g_ifYes X at_69 (XT.ii_eq_t (by decide)) 79 (by decide) (by decide) ?_
        refine g_aconstNull X at_79 80 rfl ?_
        refine g_astore X at_80 rfl (Ls' := #[.val (.int k0), .val (.int k1), .val (.int k2), .val (.int k3), .val (.int (0 : Int32)), .val (.int (0 : Int32)), .val (.int (0 : Int32)), .val (.null), .val (.null), .unset, .unset, .unset]) rfl 82 rfl ?_
        refine g_iload X at_82 rfl 84 rfl ?_
        refine g_ifYes X at_84 (XT.ii_eq_t (by decide)) 94 (by decide) (by decide) ?_
        refine g_aconstNull X at_94 95 rfl ?_
        refine g_astore X at_95 rfl (Ls' := #[.val (.int k0), .val (.int k1), .val (.int k2), .val (.int k3), .val (.int (0 : Int32)), .val (.int (0 : Int32)), .val (.int (0 : Int32)), .val (.null), .val (.null), .val (.null), .unset, .unset]) rfl 97 rfl ?_
        refine g_new X (hw _ (List.mem_of_getElem? (i := 0) rfl)) (hw _ (List.mem_of_getElem? (i := 1) rfl)) (hw _ (List.mem_of_getElem? (i := 2) rfl)) at_97 (ck := 1) rfl (cs := 3) rfl (by decide) (by decide) 100 rfl ?_
        intro a1 T2 h3 ea4 X5 E6 A7 D8
        have ne_b0_a1 : b0 ≠ a1 := by rw [ea4]; exact Nat.ne_of_lt (E0.ext X.old).lt
        have ne_b1_a1 : b1 ≠ a1 := by rw [ea4]; exact Nat.ne_of_lt (E1.ext X.old).lt
        have ne_b2_a1 : b2 ≠ a1 := by rw [ea4]; exact Nat.ne_of_lt (E2.ext X.old).lt
        have ne_b3_a1 : b3 ≠ a1 := by rw [ea4]; exact Nat.ne_of_lt (E3.ext X.old).lt
        have ne_b4_a1 : b4 ≠ a1 := by rw [ea4]; exact Nat.ne_of_lt (E4.ext X.old).lt
        have ne_b5_a1 : b5 ≠ a1 := by rw [ea4]; exact Nat.ne_of_lt (E5.ext X.old).lt
        have ne_bv_a1 : bv ≠ a1 := by rw [ea4]; exact Nat.ne_of_lt (EV.ext X.old).lt
        have F9 : Fld Z h3 a1 "com/example/rowpath/rowpath/core/NodeMatch" "level" "Ljava/lang/Integer;" (.null) := D8 (Or.inr (hw _ (List.mem_of_getElem? (i := 68) rfl))) (ty := (.object "java/lang/Integer")) (by rfl)
        have F10 : Fld Z h3 a1 "com/example/rowpath/rowpath/core/NodeMatch" "type" "Ljava/lang/String;" (.null) := D8 (Or.inr (hw _ (List.mem_of_getElem? (i := 70) rfl))) (ty := (.object "java/lang/String")) (by rfl)
        have F11 : Fld Z h3 a1 "com/example/rowpath/rowpath/core/NodeMatch" "id" "Ljava/lang/String;" (.null) := D8 (Or.inr (hw _ (List.mem_of_getElem? (i := 72) rfl))) (ty := (.object "java/lang/String")) (by rfl)
        refine g_dup X5 at_100 rfl 101 rfl ?_
        refine g_aload X5 at_101 rfl rfl 103 rfl ?_
        refine g_aload X5 at_103 rfl rfl 105 rfl ?_
        refine g_aload X5 at_105 rfl rfl 107 rfl ?_
        refine g_callIn X5 rfl (hw _ (List.mem_of_getElem? (i := 3) rfl)) (hw _ (List.mem_of_getElem? (i := 4) rfl)) (hw _ (List.mem_of_getElem? (i := 2) rfl)) (hw _ (List.mem_of_getElem? (i := 5) rfl)) (by decide) (c_nm000 l Z a0 G a1  b0 b1 b2 b3 b4 b5 bv kv h3 A7 F9 F10 F11 TT0) (by simp) (argsL := [.null, .null, .null]) (rest := [.ref a1]) pd_18 rfl rfl rfl rfl 1 (Nat.le_of_eq rfl) (by decide) (by decide) (ck := 3) rfl (cs := 10) rfl (by decide) (by decide) at_107 110 rfl ?_
        intro T12 h15 X13 hq14
        obtain ⟨K16, E17, F18, F19, F20⟩ := hq14
        refine g_astore X13 at_110 rfl (Ls' := #[.val (.int k0), .val (.int k1), .val (.int k2), .val (.int k3), .val (.int (0 : Int32)), .val (.int (0 : Int32)), .val (.int (0 : Int32)), .val (.null), .val (.null), .val (.null), .val (.ref a1), .unset]) rfl 112 rfl ?_
        refine g_iload X13 at_112 rfl 114 rfl ?_
        refine g_ifYes X13 at_114 (XT.ii_eq_t (by decide)) 151 (by decide) (by decide) ?_
        refine g_iload X13 at_151 rfl 153 rfl ?_
        refine g_ifYes X13 at_153 (XT.ii_eq_t (by decide)) 177 (by decide) (by decide) ?_
        refine g_getS X13 (Or.inl (hw _ (List.mem_of_getElem? (i := 73) rfl))) (host := "") Via.refl (S5.ext X13.old) at_177 180 rfl ?_
        intro T21 X22
        refine g_astore X22 at_180 rfl (Ls' := #[.val (.int k0), .val (.int k1), .val (.int k2), .val (.int k3), .val (.int (0 : Int32)), .val (.int (0 : Int32)), .val (.int (0 : Int32)), .val (.null), .val (.null), .val (.null), .val (.ref a1), .val (.ref b5)]) rfl 182 rfl ?_
        refine g_aload X22 at_182 rfl rfl 184 rfl ?_
        refine g_callVv X22 (hw _ (List.mem_of_getElem? (i := 74) rfl)) (hw _ (List.mem_of_getElem? (i := 75) rfl)) (hw _ (List.mem_of_getElem? (i := 77) rfl)) (hw _ (List.mem_of_getElem? (i := 76) rfl)) (hw _ (List.mem_of_getElem? (i := 2) rfl)) (hw _ (List.mem_of_getElem? (i := 78) rfl)) (nfSel (hw _ (List.mem_of_getElem? (i := 77) rfl))) (by decide) E17 (c_ti000 l Z a0 G a1  b0 b1 b2 b3 b4 b5 bv kv h15 E17 F18 F19 F20 TT0) (by simp) (argsL := []) (rest := []) pd_9 rfl rfl rfl rfl 0 (Nat.le_of_eq rfl) (by decide) (by decide) (ck := 5) rfl (cs := 17) rfl (by decide) (by decide) at_184 187 rfl ?_
        intro w25 T23 h27 X24 hq26
        subst hq26
        refine g_aload X24 at_187 rfl rfl 189 rfl ?_
        refine g_acmpNo X24 at_189 rfl rfl (XT.aa_ne_f rfl) 192 rfl ?_
        refine g_iconst X24 (1 : Int32) at_192 (by decide) 193 rfl ?_
        refine g_goto X24 at_193 197 (by decide) (by decide) ?_
        exact g_retN X24 (t := .boolean) rfl (by simp) at_197 _ rfl (by decide) (by decide) rfl
      · refine g_ifNo X at_29 (XT.ii_eq_f hb29) 32 rfl ?_
        refine g_iconst X (1 : Int32) at_32 (by decide) 33 rfl ?_
        refine g_goto X at_33 37 (by decide) (by decide) ?_
        refine g_istore X at_37 (Ls' := #[.val (.int k0), .val (.int k1), .val (.int k2), .val (.int k3), .val (.int (0 : Int32)), .val (.int (0 : Int32)), .val (.int (1 : Int32)), .unset, .unset, .unset, .unset, .unset]) rfl 39 rfl ?_
        refine g_iload X at_39 rfl 41 rfl ?_
        refine g_ifNo X at_41 (XT.ii_eq_f (by decide)) 44 rfl ?_
        refine g_iload X at_44 rfl 46 rfl ?_
        refine g_ifNo X at_46 (XT.ii_ne_f (by decide)) 49 rfl ?_
        refine g_iconst X (1 : Int32) at_49 (by decide) 50 rfl ?_
        refine g_istore X at_50 (Ls' := #[.val (.int k0), .val (.int k1), .val (.int k2), .val (.int k3), .val (.int (0 : Int32)), .val (.int (1 : Int32)), .val (.int (1 : Int32)), .unset, .unset, .unset, .unset, .unset]) rfl 52 rfl ?_
        refine g_iload X at_52 rfl 54 rfl ?_
        refine g_ifYes X at_54 (XT.ii_eq_t (by decide)) 64 (by decide) (by decide) ?_
        refine g_aconstNull X at_64 65 rfl ?_
        refine g_astore X at_65 rfl (Ls' := #[.val (.int k0), .val (.int k1), .val (.int k2), .val (.int k3), .val (.int (0 : Int32)), .val (.int (1 : Int32)), .val (.int (1 : Int32)), .val (.null), .unset, .unset, .unset, .unset]) rfl 67 rfl ?_
        refine g_iload X at_67 rfl 69 rfl ?_
        refine g_ifNo X at_69 (XT.ii_eq_f (by decide)) 72 rfl ?_
        refine g_iloadN X at_72 rfl 73 rfl ?_
        refine g_callSv X (hw _ (List.mem_of_getElem? (i := 86) rfl)) (hw _ (List.mem_of_getElem? (i := 87) rfl)) (hw _ (List.mem_of_getElem? (i := 88) rfl)) (hw _ (List.mem_of_getElem? (i := 89) rfl)) (by decide) (c_text l Z a0 G k2 h) (by simp) (argsL := [.int k2]) (rest := []) pd_17 rfl rfl rfl rfl 0 (Nat.le_of_eq rfl) (by decide) (by decide) (ck := 6) rfl (cs := 12) rfl (by decide) (by decide) at_73 76 rfl ?_
        intro w30 T28 h32 X29 hq31
        obtain ⟨b33, rfl, E34⟩ := hq31
        refine g_goto X29 at_76 80 (by decide) (by decide) ?_
        refine g_astore X29 at_80 rfl (Ls' := #[.val (.int k0), .val (.int k1), .val (.int k2), .val (.int k3), .val (.int (0 : Int32)), .val (.int (1 : Int32)), .val (.int (1 : Int32)), .val (.null), .val (.ref b33), .unset, .unset, .unset]) rfl 82 rfl ?_
        refine g_iload X29 at_82 rfl 84 rfl ?_
        refine g_ifNo X29 at_84 (XT.ii_eq_f (by decide)) 87 rfl ?_
        refine g_iloadN X29 at_87 rfl 88 rfl ?_
        refine g_callSv X29 (hw _ (List.mem_of_getElem? (i := 86) rfl)) (hw _ (List.mem_of_getElem? (i := 87) rfl)) (hw _ (List.mem_of_getElem? (i := 88) rfl)) (hw _ (List.mem_of_getElem? (i := 89) rfl)) (by decide) (c_text l Z a0 G k3 h32) (by simp) (argsL := [.int k3]) (rest := []) pd_17 rfl rfl rfl rfl 0 (Nat.le_of_eq rfl) (by decide) (by decide) (ck := 12) rfl (cs := 24) rfl (by decide) (by decide) at_88 91 rfl ?_
        intro w37 T35 h39 X36 hq38
        obtain ⟨b40, rfl, E41⟩ := hq38
        refine g_goto X36 at_91 95 (by decide) (by decide) ?_
        refine g_astore X36 at_95 rfl (Ls' := #[.val (.int k0), .val (.int k1), .val (.int k2), .val (.int k3), .val (.int (0 : Int32)), .val (.int (1 : Int32)), .val (.int (1 : Int32)), .val (.null), .val (.ref b33), .val (.ref b40), .unset, .unset]) rfl 97 rfl ?_
        refine g_new X36 (hw _ (List.mem_of_getElem? (i := 0) rfl)) (hw _ (List.mem_of_getElem? (i := 1) rfl)) (hw _ (List.mem_of_getElem? (i := 2) rfl)) at_97 (ck := 13) rfl (cs := 27) rfl (by decide) (by decide) 100 rfl ?_
        intro a42 T43 h44 ea45 X46 E47 A48 D49
        have ne_b0_a42 : b0 ≠ a42 := by rw [ea45]; exact Nat.ne_of_lt (E0.ext X36.old).lt
        have ne_b1_a42 : b1 ≠ a42 := by rw [ea45]; exact Nat.ne_of_lt (E1.ext X36.old).lt
        have ne_b2_a42 : b2 ≠ a42 := by rw [ea45]; exact Nat.ne_of_lt (E2.ext X36.old).lt
        have ne_b3_a42 : b3 ≠ a42 := by rw [ea45]; exact Nat.ne_of_lt (E3.ext X36.old).lt
        have ne_b4_a42 : b4 ≠ a42 := by rw [ea45]; exact Nat.ne_of_lt (E4.ext X36.old).lt
        have ne_b5_a42 : b5 ≠ a42 := by rw [ea45]; exact Nat.ne_of_lt (E5.ext X36.old).lt
        have ne_bv_a42 : bv ≠ a42 := by rw [ea45]; exact Nat.ne_of_lt (EV.ext X36.old).lt
        have F50 : Fld Z h44 a42 "com/example/rowpath/rowpath/core/NodeMatch" "level" "Ljava/lang/Integer;" (.null) := D49 (Or.inr (hw _ (List.mem_of_getElem? (i := 68) rfl))) (ty := (.object "java/lang/Integer")) (by rfl)
        have F51 : Fld Z h44 a42 "com/example/rowpath/rowpath/core/NodeMatch" "type" "Ljava/lang/String;" (.null) := D49 (Or.inr (hw _ (List.mem_of_getElem? (i := 70) rfl))) (ty := (.object "java/lang/String")) (by rfl)
        have F52 : Fld Z h44 a42 "com/example/rowpath/rowpath/core/NodeMatch" "id" "Ljava/lang/String;" (.null) := D49 (Or.inr (hw _ (List.mem_of_getElem? (i := 72) rfl))) (ty := (.object "java/lang/String")) (by rfl)
        refine g_dup X46 at_100 rfl 101 rfl ?_
        refine g_aload X46 at_101 rfl rfl 103 rfl ?_
        refine g_aload X46 at_103 rfl rfl 105 rfl ?_
        refine g_aload X46 at_105 rfl rfl 107 rfl ?_
        refine g_callIn X46 rfl (hw _ (List.mem_of_getElem? (i := 3) rfl)) (hw _ (List.mem_of_getElem? (i := 4) rfl)) (hw _ (List.mem_of_getElem? (i := 2) rfl)) (hw _ (List.mem_of_getElem? (i := 5) rfl)) (by decide) (c_nm011 l Z a0 G a42 b33 b40 b0 b1 b2 b3 b4 b5 bv kv h44 A48 F50 F51 F52 TT0) (by simp) (argsL := [.null, .ref b33, .ref b40]) (rest := [.ref a42]) pd_18 rfl rfl rfl rfl 1 (Nat.le_of_eq rfl) (by decide) (by decide) (ck := 15) rfl (cs := 34) rfl (by decide) (by decide) at_107 110 rfl ?_
        intro T53 h56 X54 hq55
        obtain ⟨K57, E58, F59, F60, F61⟩ := hq55
        refine g_astore X54 at_110 rfl (Ls' := #[.val (.int k0), .val (.int k1), .val (.int k2), .val (.int k3), .val (.int (0 : Int32)), .val (.int (1 : Int32)), .val (.int (1 : Int32)), .val (.null), .val (.ref b33), .val (.ref b40), .val (.ref a42), .unset]) rfl 112 rfl ?_
        refine g_iload X54 at_112 rfl 114 rfl ?_
        refine g_ifYes X54 at_114 (XT.ii_eq_t (by decide)) 151 (by decide) (by decide) ?_
        refine g_iload X54 at_151 rfl 153 rfl ?_
        refine g_ifNo X54 at_153 (XT.ii_eq_f (by decide)) 156 rfl ?_
        refine g_iload X54 at_156 rfl 158 rfl ?_
        refine g_ifNo X54 at_158 (XT.ii_eq_f (by decide)) 161 rfl ?_
        refine g_getS X54 (Or.inl (hw _ (List.mem_of_getElem? (i := 110) rfl))) (host := "") Via.refl (S1.ext X54.old) at_161 164 rfl ?_
        intro T62 X63
        refine g_astore X63 at_164 rfl (Ls' := #[.val (.int k0), .val (.int k1), .val (.int k2), .val (.int k3), .val (.int (0 : Int32)), .val (.int (1 : Int32)), .val (.int (1 : Int32)), .val (.null), .val (.ref b33), .val (.ref b40), .val (.ref a42), .val (.ref b1)]) rfl 166 rfl ?_
        refine g_goto X63 at_166 182 (by decide) (by decide) ?_
        refine g_aload X63 at_182 rfl rfl 184 rfl ?_
        refine g_callVv X63 (hw _ (List.mem_of_getElem? (i := 74) rfl)) (hw _ (List.mem_of_getElem? (i := 75) rfl)) (hw _ (List.mem_of_getElem? (i := 77) rfl)) (hw _ (List.mem_of_getElem? (i := 76) rfl)) (hw _ (List.mem_of_getElem? (i := 2) rfl)) (hw _ (List.mem_of_getElem? (i := 78) rfl)) (nfSel (hw _ (List.mem_of_getElem? (i := 77) rfl))) (by decide) E58 (c_ti011 l Z a0 G a42 b33 b40 b0 b1 b2 b3 b4 b5 bv kv h56 E58 F59 F60 F61 TT0) (by simp) (argsL := []) (rest := []) pd_9 rfl rfl rfl rfl 0 (Nat.le_of_eq rfl) (by decide) (by decide) (ck := 17) rfl (cs := 41) rfl (by decide) (by decide) at_184 187 rfl ?_
        intro w66 T64 h68 X65 hq67
        subst hq67
        refine g_aload X65 at_187 rfl rfl 189 rfl ?_
        refine g_acmpNo X65 at_189 rfl rfl (XT.aa_ne_f rfl) 192 rfl ?_
        refine g_iconst X65 (1 : Int32) at_192 (by decide) 193 rfl ?_
        refine g_goto X65 at_193 197 (by decide) (by decide) ?_
        exact g_retN X65 (t := .boolean) rfl (by simp) at_197 _ rfl (by decide) (by decide) rfl
    · refine g_ifNo X at_16 (XT.ii_eq_f hb16) 19 rfl ?_
      refine g_iconst X (1 : Int32) at_19 (by decide) 20 rfl ?_
      refine g_goto X at_20 24 (by decide) (by decide) ?_
      refine g_istore X at_24 (Ls' := #[.val (.int k0), .val (.int k1), .val (.int k2), .val (.int k3), .val (.int (0 : Int32)), .val (.int (1 : Int32)), .unset, .unset, .unset, .unset, .unset, .unset]) rfl 26 rfl ?_
      refine g_iloadN X at_26 rfl 27 rfl ?_
      refine g_iconst X (4 : Int32) at_27 (by decide) 28 rfl ?_
      refine g_iand X at_28 _ rfl 29 rfl ?_
      by_cases hb29 : (k0 &&& (4 : Int32)) = (0 : Int32)
      · refine g_ifYes X at_29 (XT.ii_eq_t hb29) 36 (by decide) (by decide) ?_
        refine g_iconst X (0 : Int32) at_36 (by decide) 37 rfl ?_
        refine g_istore X at_37 (Ls' := #[.val (.int k0), .val (.int k1), .val (.int k2), .val (.int k3), .val (.int (0 : Int32)), .val (.int (1 : Int32)), .val (.int (0 : Int32)), .unset, .unset, .unset, .unset, .unset]) rfl 39 rfl ?_
        refine g_iload X at_39 rfl 41 rfl ?_
        refine g_ifYes X at_41 (XT.ii_eq_t (by decide)) 52 (by decide) (by decide) ?_
        refine g_iload X at_52 rfl 54 rfl ?_
        refine g_ifYes X at_54 (XT.ii_eq_t (by decide)) 64 (by decide) (by decide) ?_
        refine g_aconstNull X at_64 65 rfl ?_
        refine g_astore X at_65 rfl (Ls' := #[.val (.int k0), .val (.int k1), .val (.int k2), .val (.int k3), .val (.int (0 : Int32)), .val (.int (1 : Int32)), .val (.int (0 : Int32)), .val (.null), .unset, .unset, .unset, .unset]) rfl 67 rfl ?_
        refine g_iload X at_67 rfl 69 rfl ?_
        refine g_ifNo X at_69 (XT.ii_eq_f (by decide)) 72 rfl ?_
        refine g_iloadN X at_72 rfl 73 rfl ?_
        refine g_callSv X (hw _ (List.mem_of_getElem? (i := 86) rfl)) (hw _ (List.mem_of_getElem? (i := 87) rfl)) (hw _ (List.mem_of_getElem? (i := 88) rfl)) (hw _ (List.mem_of_getElem? (i := 89) rfl)) (by decide) (c_text l Z a0 G k2 h) (by simp) (argsL := [.int k2]) (rest := []) pd_17 rfl rfl rfl rfl 0 (Nat.le_of_eq rfl) (by decide) (by decide) (ck := 6) rfl (cs := 12) rfl (by decide) (by decide) at_73 76 rfl ?_
        intro w71 T69 h73 X70 hq72
        obtain ⟨b74, rfl, E75⟩ := hq72
        refine g_goto X70 at_76 80 (by decide) (by decide) ?_
        refine g_astore X70 at_80 rfl (Ls' := #[.val (.int k0), .val (.int k1), .val (.int k2), .val (.int k3), .val (.int (0 : Int32)), .val (.int (1 : Int32)), .val (.int (0 : Int32)), .val (.null), .val (.ref b74), .unset, .unset, .unset]) rfl 82 rfl ?_
        refine g_iload X70 at_82 rfl 84 rfl ?_
        refine g_ifYes X70 at_84 (XT.ii_eq_t (by decide)) 94 (by decide) (by decide) ?_
        refine g_aconstNull X70 at_94 95 rfl ?_
        refine g_astore X70 at_95 rfl (Ls' := #[.val (.int k0), .val (.int k1), .val (.int k2), .val (.int k3), .val (.int (0 : Int32)), .val (.int (1 : Int32)), .val (.int (0 : Int32)), .val (.null), .val (.ref b74), .val (.null), .unset, .unset]) rfl 97 rfl ?_
        refine g_new X70 (hw _ (List.mem_of_getElem? (i := 0) rfl)) (hw _ (List.mem_of_getElem? (i := 1) rfl)) (hw _ (List.mem_of_getElem? (i := 2) rfl)) at_97 (ck := 7) rfl (cs := 15) rfl (by decide) (by decide) 100 rfl ?_
        intro a76 T77 h78 ea79 X80 E81 A82 D83
        have ne_b0_a76 : b0 ≠ a76 := by rw [ea79]; exact Nat.ne_of_lt (E0.ext X70.old).lt
        have ne_b1_a76 : b1 ≠ a76 := by rw [ea79]; exact Nat.ne_of_lt (E1.ext X70.old).lt
        have ne_b2_a76 : b2 ≠ a76 := by rw [ea79]; exact Nat.ne_of_lt (E2.ext X70.old).lt
        have ne_b3_a76 : b3 ≠ a76 := by rw [ea79]; exact Nat.ne_of_lt (E3.ext X70.old).lt
        have ne_b4_a76 : b4 ≠ a76 := by rw [ea79]; exact Nat.ne_of_lt (E4.ext X70.old).lt
        have ne_b5_a76 : b5 ≠ a76 := by rw [ea79]; exact Nat.ne_of_lt (E5.ext X70.old).lt
        have ne_bv_a76 : bv ≠ a76 := by rw [ea79]; exact Nat.ne_of_lt (EV.ext X70.old).lt
        have F84 : Fld Z h78 a76 "com/example/rowpath/rowpath/core/NodeMatch" "level" "Ljava/lang/Integer;" (.null) := D83 (Or.inr (hw _ (List.mem_of_getElem? (i := 68) rfl))) (ty := (.object "java/lang/Integer")) (by rfl)
        have F85 : Fld Z h78 a76 "com/example/rowpath/rowpath/core/NodeMatch" "type" "Ljava/lang/String;" (.null) := D83 (Or.inr (hw _ (List.mem_of_getElem? (i := 70) rfl))) (ty := (.object "java/lang/String")) (by rfl)
        have F86 : Fld Z h78 a76 "com/example/rowpath/rowpath/core/NodeMatch" "id" "Ljava/lang/String;" (.null) := D83 (Or.inr (hw _ (List.mem_of_getElem? (i := 72) rfl))) (ty := (.object "java/lang/String")) (by rfl)
        refine g_dup X80 at_100 rfl 101 rfl ?_
        refine g_aload X80 at_101 rfl rfl 103 rfl ?_
        refine g_aload X80 at_103 rfl rfl 105 rfl ?_
        refine g_aload X80 at_105 rfl rfl 107 rfl ?_
        refine g_callIn X80 rfl (hw _ (List.mem_of_getElem? (i := 3) rfl)) (hw _ (List.mem_of_getElem? (i := 4) rfl)) (hw _ (List.mem_of_getElem? (i := 2) rfl)) (hw _ (List.mem_of_getElem? (i := 5) rfl)) (by decide) (c_nm010 l Z a0 G a76 b74 b0 b1 b2 b3 b4 b5 bv kv h78 A82 F84 F85 F86 TT0) (by simp) (argsL := [.null, .ref b74, .null]) (rest := [.ref a76]) pd_18 rfl rfl rfl rfl 1 (Nat.le_of_eq rfl) (by decide) (by decide) (ck := 9) rfl (cs := 22) rfl (by decide) (by decide) at_107 110 rfl ?_
        intro T87 h90 X88 hq89
        obtain ⟨K91, E92, F93, F94, F95⟩ := hq89
        refine g_astore X88 at_110 rfl (Ls' := #[.val (.int k0), .val (.int k1), .val (.int k2), .val (.int k3), .val (.int (0 : Int32)), .val (.int (1 : Int32)), .val (.int (0 : Int32)), .val (.null), .val (.ref b74), .val (.null), .val (.ref a76), .unset]) rfl 112 rfl ?_
        refine g_iload X88 at_112 rfl 114 rfl ?_
        refine g_ifYes X88 at_114 (XT.ii_eq_t (by decide)) 151 (by decide) (by decide) ?_
        refine g_iload X88 at_151 rfl 153 rfl ?_
        refine g_ifNo X88 at_153 (XT.ii_eq_f (by decide)) 156 rfl ?_
        refine g_iload X88 at_156 rfl 158 rfl ?_
        refine g_ifYes X88 at_158 (XT.ii_eq_t (by decide)) 169 (by decide) (by decide) ?_
        refine g_getS X88 (Or.inl (hw _ (List.mem_of_getElem? (i := 133) rfl))) (host := "") Via.refl (S3.ext X88.old) at_169 172 rfl ?_
        intro T96 X97
        refine g_astore X97 at_172 rfl (Ls' := #[.val (.int k0), .val (.int k1), .val (.int k2), .val (.int k3), .val (.int (0 : Int32)), .val (.int (1 : Int32)), .val (.int (0 : Int32)), .val (.null), .val (.ref b74), .val (.null), .val (.ref a76), .val (.ref b3)]) rfl 174 rfl ?_
        refine g_goto X97 at_174 182 (by decide) (by decide) ?_
        refine g_aload X97 at_182 rfl rfl 184 rfl ?_
        refine g_callVv X97 (hw _ (List.mem_of_getElem? (i := 74) rfl)) (hw _ (List.mem_of_getElem? (i := 75) rfl)) (hw _ (List.mem_of_getElem? (i := 77) rfl)) (hw _ (List.mem_of_getElem? (i := 76) rfl)) (hw _ (List.mem_of_getElem? (i := 2) rfl)) (hw _ (List.mem_of_getElem? (i := 78) rfl)) (nfSel (hw _ (List.mem_of_getElem? (i := 77) rfl))) (by decide) E92 (c_ti010 l Z a0 G a76 b74 b0 b1 b2 b3 b4 b5 bv kv h90 E92 F93 F94 F95 TT0) (by simp) (argsL := []) (rest := []) pd_9 rfl rfl rfl rfl 0 (Nat.le_of_eq rfl) (by decide) (by decide) (ck := 11) rfl (cs := 29) rfl (by decide) (by decide) at_184 187 rfl ?_
        intro w100 T98 h102 X99 hq101
        subst hq101
        refine g_aload X99 at_187 rfl rfl 189 rfl ?_
        refine g_acmpNo X99 at_189 rfl rfl (XT.aa_ne_f rfl) 192 rfl ?_
        refine g_iconst X99 (1 : Int32) at_192 (by decide) 193 rfl ?_
        refine g_goto X99 at_193 197 (by decide) (by decide) ?_
        exact g_retN X99 (t := .boolean) rfl (by simp) at_197 _ rfl (by decide) (by decide) rfl
      · refine g_ifNo X at_29 (XT.ii_eq_f hb29) 32 rfl ?_
        refine g_iconst X (1 : Int32) at_32 (by decide) 33 rfl ?_
        refine g_goto X at_33 37 (by decide) (by decide) ?_
        refine g_istore X at_37 (Ls' := #[.val (.int k0), .val (.int k1), .val (.int k2), .val (.int k3), .val (.int (0 : Int32)), .val (.int (1 : Int32)), .val (.int (1 : Int32)), .unset, .unset, .unset, .unset, .unset]) rfl 39 rfl ?_
        refine g_iload X at_39 rfl 41 rfl ?_
        refine g_ifNo X at_41 (XT.ii_eq_f (by decide)) 44 rfl ?_
        refine g_iload X at_44 rfl 46 rfl ?_
        refine g_ifYes X at_46 (XT.ii_ne_t (by decide)) 52 (by decide) (by decide) ?_
        refine g_iload X at_52 rfl 54 rfl ?_
        refine g_ifYes X at_54 (XT.ii_eq_t (by decide)) 64 (by decide) (by decide) ?_
        refine g_aconstNull X at_64 65 rfl ?_
        refine g_astore X at_65 rfl (Ls' := #[.val (.int k0), .val (.int k1), .val (.int k2), .val (.int k3), .val (.int (0 : Int32)), .val (.int (1 : Int32)), .val (.int (1 : Int32)), .val (.null), .unset, .unset, .unset, .unset]) rfl 67 rfl ?_
        refine g_iload X at_67 rfl 69 rfl ?_
        refine g_ifNo X at_69 (XT.ii_eq_f (by decide)) 72 rfl ?_
        refine g_iloadN X at_72 rfl 73 rfl ?_
        refine g_callSv X (hw _ (List.mem_of_getElem? (i := 86) rfl)) (hw _ (List.mem_of_getElem? (i := 87) rfl)) (hw _ (List.mem_of_getElem? (i := 88) rfl)) (hw _ (List.mem_of_getElem? (i := 89) rfl)) (by decide) (c_text l Z a0 G k2 h) (by simp) (argsL := [.int k2]) (rest := []) pd_17 rfl rfl rfl rfl 0 (Nat.le_of_eq rfl) (by decide) (by decide) (ck := 6) rfl (cs := 12) rfl (by decide) (by decide) at_73 76 rfl ?_
        intro w105 T103 h107 X104 hq106
        obtain ⟨b108, rfl, E109⟩ := hq106
        refine g_goto X104 at_76 80 (by decide) (by decide) ?_
        refine g_astore X104 at_80 rfl (Ls' := #[.val (.int k0), .val (.int k1), .val (.int k2), .val (.int k3), .val (.int (0 : Int32)), .val (.int (1 : Int32)), .val (.int (1 : Int32)), .val (.null), .val (.ref b108), .unset, .unset, .unset]) rfl 82 rfl ?_
        refine g_iload X104 at_82 rfl 84 rfl ?_
        refine g_ifNo X104 at_84 (XT.ii_eq_f (by decide)) 87 rfl ?_
        refine g_iloadN X104 at_87 rfl 88 rfl ?_
        refine g_callSv X104 (hw _ (List.mem_of_getElem? (i := 86) rfl)) (hw _ (List.mem_of_getElem? (i := 87) rfl)) (hw _ (List.mem_of_getElem? (i := 88) rfl)) (hw _ (List.mem_of_getElem? (i := 89) rfl)) (by decide) (c_text l Z a0 G k3 h107) (by simp) (argsL := [.int k3]) (rest := []) pd_17 rfl rfl rfl rfl 0 (Nat.le_of_eq rfl) (by decide) (by decide) (ck := 12) rfl (cs := 24) rfl (by decide) (by decide) at_88 91 rfl ?_
        intro w112 T110 h114 X111 hq113
        obtain ⟨b115, rfl, E116⟩ := hq113
        refine g_goto X111 at_91 95 (by decide) (by decide) ?_
        refine g_astore X111 at_95 rfl (Ls' := #[.val (.int k0), .val (.int k1), .val (.int k2), .val (.int k3), .val (.int (0 : Int32)), .val (.int (1 : Int32)), .val (.int (1 : Int32)), .val (.null), .val (.ref b108), .val (.ref b115), .unset, .unset]) rfl 97 rfl ?_
        refine g_new X111 (hw _ (List.mem_of_getElem? (i := 0) rfl)) (hw _ (List.mem_of_getElem? (i := 1) rfl)) (hw _ (List.mem_of_getElem? (i := 2) rfl)) at_97 (ck := 13) rfl (cs := 27) rfl (by decide) (by decide) 100 rfl ?_
        intro a117 T118 h119 ea120 X121 E122 A123 D124
        have ne_b0_a117 : b0 ≠ a117 := by rw [ea120]; exact Nat.ne_of_lt (E0.ext X111.old).lt
        have ne_b1_a117 : b1 ≠ a117 := by rw [ea120]; exact Nat.ne_of_lt (E1.ext X111.old).lt
        have ne_b2_a117 : b2 ≠ a117 := by rw [ea120]; exact Nat.ne_of_lt (E2.ext X111.old).lt
        have ne_b3_a117 : b3 ≠ a117 := by rw [ea120]; exact Nat.ne_of_lt (E3.ext X111.old).lt
        have ne_b4_a117 : b4 ≠ a117 := by rw [ea120]; exact Nat.ne_of_lt (E4.ext X111.old).lt
        have ne_b5_a117 : b5 ≠ a117 := by rw [ea120]; exact Nat.ne_of_lt (E5.ext X111.old).lt
        have ne_bv_a117 : bv ≠ a117 := by rw [ea120]; exact Nat.ne_of_lt (EV.ext X111.old).lt
        have F125 : Fld Z h119 a117 "com/example/rowpath/rowpath/core/NodeMatch" "level" "Ljava/lang/Integer;" (.null) := D124 (Or.inr (hw _ (List.mem_of_getElem? (i := 68) rfl))) (ty := (.object "java/lang/Integer")) (by rfl)
        have F126 : Fld Z h119 a117 "com/example/rowpath/rowpath/core/NodeMatch" "type" "Ljava/lang/String;" (.null) := D124 (Or.inr (hw _ (List.mem_of_getElem? (i := 70) rfl))) (ty := (.object "java/lang/String")) (by rfl)
        have F127 : Fld Z h119 a117 "com/example/rowpath/rowpath/core/NodeMatch" "id" "Ljava/lang/String;" (.null) := D124 (Or.inr (hw _ (List.mem_of_getElem? (i := 72) rfl))) (ty := (.object "java/lang/String")) (by rfl)
        refine g_dup X121 at_100 rfl 101 rfl ?_
        refine g_aload X121 at_101 rfl rfl 103 rfl ?_
        refine g_aload X121 at_103 rfl rfl 105 rfl ?_
        refine g_aload X121 at_105 rfl rfl 107 rfl ?_
        refine g_callIn X121 rfl (hw _ (List.mem_of_getElem? (i := 3) rfl)) (hw _ (List.mem_of_getElem? (i := 4) rfl)) (hw _ (List.mem_of_getElem? (i := 2) rfl)) (hw _ (List.mem_of_getElem? (i := 5) rfl)) (by decide) (c_nm011 l Z a0 G a117 b108 b115 b0 b1 b2 b3 b4 b5 bv kv h119 A123 F125 F126 F127 TT0) (by simp) (argsL := [.null, .ref b108, .ref b115]) (rest := [.ref a117]) pd_18 rfl rfl rfl rfl 1 (Nat.le_of_eq rfl) (by decide) (by decide) (ck := 15) rfl (cs := 34) rfl (by decide) (by decide) at_107 110 rfl ?_
        intro T128 h131 X129 hq130
        obtain ⟨K132, E133, F134, F135, F136⟩ := hq130
        refine g_astore X129 at_110 rfl (Ls' := #[.val (.int k0), .val (.int k1), .val (.int k2), .val (.int k3), .val (.int (0 : Int32)), .val (.int (1 : Int32)), .val (.int (1 : Int32)), .val (.null), .val (.ref b108), .val (.ref b115), .val (.ref a117), .unset]) rfl 112 rfl ?_
        refine g_iload X129 at_112 rfl 114 rfl ?_
        refine g_ifYes X129 at_114 (XT.ii_eq_t (by decide)) 151 (by decide) (by decide) ?_
        refine g_iload X129 at_151 rfl 153 rfl ?_
        refine g_ifNo X129 at_153 (XT.ii_eq_f (by decide)) 156 rfl ?_
        refine g_iload X129 at_156 rfl 158 rfl ?_
        refine g_ifNo X129 at_158 (XT.ii_eq_f (by decide)) 161 rfl ?_
        refine g_getS X129 (Or.inl (hw _ (List.mem_of_getElem? (i := 110) rfl))) (host := "") Via.refl (S1.ext X129.old) at_161 164 rfl ?_
        intro T137 X138
        refine g_astore X138 at_164 rfl (Ls' := #[.val (.int k0), .val (.int k1), .val (.int k2), .val (.int k3), .val (.int (0 : Int32)), .val (.int (1 : Int32)), .val (.int (1 : Int32)), .val (.null), .val (.ref b108), .val (.ref b115), .val (.ref a117), .val (.ref b1)]) rfl 166 rfl ?_
        refine g_goto X138 at_166 182 (by decide) (by decide) ?_
        refine g_aload X138 at_182 rfl rfl 184 rfl ?_
        refine g_callVv X138 (hw _ (List.mem_of_getElem? (i := 74) rfl)) (hw _ (List.mem_of_getElem? (i := 75) rfl)) (hw _ (List.mem_of_getElem? (i := 77) rfl)) (hw _ (List.mem_of_getElem? (i := 76) rfl)) (hw _ (List.mem_of_getElem? (i := 2) rfl)) (hw _ (List.mem_of_getElem? (i := 78) rfl)) (nfSel (hw _ (List.mem_of_getElem? (i := 77) rfl))) (by decide) E133 (c_ti011 l Z a0 G a117 b108 b115 b0 b1 b2 b3 b4 b5 bv kv h131 E133 F134 F135 F136 TT0) (by simp) (argsL := []) (rest := []) pd_9 rfl rfl rfl rfl 0 (Nat.le_of_eq rfl) (by decide) (by decide) (ck := 17) rfl (cs := 41) rfl (by decide) (by decide) at_184 187 rfl ?_
        intro w141 T139 h143 X140 hq142
        subst hq142
        refine g_aload X140 at_187 rfl rfl 189 rfl ?_
        refine g_acmpNo X140 at_189 rfl rfl (XT.aa_ne_f rfl) 192 rfl ?_
        refine g_iconst X140 (1 : Int32) at_192 (by decide) 193 rfl ?_
        refine g_goto X140 at_193 197 (by decide) (by decide) ?_
        exact g_retN X140 (t := .boolean) rfl (by simp) at_197 _ rfl (by decide) (by decide) rfl
  · refine g_ifNo X at_3 (XT.ii_eq_f hb3) 6 rfl ?_
    refine g_iconst X (1 : Int32) at_6 (by decide) 7 rfl ?_
    refine g_goto X at_7 11 (by decide) (by decide) ?_
    refine g_istore X at_11 (Ls' := #[.val (.int k0), .val (.int k1), .val (.int k2), .val (.int k3), .val (.int (1 : Int32)), .unset, .unset, .unset, .unset, .unset, .unset, .unset]) rfl 13 rfl ?_
    refine g_iloadN X at_13 rfl 14 rfl ?_
    refine g_iconst X (2 : Int32) at_14 (by decide) 15 rfl ?_
    refine g_iand X at_15 _ rfl 16 rfl ?_
    by_cases hb16 : (k0 &&& (2 : Int32)) = (0 : Int32)
    · refine g_ifYes X at_16 (XT.ii_eq_t hb16) 23 (by decide) (by decide) ?_
      refine g_iconst X (0 : Int32) at_23 (by decide) 24 rfl ?_
      refine g_istore X at_24 (Ls' := #[.val (.int k0), .val (.int k1), .val (.int k2), .val (.int k3), .val (.int (1 : Int32)), .val (.int (0 : Int32)), .unset, .unset, .unset, .unset, .unset, .unset]) rfl 26 rfl ?_
      refine g_iloadN X at_26 rfl 27 rfl ?_
      refine g_iconst X (4 : Int32) at_27 (by decide) 28 rfl ?_
      refine g_iand X at_28 _ rfl 29 rfl ?_
      by_cases hb29 : (k0 &&& (4 : Int32)) = (0 : Int32)
      · refine g_ifYes X at_29 (XT.ii_eq_t hb29) 36 (by decide) (by decide) ?_
        refine g_iconst X (0 : Int32) at_36 (by decide) 37 rfl ?_
        refine g_istore X at_37 (Ls' := #[.val (.int k0), .val (.int k1), .val (.int k2), .val (.int k3), .val (.int (1 : Int32)), .val (.int (0 : Int32)), .val (.int (0 : Int32)), .unset, .unset, .unset, .unset, .unset]) rfl 39 rfl ?_
        refine g_iload X at_39 rfl 41 rfl ?_
        refine g_ifYes X at_41 (XT.ii_eq_t (by decide)) 52 (by decide) (by decide) ?_
        refine g_iload X at_52 rfl 54 rfl ?_
        refine g_ifNo X at_54 (XT.ii_eq_f (by decide)) 57 rfl ?_
        refine g_iloadN X at_57 rfl 58 rfl ?_
        refine g_callSv X (hw _ (List.mem_of_getElem? (i := 111) rfl)) (hw _ (List.mem_of_getElem? (i := 112) rfl)) (hw _ (List.mem_of_getElem? (i := 113) rfl)) (hw _ (List.mem_of_getElem? (i := 114) rfl)) (by decide) (c_vof l Z a0 G k1 ca cc h SH SCA BX) (by simp) (argsL := [.int k1]) (rest := []) pd_12 rfl rfl rfl rfl 0 (Nat.le_of_eq rfl) (by decide) (by decide) (ck := 1) rfl (cs := 1) rfl (by decide) (by decide) at_58 61 rfl ?_
        intro w146 T144 h148 X145 hq147
        obtain ⟨b149, rfl, E150⟩ := hq147
        refine g_goto X145 at_61 65 (by decide) (by decide) ?_
        refine g_astore X145 at_65 rfl (Ls' := #[.val (.int k0), .val (.int k1), .val (.int k2), .val (.int k3), .val (.int (1 : Int32)), .val (.int (0 : Int32)), .val (.int (0 : Int32)), .val (.ref b149), .unset, .unset, .unset, .unset]) rfl 67 rfl ?_
        refine g_iload X145 at_67 rfl 69 rfl ?_
        refine g_ifYes X145 at_69 (XT.ii_eq_t (by decide)) 79 (by decide) (by decide) ?_
        refine g_aconstNull X145 at_79 80 rfl ?_
        refine g_astore X145 at_80 rfl (Ls' := #[.val (.int k0), .val (.int k1), .val (.int k2), .val (.int k3), .val (.int (1 : Int32)), .val (.int (0 : Int32)), .val (.int (0 : Int32)), .val (.ref b149), .val (.null), .unset, .unset, .unset]) rfl 82 rfl ?_
        refine g_iload X145 at_82 rfl 84 rfl ?_
        refine g_ifYes X145 at_84 (XT.ii_eq_t (by decide)) 94 (by decide) (by decide) ?_
        refine g_aconstNull X145 at_94 95 rfl ?_
        refine g_astore X145 at_95 rfl (Ls' := #[.val (.int k0), .val (.int k1), .val (.int k2), .val (.int k3), .val (.int (1 : Int32)), .val (.int (0 : Int32)), .val (.int (0 : Int32)), .val (.ref b149), .val (.null), .val (.null), .unset, .unset]) rfl 97 rfl ?_
        refine g_new X145 (hw _ (List.mem_of_getElem? (i := 0) rfl)) (hw _ (List.mem_of_getElem? (i := 1) rfl)) (hw _ (List.mem_of_getElem? (i := 2) rfl)) at_97 (ck := 2) rfl (cs := 4) rfl (by decide) (by decide) 100 rfl ?_
        intro a151 T152 h153 ea154 X155 E156 A157 D158
        have ne_b0_a151 : b0 ≠ a151 := by rw [ea154]; exact Nat.ne_of_lt (E0.ext X145.old).lt
        have ne_b1_a151 : b1 ≠ a151 := by rw [ea154]; exact Nat.ne_of_lt (E1.ext X145.old).lt
        have ne_b2_a151 : b2 ≠ a151 := by rw [ea154]; exact Nat.ne_of_lt (E2.ext X145.old).lt
        have ne_b3_a151 : b3 ≠ a151 := by rw [ea154]; exact Nat.ne_of_lt (E3.ext X145.old).lt
        have ne_b4_a151 : b4 ≠ a151 := by rw [ea154]; exact Nat.ne_of_lt (E4.ext X145.old).lt
        have ne_b5_a151 : b5 ≠ a151 := by rw [ea154]; exact Nat.ne_of_lt (E5.ext X145.old).lt
        have ne_bv_a151 : bv ≠ a151 := by rw [ea154]; exact Nat.ne_of_lt (EV.ext X145.old).lt
        have F159 : Fld Z h153 a151 "com/example/rowpath/rowpath/core/NodeMatch" "level" "Ljava/lang/Integer;" (.null) := D158 (Or.inr (hw _ (List.mem_of_getElem? (i := 68) rfl))) (ty := (.object "java/lang/Integer")) (by rfl)
        have F160 : Fld Z h153 a151 "com/example/rowpath/rowpath/core/NodeMatch" "type" "Ljava/lang/String;" (.null) := D158 (Or.inr (hw _ (List.mem_of_getElem? (i := 70) rfl))) (ty := (.object "java/lang/String")) (by rfl)
        have F161 : Fld Z h153 a151 "com/example/rowpath/rowpath/core/NodeMatch" "id" "Ljava/lang/String;" (.null) := D158 (Or.inr (hw _ (List.mem_of_getElem? (i := 72) rfl))) (ty := (.object "java/lang/String")) (by rfl)
        refine g_dup X155 at_100 rfl 101 rfl ?_
        refine g_aload X155 at_101 rfl rfl 103 rfl ?_
        refine g_aload X155 at_103 rfl rfl 105 rfl ?_
        refine g_aload X155 at_105 rfl rfl 107 rfl ?_
        refine g_callIn X155 rfl (hw _ (List.mem_of_getElem? (i := 3) rfl)) (hw _ (List.mem_of_getElem? (i := 4) rfl)) (hw _ (List.mem_of_getElem? (i := 2) rfl)) (hw _ (List.mem_of_getElem? (i := 5) rfl)) (by decide) (c_nm100 l Z a0 G a151 b149 b0 b1 b2 b3 b4 b5 bv kv h153 A157 F159 F160 F161 TT0) (by simp) (argsL := [.ref b149, .null, .null]) (rest := [.ref a151]) pd_18 rfl rfl rfl rfl 1 (Nat.le_of_eq rfl) (by decide) (by decide) (ck := 4) rfl (cs := 11) rfl (by decide) (by decide) at_107 110 rfl ?_
        intro T162 h165 X163 hq164
        obtain ⟨K166, E167, F168, F169, F170⟩ := hq164
        refine g_astore X163 at_110 rfl (Ls' := #[.val (.int k0), .val (.int k1), .val (.int k2), .val (.int k3), .val (.int (1 : Int32)), .val (.int (0 : Int32)), .val (.int (0 : Int32)), .val (.ref b149), .val (.null), .val (.null), .val (.ref a151), .unset]) rfl 112 rfl ?_
        refine g_iload X163 at_112 rfl 114 rfl ?_
        refine g_ifNo X163 at_114 (XT.ii_eq_f (by decide)) 117 rfl ?_
        refine g_iload X163 at_117 rfl 119 rfl ?_
        refine g_ifYes X163 at_119 (XT.ii_eq_t (by decide)) 143 (by decide) (by decide) ?_
        refine g_getS X163 (Or.inl (hw _ (List.mem_of_getElem? (i := 135) rfl))) (host := "") Via.refl (S4.ext X163.old) at_143 146 rfl ?_
        intro T171 X172
        refine g_astore X172 at_146 rfl (Ls' := #[.val (.int k0), .val (.int k1), .val (.int k2), .val (.int k3), .val (.int (1 : Int32)), .val (.int (0 : Int32)), .val (.int (0 : Int32)), .val (.ref b149), .val (.null), .val (.null), .val (.ref a151), .val (.ref b4)]) rfl 148 rfl ?_
        refine g_goto X172 at_148 182 (by decide) (by decide) ?_
        refine g_aload X172 at_182 rfl rfl 184 rfl ?_
        refine g_callVv X172 (hw _ (List.mem_of_getElem? (i := 74) rfl)) (hw _ (List.mem_of_getElem? (i := 75) rfl)) (hw _ (List.mem_of_getElem? (i := 77) rfl)) (hw _ (List.mem_of_getElem? (i := 76) rfl)) (hw _ (List.mem_of_getElem? (i := 2) rfl)) (hw _ (List.mem_of_getElem? (i := 78) rfl)) (nfSel (hw _ (List.mem_of_getElem? (i := 77) rfl))) (by decide) E167 (c_ti100 l Z a0 G a151 b149 b0 b1 b2 b3 b4 b5 bv kv h165 E167 F168 F169 F170 TT0) (by simp) (argsL := []) (rest := []) pd_9 rfl rfl rfl rfl 0 (Nat.le_of_eq rfl) (by decide) (by decide) (ck := 6) rfl (cs := 18) rfl (by decide) (by decide) at_184 187 rfl ?_
        intro w175 T173 h177 X174 hq176
        subst hq176
        refine g_aload X174 at_187 rfl rfl 189 rfl ?_
        refine g_acmpNo X174 at_189 rfl rfl (XT.aa_ne_f rfl) 192 rfl ?_
        refine g_iconst X174 (1 : Int32) at_192 (by decide) 193 rfl ?_
        refine g_goto X174 at_193 197 (by decide) (by decide) ?_
        exact g_retN X174 (t := .boolean) rfl (by simp) at_197 _ rfl (by decide) (by decide) rfl
      · refine g_ifNo X at_29 (XT.ii_eq_f hb29) 32 rfl ?_
        refine g_iconst X (1 : Int32) at_32 (by decide) 33 rfl ?_
        refine g_goto X at_33 37 (by decide) (by decide) ?_
        refine g_istore X at_37 (Ls' := #[.val (.int k0), .val (.int k1), .val (.int k2), .val (.int k3), .val (.int (1 : Int32)), .val (.int (0 : Int32)), .val (.int (1 : Int32)), .unset, .unset, .unset, .unset, .unset]) rfl 39 rfl ?_
        refine g_iload X at_39 rfl 41 rfl ?_
        refine g_ifNo X at_41 (XT.ii_eq_f (by decide)) 44 rfl ?_
        refine g_iload X at_44 rfl 46 rfl ?_
        refine g_ifNo X at_46 (XT.ii_ne_f (by decide)) 49 rfl ?_
        refine g_iconst X (1 : Int32) at_49 (by decide) 50 rfl ?_
        refine g_istore X at_50 (Ls' := #[.val (.int k0), .val (.int k1), .val (.int k2), .val (.int k3), .val (.int (1 : Int32)), .val (.int (1 : Int32)), .val (.int (1 : Int32)), .unset, .unset, .unset, .unset, .unset]) rfl 52 rfl ?_
        refine g_iload X at_52 rfl 54 rfl ?_
        refine g_ifNo X at_54 (XT.ii_eq_f (by decide)) 57 rfl ?_
        refine g_iloadN X at_57 rfl 58 rfl ?_
        refine g_callSv X (hw _ (List.mem_of_getElem? (i := 111) rfl)) (hw _ (List.mem_of_getElem? (i := 112) rfl)) (hw _ (List.mem_of_getElem? (i := 113) rfl)) (hw _ (List.mem_of_getElem? (i := 114) rfl)) (by decide) (c_vof l Z a0 G k1 ca cc h SH SCA BX) (by simp) (argsL := [.int k1]) (rest := []) pd_12 rfl rfl rfl rfl 0 (Nat.le_of_eq rfl) (by decide) (by decide) (ck := 1) rfl (cs := 1) rfl (by decide) (by decide) at_58 61 rfl ?_
        intro w180 T178 h182 X179 hq181
        obtain ⟨b183, rfl, E184⟩ := hq181
        refine g_goto X179 at_61 65 (by decide) (by decide) ?_
        refine g_astore X179 at_65 rfl (Ls' := #[.val (.int k0), .val (.int k1), .val (.int k2), .val (.int k3), .val (.int (1 : Int32)), .val (.int (1 : Int32)), .val (.int (1 : Int32)), .val (.ref b183), .unset, .unset, .unset, .unset]) rfl 67 rfl ?_
        refine g_iload X179 at_67 rfl 69 rfl ?_
        refine g_ifNo X179 at_69 (XT.ii_eq_f (by decide)) 72 rfl ?_
        refine g_iloadN X179 at_72 rfl 73 rfl ?_
        refine g_callSv X179 (hw _ (List.mem_of_getElem? (i := 86) rfl)) (hw _ (List.mem_of_getElem? (i := 87) rfl)) (hw _ (List.mem_of_getElem? (i := 88) rfl)) (hw _ (List.mem_of_getElem? (i := 89) rfl)) (by decide) (c_text l Z a0 G k2 h182) (by simp) (argsL := [.int k2]) (rest := []) pd_17 rfl rfl rfl rfl 0 (Nat.le_of_eq rfl) (by decide) (by decide) (ck := 7) rfl (cs := 13) rfl (by decide) (by decide) at_73 76 rfl ?_
        intro w187 T185 h189 X186 hq188
        obtain ⟨b190, rfl, E191⟩ := hq188
        refine g_goto X186 at_76 80 (by decide) (by decide) ?_
        refine g_astore X186 at_80 rfl (Ls' := #[.val (.int k0), .val (.int k1), .val (.int k2), .val (.int k3), .val (.int (1 : Int32)), .val (.int (1 : Int32)), .val (.int (1 : Int32)), .val (.ref b183), .val (.ref b190), .unset, .unset, .unset]) rfl 82 rfl ?_
        refine g_iload X186 at_82 rfl 84 rfl ?_
        refine g_ifNo X186 at_84 (XT.ii_eq_f (by decide)) 87 rfl ?_
        refine g_iloadN X186 at_87 rfl 88 rfl ?_
        refine g_callSv X186 (hw _ (List.mem_of_getElem? (i := 86) rfl)) (hw _ (List.mem_of_getElem? (i := 87) rfl)) (hw _ (List.mem_of_getElem? (i := 88) rfl)) (hw _ (List.mem_of_getElem? (i := 89) rfl)) (by decide) (c_text l Z a0 G k3 h189) (by simp) (argsL := [.int k3]) (rest := []) pd_17 rfl rfl rfl rfl 0 (Nat.le_of_eq rfl) (by decide) (by decide) (ck := 13) rfl (cs := 25) rfl (by decide) (by decide) at_88 91 rfl ?_
        intro w194 T192 h196 X193 hq195
        obtain ⟨b197, rfl, E198⟩ := hq195
        refine g_goto X193 at_91 95 (by decide) (by decide) ?_
        refine g_astore X193 at_95 rfl (Ls' := #[.val (.int k0), .val (.int k1), .val (.int k2), .val (.int k3), .val (.int (1 : Int32)), .val (.int (1 : Int32)), .val (.int (1 : Int32)), .val (.ref b183), .val (.ref b190), .val (.ref b197), .unset, .unset]) rfl 97 rfl ?_
        refine g_new X193 (hw _ (List.mem_of_getElem? (i := 0) rfl)) (hw _ (List.mem_of_getElem? (i := 1) rfl)) (hw _ (List.mem_of_getElem? (i := 2) rfl)) at_97 (ck := 14) rfl (cs := 28) rfl (by decide) (by decide) 100 rfl ?_
        intro a199 T200 h201 ea202 X203 E204 A205 D206
        have ne_b0_a199 : b0 ≠ a199 := by rw [ea202]; exact Nat.ne_of_lt (E0.ext X193.old).lt
        have ne_b1_a199 : b1 ≠ a199 := by rw [ea202]; exact Nat.ne_of_lt (E1.ext X193.old).lt
        have ne_b2_a199 : b2 ≠ a199 := by rw [ea202]; exact Nat.ne_of_lt (E2.ext X193.old).lt
        have ne_b3_a199 : b3 ≠ a199 := by rw [ea202]; exact Nat.ne_of_lt (E3.ext X193.old).lt
        have ne_b4_a199 : b4 ≠ a199 := by rw [ea202]; exact Nat.ne_of_lt (E4.ext X193.old).lt
        have ne_b5_a199 : b5 ≠ a199 := by rw [ea202]; exact Nat.ne_of_lt (E5.ext X193.old).lt
        have ne_bv_a199 : bv ≠ a199 := by rw [ea202]; exact Nat.ne_of_lt (EV.ext X193.old).lt
        have F207 : Fld Z h201 a199 "com/example/rowpath/rowpath/core/NodeMatch" "level" "Ljava/lang/Integer;" (.null) := D206 (Or.inr (hw _ (List.mem_of_getElem? (i := 68) rfl))) (ty := (.object "java/lang/Integer")) (by rfl)
        have F208 : Fld Z h201 a199 "com/example/rowpath/rowpath/core/NodeMatch" "type" "Ljava/lang/String;" (.null) := D206 (Or.inr (hw _ (List.mem_of_getElem? (i := 70) rfl))) (ty := (.object "java/lang/String")) (by rfl)
        have F209 : Fld Z h201 a199 "com/example/rowpath/rowpath/core/NodeMatch" "id" "Ljava/lang/String;" (.null) := D206 (Or.inr (hw _ (List.mem_of_getElem? (i := 72) rfl))) (ty := (.object "java/lang/String")) (by rfl)
        refine g_dup X203 at_100 rfl 101 rfl ?_
        refine g_aload X203 at_101 rfl rfl 103 rfl ?_
        refine g_aload X203 at_103 rfl rfl 105 rfl ?_
        refine g_aload X203 at_105 rfl rfl 107 rfl ?_
        refine g_callIn X203 rfl (hw _ (List.mem_of_getElem? (i := 3) rfl)) (hw _ (List.mem_of_getElem? (i := 4) rfl)) (hw _ (List.mem_of_getElem? (i := 2) rfl)) (hw _ (List.mem_of_getElem? (i := 5) rfl)) (by decide) (c_nm111 l Z a0 G a199 b183 b190 b197 b0 b1 b2 b3 b4 b5 bv kv h201 A205 F207 F208 F209 TT0) (by simp) (argsL := [.ref b183, .ref b190, .ref b197]) (rest := [.ref a199]) pd_18 rfl rfl rfl rfl 1 (Nat.le_of_eq rfl) (by decide) (by decide) (ck := 16) rfl (cs := 35) rfl (by decide) (by decide) at_107 110 rfl ?_
        intro T210 h213 X211 hq212
        obtain ⟨K214, E215, F216, F217, F218⟩ := hq212
        refine g_astore X211 at_110 rfl (Ls' := #[.val (.int k0), .val (.int k1), .val (.int k2), .val (.int k3), .val (.int (1 : Int32)), .val (.int (1 : Int32)), .val (.int (1 : Int32)), .val (.ref b183), .val (.ref b190), .val (.ref b197), .val (.ref a199), .unset]) rfl 112 rfl ?_
        refine g_iload X211 at_112 rfl 114 rfl ?_
        refine g_ifNo X211 at_114 (XT.ii_eq_f (by decide)) 117 rfl ?_
        refine g_iload X211 at_117 rfl 119 rfl ?_
        refine g_ifNo X211 at_119 (XT.ii_eq_f (by decide)) 122 rfl ?_
        refine g_iload X211 at_122 rfl 124 rfl ?_
        refine g_ifNo X211 at_124 (XT.ii_eq_f (by decide)) 127 rfl ?_
        refine g_getS X211 (Or.inl (hw _ (List.mem_of_getElem? (i := 132) rfl))) (host := "") Via.refl (S0.ext X211.old) at_127 130 rfl ?_
        intro T219 X220
        refine g_astore X220 at_130 rfl (Ls' := #[.val (.int k0), .val (.int k1), .val (.int k2), .val (.int k3), .val (.int (1 : Int32)), .val (.int (1 : Int32)), .val (.int (1 : Int32)), .val (.ref b183), .val (.ref b190), .val (.ref b197), .val (.ref a199), .val (.ref b0)]) rfl 132 rfl ?_
        refine g_goto X220 at_132 182 (by decide) (by decide) ?_
        refine g_aload X220 at_182 rfl rfl 184 rfl ?_
        refine g_callVv X220 (hw _ (List.mem_of_getElem? (i := 74) rfl)) (hw _ (List.mem_of_getElem? (i := 75) rfl)) (hw _ (List.mem_of_getElem? (i := 77) rfl)) (hw _ (List.mem_of_getElem? (i := 76) rfl)) (hw _ (List.mem_of_getElem? (i := 2) rfl)) (hw _ (List.mem_of_getElem? (i := 78) rfl)) (nfSel (hw _ (List.mem_of_getElem? (i := 77) rfl))) (by decide) E215 (c_ti111 l Z a0 G a199 b183 b190 b197 b0 b1 b2 b3 b4 b5 bv kv h213 E215 F216 F217 F218 TT0) (by simp) (argsL := []) (rest := []) pd_9 rfl rfl rfl rfl 0 (Nat.le_of_eq rfl) (by decide) (by decide) (ck := 18) rfl (cs := 42) rfl (by decide) (by decide) at_184 187 rfl ?_
        intro w223 T221 h225 X222 hq224
        subst hq224
        refine g_aload X222 at_187 rfl rfl 189 rfl ?_
        refine g_acmpNo X222 at_189 rfl rfl (XT.aa_ne_f rfl) 192 rfl ?_
        refine g_iconst X222 (1 : Int32) at_192 (by decide) 193 rfl ?_
        refine g_goto X222 at_193 197 (by decide) (by decide) ?_
        exact g_retN X222 (t := .boolean) rfl (by simp) at_197 _ rfl (by decide) (by decide) rfl
    · refine g_ifNo X at_16 (XT.ii_eq_f hb16) 19 rfl ?_
      refine g_iconst X (1 : Int32) at_19 (by decide) 20 rfl ?_
      refine g_goto X at_20 24 (by decide) (by decide) ?_
      refine g_istore X at_24 (Ls' := #[.val (.int k0), .val (.int k1), .val (.int k2), .val (.int k3), .val (.int (1 : Int32)), .val (.int (1 : Int32)), .unset, .unset, .unset, .unset, .unset, .unset]) rfl 26 rfl ?_
      refine g_iloadN X at_26 rfl 27 rfl ?_
      refine g_iconst X (4 : Int32) at_27 (by decide) 28 rfl ?_
      refine g_iand X at_28 _ rfl 29 rfl ?_
      by_cases hb29 : (k0 &&& (4 : Int32)) = (0 : Int32)
      · refine g_ifYes X at_29 (XT.ii_eq_t hb29) 36 (by decide) (by decide) ?_
        refine g_iconst X (0 : Int32) at_36 (by decide) 37 rfl ?_
        refine g_istore X at_37 (Ls' := #[.val (.int k0), .val (.int k1), .val (.int k2), .val (.int k3), .val (.int (1 : Int32)), .val (.int (1 : Int32)), .val (.int (0 : Int32)), .unset, .unset, .unset, .unset, .unset]) rfl 39 rfl ?_
        refine g_iload X at_39 rfl 41 rfl ?_
        refine g_ifYes X at_41 (XT.ii_eq_t (by decide)) 52 (by decide) (by decide) ?_
        refine g_iload X at_52 rfl 54 rfl ?_
        refine g_ifNo X at_54 (XT.ii_eq_f (by decide)) 57 rfl ?_
        refine g_iloadN X at_57 rfl 58 rfl ?_
        refine g_callSv X (hw _ (List.mem_of_getElem? (i := 111) rfl)) (hw _ (List.mem_of_getElem? (i := 112) rfl)) (hw _ (List.mem_of_getElem? (i := 113) rfl)) (hw _ (List.mem_of_getElem? (i := 114) rfl)) (by decide) (c_vof l Z a0 G k1 ca cc h SH SCA BX) (by simp) (argsL := [.int k1]) (rest := []) pd_12 rfl rfl rfl rfl 0 (Nat.le_of_eq rfl) (by decide) (by decide) (ck := 1) rfl (cs := 1) rfl (by decide) (by decide) at_58 61 rfl ?_
        intro w228 T226 h230 X227 hq229
        obtain ⟨b231, rfl, E232⟩ := hq229
        refine g_goto X227 at_61 65 (by decide) (by decide) ?_
        refine g_astore X227 at_65 rfl (Ls' := #[.val (.int k0), .val (.int k1), .val (.int k2), .val (.int k3), .val (.int (1 : Int32)), .val (.int (1 : Int32)), .val (.int (0 : Int32)), .val (.ref b231), .unset, .unset, .unset, .unset]) rfl 67 rfl ?_
        refine g_iload X227 at_67 rfl 69 rfl ?_
        refine g_ifNo X227 at_69 (XT.ii_eq_f (by decide)) 72 rfl ?_
        refine g_iloadN X227 at_72 rfl 73 rfl ?_
        refine g_callSv X227 (hw _ (List.mem_of_getElem? (i := 86) rfl)) (hw _ (List.mem_of_getElem? (i := 87) rfl)) (hw _ (List.mem_of_getElem? (i := 88) rfl)) (hw _ (List.mem_of_getElem? (i := 89) rfl)) (by decide) (c_text l Z a0 G k2 h230) (by simp) (argsL := [.int k2]) (rest := []) pd_17 rfl rfl rfl rfl 0 (Nat.le_of_eq rfl) (by decide) (by decide) (ck := 7) rfl (cs := 13) rfl (by decide) (by decide) at_73 76 rfl ?_
        intro w235 T233 h237 X234 hq236
        obtain ⟨b238, rfl, E239⟩ := hq236
        refine g_goto X234 at_76 80 (by decide) (by decide) ?_
        refine g_astore X234 at_80 rfl (Ls' := #[.val (.int k0), .val (.int k1), .val (.int k2), .val (.int k3), .val (.int (1 : Int32)), .val (.int (1 : Int32)), .val (.int (0 : Int32)), .val (.ref b231), .val (.ref b238), .unset, .unset, .unset]) rfl 82 rfl ?_
        refine g_iload X234 at_82 rfl 84 rfl ?_
        refine g_ifYes X234 at_84 (XT.ii_eq_t (by decide)) 94 (by decide) (by decide) ?_
        refine g_aconstNull X234 at_94 95 rfl ?_
        refine g_astore X234 at_95 rfl (Ls' := #[.val (.int k0), .val (.int k1), .val (.int k2), .val (.int k3), .val (.int (1 : Int32)), .val (.int (1 : Int32)), .val (.int (0 : Int32)), .val (.ref b231), .val (.ref b238), .val (.null), .unset, .unset]) rfl 97 rfl ?_
        refine g_new X234 (hw _ (List.mem_of_getElem? (i := 0) rfl)) (hw _ (List.mem_of_getElem? (i := 1) rfl)) (hw _ (List.mem_of_getElem? (i := 2) rfl)) at_97 (ck := 8) rfl (cs := 16) rfl (by decide) (by decide) 100 rfl ?_
        intro a240 T241 h242 ea243 X244 E245 A246 D247
        have ne_b0_a240 : b0 ≠ a240 := by rw [ea243]; exact Nat.ne_of_lt (E0.ext X234.old).lt
        have ne_b1_a240 : b1 ≠ a240 := by rw [ea243]; exact Nat.ne_of_lt (E1.ext X234.old).lt
        have ne_b2_a240 : b2 ≠ a240 := by rw [ea243]; exact Nat.ne_of_lt (E2.ext X234.old).lt
        have ne_b3_a240 : b3 ≠ a240 := by rw [ea243]; exact Nat.ne_of_lt (E3.ext X234.old).lt
        have ne_b4_a240 : b4 ≠ a240 := by rw [ea243]; exact Nat.ne_of_lt (E4.ext X234.old).lt
        have ne_b5_a240 : b5 ≠ a240 := by rw [ea243]; exact Nat.ne_of_lt (E5.ext X234.old).lt
        have ne_bv_a240 : bv ≠ a240 := by rw [ea243]; exact Nat.ne_of_lt (EV.ext X234.old).lt
        have F248 : Fld Z h242 a240 "com/example/rowpath/rowpath/core/NodeMatch" "level" "Ljava/lang/Integer;" (.null) := D247 (Or.inr (hw _ (List.mem_of_getElem? (i := 68) rfl))) (ty := (.object "java/lang/Integer")) (by rfl)
        have F249 : Fld Z h242 a240 "com/example/rowpath/rowpath/core/NodeMatch" "type" "Ljava/lang/String;" (.null) := D247 (Or.inr (hw _ (List.mem_of_getElem? (i := 70) rfl))) (ty := (.object "java/lang/String")) (by rfl)
        have F250 : Fld Z h242 a240 "com/example/rowpath/rowpath/core/NodeMatch" "id" "Ljava/lang/String;" (.null) := D247 (Or.inr (hw _ (List.mem_of_getElem? (i := 72) rfl))) (ty := (.object "java/lang/String")) (by rfl)
        refine g_dup X244 at_100 rfl 101 rfl ?_
        refine g_aload X244 at_101 rfl rfl 103 rfl ?_
        refine g_aload X244 at_103 rfl rfl 105 rfl ?_
        refine g_aload X244 at_105 rfl rfl 107 rfl ?_
        refine g_callIn X244 rfl (hw _ (List.mem_of_getElem? (i := 3) rfl)) (hw _ (List.mem_of_getElem? (i := 4) rfl)) (hw _ (List.mem_of_getElem? (i := 2) rfl)) (hw _ (List.mem_of_getElem? (i := 5) rfl)) (by decide) (c_nm110 l Z a0 G a240 b231 b238 b0 b1 b2 b3 b4 b5 bv kv h242 A246 F248 F249 F250 TT0) (by simp) (argsL := [.ref b231, .ref b238, .null]) (rest := [.ref a240]) pd_18 rfl rfl rfl rfl 1 (Nat.le_of_eq rfl) (by decide) (by decide) (ck := 10) rfl (cs := 23) rfl (by decide) (by decide) at_107 110 rfl ?_
        intro T251 h254 X252 hq253
        obtain ⟨K255, E256, F257, F258, F259⟩ := hq253
        refine g_astore X252 at_110 rfl (Ls' := #[.val (.int k0), .val (.int k1), .val (.int k2), .val (.int k3), .val (.int (1 : Int32)), .val (.int (1 : Int32)), .val (.int (0 : Int32)), .val (.ref b231), .val (.ref b238), .val (.null), .val (.ref a240), .unset]) rfl 112 rfl ?_
        refine g_iload X252 at_112 rfl 114 rfl ?_
        refine g_ifNo X252 at_114 (XT.ii_eq_f (by decide)) 117 rfl ?_
        refine g_iload X252 at_117 rfl 119 rfl ?_
        refine g_ifNo X252 at_119 (XT.ii_eq_f (by decide)) 122 rfl ?_
        refine g_iload X252 at_122 rfl 124 rfl ?_
        refine g_ifYes X252 at_124 (XT.ii_eq_t (by decide)) 135 (by decide) (by decide) ?_
        refine g_getS X252 (Or.inl (hw _ (List.mem_of_getElem? (i := 151) rfl))) (host := "") Via.refl (S2.ext X252.old) at_135 138 rfl ?_
        intro T260 X261
        refine g_astore X261 at_138 rfl (Ls' := #[.val (.int k0), .val (.int k1), .val (.int k2), .val (.int k3), .val (.int (1 : Int32)), .val (.int (1 : Int32)), .val (.int (0 : Int32)), .val (.ref b231), .val (.ref b238), .val (.null), .val (.ref a240), .val (.ref b2)]) rfl 140 rfl ?_
        refine g_goto X261 at_140 182 (by decide) (by decide) ?_
        refine g_aload X261 at_182 rfl rfl 184 rfl ?_
        refine g_callVv X261 (hw _ (List.mem_of_getElem? (i := 74) rfl)) (hw _ (List.mem_of_getElem? (i := 75) rfl)) (hw _ (List.mem_of_getElem? (i := 77) rfl)) (hw _ (List.mem_of_getElem? (i := 76) rfl)) (hw _ (List.mem_of_getElem? (i := 2) rfl)) (hw _ (List.mem_of_getElem? (i := 78) rfl)) (nfSel (hw _ (List.mem_of_getElem? (i := 77) rfl))) (by decide) E256 (c_ti110 l Z a0 G a240 b231 b238 b0 b1 b2 b3 b4 b5 bv kv h254 E256 F257 F258 F259 TT0) (by simp) (argsL := []) (rest := []) pd_9 rfl rfl rfl rfl 0 (Nat.le_of_eq rfl) (by decide) (by decide) (ck := 12) rfl (cs := 30) rfl (by decide) (by decide) at_184 187 rfl ?_
        intro w264 T262 h266 X263 hq265
        subst hq265
        refine g_aload X263 at_187 rfl rfl 189 rfl ?_
        refine g_acmpNo X263 at_189 rfl rfl (XT.aa_ne_f rfl) 192 rfl ?_
        refine g_iconst X263 (1 : Int32) at_192 (by decide) 193 rfl ?_
        refine g_goto X263 at_193 197 (by decide) (by decide) ?_
        exact g_retN X263 (t := .boolean) rfl (by simp) at_197 _ rfl (by decide) (by decide) rfl
      · refine g_ifNo X at_29 (XT.ii_eq_f hb29) 32 rfl ?_
        refine g_iconst X (1 : Int32) at_32 (by decide) 33 rfl ?_
        refine g_goto X at_33 37 (by decide) (by decide) ?_
        refine g_istore X at_37 (Ls' := #[.val (.int k0), .val (.int k1), .val (.int k2), .val (.int k3), .val (.int (1 : Int32)), .val (.int (1 : Int32)), .val (.int (1 : Int32)), .unset, .unset, .unset, .unset, .unset]) rfl 39 rfl ?_
        refine g_iload X at_39 rfl 41 rfl ?_
        refine g_ifNo X at_41 (XT.ii_eq_f (by decide)) 44 rfl ?_
        refine g_iload X at_44 rfl 46 rfl ?_
        refine g_ifYes X at_46 (XT.ii_ne_t (by decide)) 52 (by decide) (by decide) ?_
        refine g_iload X at_52 rfl 54 rfl ?_
        refine g_ifNo X at_54 (XT.ii_eq_f (by decide)) 57 rfl ?_
        refine g_iloadN X at_57 rfl 58 rfl ?_
        refine g_callSv X (hw _ (List.mem_of_getElem? (i := 111) rfl)) (hw _ (List.mem_of_getElem? (i := 112) rfl)) (hw _ (List.mem_of_getElem? (i := 113) rfl)) (hw _ (List.mem_of_getElem? (i := 114) rfl)) (by decide) (c_vof l Z a0 G k1 ca cc h SH SCA BX) (by simp) (argsL := [.int k1]) (rest := []) pd_12 rfl rfl rfl rfl 0 (Nat.le_of_eq rfl) (by decide) (by decide) (ck := 1) rfl (cs := 1) rfl (by decide) (by decide) at_58 61 rfl ?_
        intro w269 T267 h271 X268 hq270
        obtain ⟨b272, rfl, E273⟩ := hq270
        refine g_goto X268 at_61 65 (by decide) (by decide) ?_
        refine g_astore X268 at_65 rfl (Ls' := #[.val (.int k0), .val (.int k1), .val (.int k2), .val (.int k3), .val (.int (1 : Int32)), .val (.int (1 : Int32)), .val (.int (1 : Int32)), .val (.ref b272), .unset, .unset, .unset, .unset]) rfl 67 rfl ?_
        refine g_iload X268 at_67 rfl 69 rfl ?_
        refine g_ifNo X268 at_69 (XT.ii_eq_f (by decide)) 72 rfl ?_
        refine g_iloadN X268 at_72 rfl 73 rfl ?_
        refine g_callSv X268 (hw _ (List.mem_of_getElem? (i := 86) rfl)) (hw _ (List.mem_of_getElem? (i := 87) rfl)) (hw _ (List.mem_of_getElem? (i := 88) rfl)) (hw _ (List.mem_of_getElem? (i := 89) rfl)) (by decide) (c_text l Z a0 G k2 h271) (by simp) (argsL := [.int k2]) (rest := []) pd_17 rfl rfl rfl rfl 0 (Nat.le_of_eq rfl) (by decide) (by decide) (ck := 7) rfl (cs := 13) rfl (by decide) (by decide) at_73 76 rfl ?_
        intro w276 T274 h278 X275 hq277
        obtain ⟨b279, rfl, E280⟩ := hq277
        refine g_goto X275 at_76 80 (by decide) (by decide) ?_
        refine g_astore X275 at_80 rfl (Ls' := #[.val (.int k0), .val (.int k1), .val (.int k2), .val (.int k3), .val (.int (1 : Int32)), .val (.int (1 : Int32)), .val (.int (1 : Int32)), .val (.ref b272), .val (.ref b279), .unset, .unset, .unset]) rfl 82 rfl ?_
        refine g_iload X275 at_82 rfl 84 rfl ?_
        refine g_ifNo X275 at_84 (XT.ii_eq_f (by decide)) 87 rfl ?_
        refine g_iloadN X275 at_87 rfl 88 rfl ?_
        refine g_callSv X275 (hw _ (List.mem_of_getElem? (i := 86) rfl)) (hw _ (List.mem_of_getElem? (i := 87) rfl)) (hw _ (List.mem_of_getElem? (i := 88) rfl)) (hw _ (List.mem_of_getElem? (i := 89) rfl)) (by decide) (c_text l Z a0 G k3 h278) (by simp) (argsL := [.int k3]) (rest := []) pd_17 rfl rfl rfl rfl 0 (Nat.le_of_eq rfl) (by decide) (by decide) (ck := 13) rfl (cs := 25) rfl (by decide) (by decide) at_88 91 rfl ?_
        intro w283 T281 h285 X282 hq284
        obtain ⟨b286, rfl, E287⟩ := hq284
        refine g_goto X282 at_91 95 (by decide) (by decide) ?_
        refine g_astore X282 at_95 rfl (Ls' := #[.val (.int k0), .val (.int k1), .val (.int k2), .val (.int k3), .val (.int (1 : Int32)), .val (.int (1 : Int32)), .val (.int (1 : Int32)), .val (.ref b272), .val (.ref b279), .val (.ref b286), .unset, .unset]) rfl 97 rfl ?_
        refine g_new X282 (hw _ (List.mem_of_getElem? (i := 0) rfl)) (hw _ (List.mem_of_getElem? (i := 1) rfl)) (hw _ (List.mem_of_getElem? (i := 2) rfl)) at_97 (ck := 14) rfl (cs := 28) rfl (by decide) (by decide) 100 rfl ?_
        intro a288 T289 h290 ea291 X292 E293 A294 D295
        have ne_b0_a288 : b0 ≠ a288 := by rw [ea291]; exact Nat.ne_of_lt (E0.ext X282.old).lt
        have ne_b1_a288 : b1 ≠ a288 := by rw [ea291]; exact Nat.ne_of_lt (E1.ext X282.old).lt
        have ne_b2_a288 : b2 ≠ a288 := by rw [ea291]; exact Nat.ne_of_lt (E2.ext X282.old).lt
        have ne_b3_a288 : b3 ≠ a288 := by rw [ea291]; exact Nat.ne_of_lt (E3.ext X282.old).lt
        have ne_b4_a288 : b4 ≠ a288 := by rw [ea291]; exact Nat.ne_of_lt (E4.ext X282.old).lt
        have ne_b5_a288 : b5 ≠ a288 := by rw [ea291]; exact Nat.ne_of_lt (E5.ext X282.old).lt
        have ne_bv_a288 : bv ≠ a288 := by rw [ea291]; exact Nat.ne_of_lt (EV.ext X282.old).lt
        have F296 : Fld Z h290 a288 "com/example/rowpath/rowpath/core/NodeMatch" "level" "Ljava/lang/Integer;" (.null) := D295 (Or.inr (hw _ (List.mem_of_getElem? (i := 68) rfl))) (ty := (.object "java/lang/Integer")) (by rfl)
        have F297 : Fld Z h290 a288 "com/example/rowpath/rowpath/core/NodeMatch" "type" "Ljava/lang/String;" (.null) := D295 (Or.inr (hw _ (List.mem_of_getElem? (i := 70) rfl))) (ty := (.object "java/lang/String")) (by rfl)
        have F298 : Fld Z h290 a288 "com/example/rowpath/rowpath/core/NodeMatch" "id" "Ljava/lang/String;" (.null) := D295 (Or.inr (hw _ (List.mem_of_getElem? (i := 72) rfl))) (ty := (.object "java/lang/String")) (by rfl)
        refine g_dup X292 at_100 rfl 101 rfl ?_
        refine g_aload X292 at_101 rfl rfl 103 rfl ?_
        refine g_aload X292 at_103 rfl rfl 105 rfl ?_
        refine g_aload X292 at_105 rfl rfl 107 rfl ?_
        refine g_callIn X292 rfl (hw _ (List.mem_of_getElem? (i := 3) rfl)) (hw _ (List.mem_of_getElem? (i := 4) rfl)) (hw _ (List.mem_of_getElem? (i := 2) rfl)) (hw _ (List.mem_of_getElem? (i := 5) rfl)) (by decide) (c_nm111 l Z a0 G a288 b272 b279 b286 b0 b1 b2 b3 b4 b5 bv kv h290 A294 F296 F297 F298 TT0) (by simp) (argsL := [.ref b272, .ref b279, .ref b286]) (rest := [.ref a288]) pd_18 rfl rfl rfl rfl 1 (Nat.le_of_eq rfl) (by decide) (by decide) (ck := 16) rfl (cs := 35) rfl (by decide) (by decide) at_107 110 rfl ?_
        intro T299 h302 X300 hq301
        obtain ⟨K303, E304, F305, F306, F307⟩ := hq301
        refine g_astore X300 at_110 rfl (Ls' := #[.val (.int k0), .val (.int k1), .val (.int k2), .val (.int k3), .val (.int (1 : Int32)), .val (.int (1 : Int32)), .val (.int (1 : Int32)), .val (.ref b272), .val (.ref b279), .val (.ref b286), .val (.ref a288), .unset]) rfl 112 rfl ?_
        refine g_iload X300 at_112 rfl 114 rfl ?_
        refine g_ifNo X300 at_114 (XT.ii_eq_f (by decide)) 117 rfl ?_
        refine g_iload X300 at_117 rfl 119 rfl ?_
        refine g_ifNo X300 at_119 (XT.ii_eq_f (by decide)) 122 rfl ?_
        refine g_iload X300 at_122 rfl 124 rfl ?_
        refine g_ifNo X300 at_124 (XT.ii_eq_f (by decide)) 127 rfl ?_
        refine g_getS X300 (Or.inl (hw _ (List.mem_of_getElem? (i := 132) rfl))) (host := "") Via.refl (S0.ext X300.old) at_127 130 rfl ?_
        intro T308 X309
        refine g_astore X309 at_130 rfl (Ls' := #[.val (.int k0), .val (.int k1), .val (.int k2), .val (.int k3), .val (.int (1 : Int32)), .val (.int (1 : Int32)), .val (.int (1 : Int32)), .val (.ref b272), .val (.ref b279), .val (.ref b286), .val (.ref a288), .val (.ref b0)]) rfl 132 rfl ?_
        refine g_goto X309 at_132 182 (by decide) (by decide) ?_
        refine g_aload X309 at_182 rfl rfl 184 rfl ?_
        refine g_callVv X309 (hw _ (List.mem_of_getElem? (i := 74) rfl)) (hw _ (List.mem_of_getElem? (i := 75) rfl)) (hw _ (List.mem_of_getElem? (i := 77) rfl)) (hw _ (List.mem_of_getElem? (i := 76) rfl)) (hw _ (List.mem_of_getElem? (i := 2) rfl)) (hw _ (List.mem_of_getElem? (i := 78) rfl)) (nfSel (hw _ (List.mem_of_getElem? (i := 77) rfl))) (by decide) E304 (c_ti111 l Z a0 G a288 b272 b279 b286 b0 b1 b2 b3 b4 b5 bv kv h302 E304 F305 F306 F307 TT0) (by simp) (argsL := []) (rest := []) pd_9 rfl rfl rfl rfl 0 (Nat.le_of_eq rfl) (by decide) (by decide) (ck := 18) rfl (cs := 42) rfl (by decide) (by decide) at_184 187 rfl ?_
        intro w312 T310 h314 X311 hq313
        subst hq313
        refine g_aload X311 at_187 rfl rfl 189 rfl ?_
        refine g_acmpNo X311 at_189 rfl rfl (XT.aa_ne_f rfl) 192 rfl ?_
        refine g_iconst X311 (1 : Int32) at_192 (by decide) 193 rfl ?_
        refine g_goto X311 at_193 197 (by decide) (by decide) ?_
        exact g_retN X311 (t := .boolean) rfl (by simp) at_197 _ rfl (by decide) (by decide) rfl
set_option maxRecDepth 65536 in
set_option maxHeartbeats 40000000 in
theorem comes_1 {Post : Tables → Env → Array Value → State → Outcome → State → Prop} (hpost : ∀ tb e args s v u, (limb_1_1.after args s (.returned v) u = true ∧ limb_1_2.after args s (.returned v) u = true) → FramedW s (.returned v) u (Jvm.fieldLocs frame_1_writes args s ++ Jvm.arrayLocs frame_1_arrays args s ++ Jvm.staticLocs frame_1_statics s) 40 1216 → Post tb e args s (.returned v) u) :
    ArmFor flags0 classFile x code maxLocals ret World_1 tables_1 room_1 Calls_1 rest_1 Pre_1 Post := by
  intro l hfl _ _ p e ha hc hk s m args below hf hA hF happ hP
  obtain ⟨hcalls, hrest, hpre⟩ := hP
  obtain ⟨-, -, -, hnamed, -, -, -, hat⟩ := (Spec.applies_iff hf).mp happ
  obtain ⟨hg, hn⟩ := and_e (Cond.before_iff.mp (show (Jvm.Cond.and given_1 narrow_1).before args s = true from hpre))
  obtain ⟨h1, hg⟩ := and_e hg
  obtain ⟨w0, w1, w2, w3, rfl⟩ : ∃ w0 w1 w2 w3 : Value, args = #[w0, w1, w2, w3] := by
    have hs : args.size = 4 := by simpa [Cond.value, given_1] using h1
    obtain ⟨L⟩ := args
    match L, hs with
    | [w0, w1, w2, w3], _ => exact ⟨w0, w1, w2, w3, rfl⟩
  have hw := fun d (hd : d ∈ tables_1) => atoms_spec (ws := Jvm.Cond.code x code maxLocals ret :: tables_1) hat d (List.mem_cons_of_mem _ hd)
  obtain ⟨g0, hg⟩ := and_e hg
  obtain ⟨g1, hg⟩ := and_e hg
  obtain ⟨g2, hg⟩ := and_e hg
  have g3 := hg
  obtain ⟨i0, e0⟩ := is_v g0
  obtain rfl : w0 = (.int i0) := Option.some.inj e0
  obtain ⟨i1, e1⟩ := is_v g1
  obtain rfl : w1 = (.int i1) := Option.some.inj e1
  obtain ⟨i2, e2⟩ := is_v g2
  obtain rfl : w2 = (.int i2) := Option.some.inj e2
  obtain ⟨i3, e3⟩ := is_v g3
  obtain rfl : w3 = (.int i3) := Option.some.inj e3
  have hfit : Fit s := fun {y c} hc i hi => by
    obtain ⟨ha, rfl⟩ := Array.getElem?_eq_some_iff.mp hc
    have q := List.all_eq_true.mp ((Array.all_eq_true_iff_forall_mem.mp hF) _ (Array.getElem_mem ha)) i (List.mem_range.mpr hi)
    simpa [Array.getElem?_eq_getElem hi] using q
  obtain ⟨q0, hn⟩ := and_e hn
  obtain ⟨q1, hn⟩ := and_e hn
  obtain ⟨q2, hn⟩ := and_e hn
  obtain ⟨q3, hn⟩ := and_e hn
  obtain ⟨q4, hn⟩ := and_e hn
  obtain ⟨q5, hn⟩ := and_e hn
  obtain ⟨q6, hn⟩ := and_e hn
  obtain ⟨q7, hn⟩ := and_e hn
  obtain ⟨q8, hn⟩ := and_e hn
  obtain ⟨q9, hn⟩ := and_e hn
  obtain ⟨q10, hn⟩ := and_e hn
  obtain ⟨q11, hn⟩ := and_e hn
  obtain ⟨q12, hn⟩ := and_e hn
  obtain ⟨q13, hn⟩ := and_e hn
  obtain ⟨q14, hn⟩ := and_e hn
  obtain ⟨q15, hn⟩ := and_e hn
  obtain ⟨q16, hn⟩ := and_e hn
  obtain ⟨q17, hn⟩ := and_e hn
  obtain ⟨q18, hn⟩ := and_e hn
  obtain ⟨q19, hn⟩ := and_e hn
  obtain ⟨q20, hn⟩ := and_e hn
  obtain ⟨q21, hn⟩ := and_e hn
  obtain ⟨q22, hn⟩ := and_e hn
  obtain ⟨q23, hn⟩ := and_e hn
  obtain ⟨q24, hn⟩ := and_e hn
  obtain ⟨q25, hn⟩ := and_e hn
  obtain ⟨q26, hn⟩ := and_e hn
  obtain ⟨q27, hn⟩ := and_e hn
  obtain ⟨q28, hn⟩ := and_e hn
  obtain ⟨q29, hn⟩ := and_e hn
  obtain ⟨q30, hn⟩ := and_e hn
  obtain ⟨q31, hn⟩ := and_e hn
  have q32 := hn
  obtain ⟨hsets, hown0⟩ := atoms_of _ (rest_1_c_eq ▸ (show rest_1_c.before _ s = true from hrest))
  obtain ⟨b0, t_b0⟩ := exa_v q3
  have S0 := Sta.start t_b0 (Or.inr ⟨(hw _ (List.mem_of_getElem? (i := 16) rfl)), (hw _ (List.mem_of_getElem? (i := 30) rfl))⟩)
  have E0 := Exa.start t_b0 q3
  have F0level := own_fldI t_b0 q15
  have F0type := own_fldI t_b0 q26
  have F0id := own_fldI t_b0 q27
  obtain ⟨b1, t_b1⟩ := exa_v q5
  have S1 := Sta.start t_b1 (Or.inr ⟨(hw _ (List.mem_of_getElem? (i := 16) rfl)), (hw _ (List.mem_of_getElem? (i := 31) rfl))⟩)
  have E1 := Exa.start t_b1 q5
  have F1level := own_fldI t_b1 q16
  have F1type := own_fldI t_b1 q17
  have F1id := own_fldI t_b1 q25
  obtain ⟨b2, t_b2⟩ := exa_v q7
  have S2 := Sta.start t_b2 (Or.inr ⟨(hw _ (List.mem_of_getElem? (i := 16) rfl)), (hw _ (List.mem_of_getElem? (i := 32) rfl))⟩)
  have E2 := Exa.start t_b2 q7
  have F2level := own_fldI t_b2 q18
  have F2type := own_fldI t_b2 q29
  have F2id := own_fldI t_b2 q32
  obtain ⟨b3, t_b3⟩ := exa_v q9
  have S3 := Sta.start t_b3 (Or.inr ⟨(hw _ (List.mem_of_getElem? (i := 16) rfl)), (hw _ (List.mem_of_getElem? (i := 33) rfl))⟩)
  have E3 := Exa.start t_b3 q9
  have F3level := own_fldI t_b3 q19
  have F3type := own_fldI t_b3 q20
  have F3id := own_fldI t_b3 q28
  obtain ⟨b4, t_b4⟩ := exa_v q11
  have S4 := Sta.start t_b4 (Or.inr ⟨(hw _ (List.mem_of_getElem? (i := 16) rfl)), (hw _ (List.mem_of_getElem? (i := 34) rfl))⟩)
  have E4 := Exa.start t_b4 q11
  have F4level := own_fldI t_b4 q21
  have F4type := own_fldI t_b4 q30
  have F4id := own_fldI t_b4 q31
  obtain ⟨b5, t_b5⟩ := exa_v q13
  have S5 := Sta.start t_b5 (Or.inr ⟨(hw _ (List.mem_of_getElem? (i := 16) rfl)), (hw _ (List.mem_of_getElem? (i := 35) rfl))⟩)
  have E5 := Exa.start t_b5 q13
  have F5level := own_fldI t_b5 q22
  have F5type := own_fldI t_b5 q23
  have F5id := own_fldI t_b5 q24
  obtain ⟨bv, t_bv⟩ := exa_v q1
  have SV := Sta.start t_bv (Or.inl (hw _ (List.mem_of_getElem? (i := 36) rfl)))
  have EV := Exa.start t_bv q1
  obtain ⟨cl_bv, A0_bv⟩ := Arr.start t_bv q0
  have l_bv := own_len A0_bv t_bv q2
  have AV : Arv s s.heap bv cl_bv.cls (Jvm.ClassFile.FieldType.object "com/example/rowpath/rowpath/core/NodeMatch$Tier") (6 : Int32) [.ref b0, .ref b1, .ref b2, .ref b3, .ref b4, .ref b5] .null := Arv.start hfit A0_bv l_bv.1 l_bv.2 (by decide) (by rfl) ⟨own_elem A0_bv t_bv t_b0 q4, own_elem A0_bv t_bv t_b1 q6, own_elem A0_bv t_bv t_b2 q8, own_elem A0_bv t_bv t_b3 q10, own_elem A0_bv t_bv t_b4 q12, own_elem A0_bv t_bv t_b5 q14, trivial⟩
  have eH := eqv_i (Term.int_eval (127 : Int32)) (Cond.before_iff.mp (hsets _ (List.mem_of_getElem? (i := 3) rfl)))
  have SH := Sta.start eH (Or.inl (hsets _ (List.mem_of_getElem? (i := 1) rfl)))
  obtain ⟨ca, tca⟩ := exa_v (Cond.before_iff.mp (hsets _ (List.mem_of_getElem? (i := 5) rfl)))
  have SCA := Sta.start tca (Or.inr ⟨(hw _ (List.mem_of_getElem? (i := 116) rfl)), (hsets _ (List.mem_of_getElem? (i := 2) rfl))⟩)
  obtain ⟨cc, AC⟩ := Arr.start tca (Cond.before_iff.mp (hsets _ (List.mem_of_getElem? (i := 4) rfl)))
  have lc := own_len AC tca (Cond.before_iff.mp (hsets _ (List.mem_of_getElem? (i := 6) rfl)))
  have BX : Bxs s ca cc "java/lang/Integer" "I" (256 : Int32) (fun j => .int (j - 128)) := Bxs.start (F := .sub (.index 0) (.int 128)) (fun _ => tca) AC lc.1 lc.2 (by decide) (Cond.before_iff.mp (hsets _ (List.mem_of_getElem? (i := 7) rfl))) (fun X j hj hX => eqv_i (own_sub (idx_at hj) (Term.int_eval 128)) hX)
  obtain ⟨zc, ezc⟩ := is_v (Cond.before_iff.mp (hsets _ (List.mem_of_getElem? (i := 9) rfl)))
  have SC : Sta s s.heap "java/lang/String" "COMPACT_STRINGS" "Z" (.int zc) := Sta.start ezc (Or.inl (hsets _ (List.mem_of_getElem? (i := 8) rfl)))
  have hz : ¬ zc = 0 := fun q => by
    have n5 := not_v (Cond.before_iff.mp (hsets _ (List.mem_of_getElem? (i := 10) rfl)))
    exact absurd q (gotF (Cond.eq_ints ezc (Term.int_eval 0)) n5)
  obtain ⟨fm, efm, hfm⟩ := isR_v (Cond.before_iff.mp (hsets _ (List.mem_of_getElem? (i := 16) rfl)))
  have SF : Sta s s.heap "jdk/internal/util/Preconditions" "SIOOBE_FORMATTER" "Ljava/util/function/BiFunction;" fm := Sta.start efm (Or.inl (hsets _ (List.mem_of_getElem? (i := 15) rfl)))
  have hSA : ∀ a ∈ Bundle.stringAtoms, a.before _ s = true := fun d hd => hw d ((by decide +kernel : ∀ d ∈ Bundle.stringAtoms, d ∈ tables_1) d hd)
  have hEW : EW s _ EL := (EW.cons (hw _ (List.mem_of_getElem? (i := 102) rfl)) (by decide) EW.nil)
  have TT : Tiers s b0 b1 b2 b3 b4 b5 bv cl_bv.cls := ⟨S0, E0, F0level, F0type, F0id, S1, E1, F1level, F1type, F1id, S2, E2, F2level, F2type, F2id, S3, E3, F3level, F3type, F3id, S4, E4, F4level, F4type, F4id, S5, E5, F5level, F5type, F5id, SV, EV, AV⟩
  have G : Gl s #[.int i0, .int i1, .int i2, .int i3] := ⟨hw, hEW, hSA, ⟨zc, SC, hz⟩, ⟨fm, SF, hfm⟩⟩
  obtain ⟨n, o, h1, h2, h3, v, L, rfl, hQ, N, -, -, hq, hnw⟩ := c_law l s _ G i0 i1 i2 i3 ca cc b0 b1 b2 b3 b4 b5 bv _ s.heap SH SCA BX TT tables_1 p e ha hc hk s m _ below hf ((Spec.applies_iff_loose hf).mp happ).1 ⟨rfl, State.Warmed39.refl s, rfl, Ext.refl _, (CHv.start hEW (fun p hp => hcalls.1 p hp) (hsets _ (List.mem_of_getElem? (i := 10) rfl)) (hw _ (List.mem_of_getElem? (i := 103) rfl)) (hw _ (List.mem_of_getElem? (i := 91) rfl))), fun _ q => nomatch q⟩ trivial
  obtain ⟨rfl⟩ : v = some (.int 1) := hQ
  exact ⟨n, _, h1, h2, h3, hpost _ _ _ _ _ _ ⟨Cond.after_iff.mpr rfl, Cond.after_iff.mpr (eq_i res_at (Term.int_eval (1)) rfl)⟩ ⟨hq.1, hq.2.1, hq.2.2.1, (hq.2.2.2.sift fun y hy => Or.inr (N y hy)).mono (by decide) (by decide)⟩⟩
theorem main_1_1 : Claimed_1_1 := comes_1 fun _ _ _ _ _ _ h hF => ⟨h.1, hF⟩
theorem main_1_2 : Claimed_1_2 := comes_1 fun _ _ _ _ _ _ h hF => ⟨h.2, hF⟩
end Jvm.Pilot.@@N@@
namespace Jvm.Pilot.@@N@@
open Jvm Jvm.ClassFile Sem Op Lib Jvm.Free Jvm.Stand Jvm.Pilot.@@N@@.Jvm.D
/-! MADE BY PROGRAM (witnessworld.py) out of the Statement's table words and the real class files: 30 classes; the members and pool entries that the words name. The judged class is class 1, her method 1. -/
namespace start1
open Jvm.ClassFile
def u (s : String) : CpInfo := .utf8 (stringToUtf16 s)
/-- a pool by its gaps: so many unusable entries, then the entry; so many at the end -/
def gap : Nat → List CpInfo → List CpInfo
  | 0, r => r
  | n + 1, r => .unusable :: gap n r
def poolList (es : List (Nat × CpInfo)) (last : Nat) : List CpInfo := es.foldr (fun e r => gap e.1 (e.2 :: r)) (gap last [])
def pool (es : List (Nat × CpInfo)) (last : Nat) : Array CpInfo := ⟨poolList es last⟩
def fileOf (pool : Array CpInfo) (this : Nat) (attrs : Array Attribute := #[]) (ms : Array MethodInfo := #[]) (fl : Nat := 33) (sup : Nat := 0) (ifs : Array Nat := #[]) (fds : Array FieldInfo := #[]) : ClassFile where
  minorVersion := 0
  majorVersion := 65
  constantPool := pool
  accessFlags := fl
  thisClass := this
  superClass := sup
  interfaces := ifs
  fields := fds
  methods := ms
  attributes := attrs
def plain (name : String) (sup : Option ClassId) : Class where
  name := name
  kind := .ordinary
  loader := none
  accessFlags := 33
  super := sup
  interfaces := #[]
  cf := none
  fields := #[]
  methods := #[]
  instanceTypes := #[]
  staticTypes := #[]
  resolved := #[]
  callSites := []
  init := .initialized
  statics := none
  mirror := none

def pool0 : Array CpInfo := pool [(5, u "<init>"), (0, u "()V"), (1, .class_ 10), (1, u "java/lang/Object"), (85, u "clone"), (0, u "()Ljava/lang/Object;")] 26

def k0c0 : Code := { maxStack := 0, maxLocals := 1, code := object_method_1_code, exceptionTable := #[], attributes := #[] }
def k0m0 : Method := { name := "<init>", desc := "()V", sig := { parameters := [], returnType := none }, accessFlags := 1, code := some k0c0 }
def k0m1 : Method := { name := "clone", desc := "()Ljava/lang/Object;", sig := { parameters := [], returnType := some (.object "java/lang/Object") }, accessFlags := 260, code := none }
/-- java/lang/Object -/
def k0 : Class := { plain "java/lang/Object" none with
  accessFlags := 33
  interfaces := #[]
  cf := some (fileOf pool0 8 #[] #[{ accessFlags := 1, nameIndex := 5, descriptorIndex := 6, attributes := #[] }, { accessFlags := 260, nameIndex := 96, descriptorIndex := 97, attributes := #[] }] 33 0 #[] #[])
  fields := #[]
  methods := #[k0m0, k0m1]
  instanceTypes := #[]
  staticTypes := #[]
  resolved := Array.replicate 124 none
  statics := none }

def pool1 : Array CpInfo := pool [(2, .class_ 4), (1, u "java/lang/Object"), (0, u "<init>"), (0, u "()V"), (0, .methodref 8 9), (0, .class_ 10), (0, .nameAndType 11 12), (0, u "java/lang/Integer"), (0, u "valueOf"), (0, u "(I)Ljava/lang/Integer;"), (0, .methodref 14 15), (0, .class_ 16), (0, .nameAndType 17 18), (0, u "com/example/rowpath/rowpath/core/NodeMatchTierPinLaw"), (0, u "text"), (0, u "(I)Ljava/lang/String;"), (0, .class_ 20), (0, u "com/example/rowpath/rowpath/core/NodeMatch"), (0, .methodref 19 22), (0, .nameAndType 5 23), (0, u "(Ljava/lang/Integer;Ljava/lang/String;Ljava/lang/String;)V"), (0, .fieldref 25 26), (0, .class_ 27), (0, .nameAndType 28 29), (0, u "com/example/rowpath/rowpath/core/NodeMatch$Tier"), (0, u "LEVEL_TYPE_ID"), (0, u "Lcom/example/rowpath/rowpath/core/NodeMatch$Tier;"), (0, .fieldref 25 31), (0, .nameAndType 32 29), (0, u "LEVEL_TYPE"), (0, .fieldref 25 34), (0, .nameAndType 35 29), (0, u "LEVEL"), (0, .fieldref 25 37), (0, .nameAndType 38 29), (0, u "TYPE_ID"), (0, .fieldref 25 40), (0, .nameAndType 41 29), (0, u "TYPE"), (0, .fieldref 25 43), (0, .nameAndType 44 29), (0, u "NONE"), (0, .methodref 19 46), (0, .nameAndType 47 48), (0, u "tier"), (0, u "()Lcom/example/rowpath/rowpath/core/NodeMatch$Tier;"), (0, .class_ 50), (0, u "java/lang/String"), (0, .methodref 49 52), (0, .nameAndType 5 53), (0, u "([C)V"), (0, .methodref 49 55), (0, .nameAndType 11 56), (0, u "(C)Ljava/lang/String;"), (2, u "law"), (0, u "(IIII)Z")] 5

def k1m0 : Method := { name := "<init>", desc := "()V", sig := { parameters := [], returnType := none }, accessFlags := 1, code := none }
def k1c1 : Code := { maxStack := 5, maxLocals := 12, code := code, exceptionTable := #[], attributes := #[] }
def k1m1 : Method := { name := "law", desc := "(IIII)Z", sig := { parameters := [.int, .int, .int, .int], returnType := some .boolean }, accessFlags := 9, code := some k1c1 }
def k1c2 : Code := { maxStack := 6, maxLocals := 4, code := method_3_code, exceptionTable := #[], attributes := #[] }
def k1m2 : Method := { name := "text", desc := "(I)Ljava/lang/String;", sig := { parameters := [.int], returnType := some (.object "java/lang/String") }, accessFlags := 10, code := some k1c2 }
/-- com/example/rowpath/rowpath/core/NodeMatchTierPinLaw -/
def k1 : Class := { plain "com/example/rowpath/rowpath/core/NodeMatchTierPinLaw" (some 0) with
  accessFlags := 49
  interfaces := #[]
  cf := some (fileOf pool1 14 #[] #[{ accessFlags := 1, nameIndex := 5, descriptorIndex := 6, attributes := #[] }, { accessFlags := 9, nameIndex := 59, descriptorIndex := 60, attributes := #[] }, { accessFlags := 10, nameIndex := 17, descriptorIndex := 18, attributes := #[] }] 49 2 #[] #[])
  fields := #[]
  methods := #[k1m0, k1m1, k1m2]
  instanceTypes := #[]
  staticTypes := #[]
  resolved := Array.replicate 66 none
  statics := none }

def pool2 : Array CpInfo := pool [(1, .methodref 2 3), (0, .class_ 4), (0, .nameAndType 5 6), (0, u "java/lang/Object"), (0, u "<init>"), (0, u "()V"), (0, .class_ 8), (0, u "java/lang/Record")] 13

def k2c0 : Code := { maxStack := 1, maxLocals := 1, code := jdk_30_method_1_code, exceptionTable := #[], attributes := #[] }
def k2m0 : Method := { name := "<init>", desc := "()V", sig := { parameters := [], returnType := none }, accessFlags := 4, code := some k2c0 }
/-- java/lang/Record -/
def k2 : Class := { plain "java/lang/Record" (some 0) with
  accessFlags := 1057
  interfaces := #[]
  cf := some (fileOf pool2 7 #[] #[{ accessFlags := 4, nameIndex := 5, descriptorIndex := 6, attributes := #[] }] 1057 2 #[] #[])
  fields := #[]
  methods := #[k2m0]
  instanceTypes := #[]
  staticTypes := #[]
  resolved := Array.replicate 22 none
  statics := none }

def pool3 : Array CpInfo := pool [(1, .methodref 2 3), (0, .class_ 4), (0, .nameAndType 5 6), (0, u "java/lang/Record"), (0, u "<init>"), (0, u "()V"), (0, .methodref 8 9), (0, .class_ 10), (0, .nameAndType 11 12), (0, u "com/example/rowpath/rowpath/core/NodeMatch$Tier"), (0, u "of"), (0, u "(ZZZ)Ljava/util/Optional;"), (0, .methodref 14 15), (0, .class_ 16), (0, .nameAndType 17 18), (0, u "java/util/Optional"), (0, u "isEmpty"), (0, u "()Z"), (7, .fieldref 27 28), (0, .class_ 29), (0, .nameAndType 30 31), (0, u "com/example/rowpath/rowpath/core/NodeMatch"), (0, u "level"), (0, u "Ljava/lang/Integer;"), (0, .fieldref 27 33), (0, .nameAndType 34 35), (0, u "type"), (0, u "Ljava/lang/String;"), (0, .fieldref 27 37), (0, .nameAndType 38 35), (0, u "id"), (0, .methodref 14 40), (0, .nameAndType 41 42), (0, u "orElseThrow"), (0, u "()Ljava/lang/Object;"), (47, u "tier"), (0, u "()Lcom/example/rowpath/rowpath/core/NodeMatch$Tier;"), (15, u "(Ljava/lang/Integer;Ljava/lang/String;Ljava/lang/String;)V")] 35

def k3c0 : Code := { maxStack := 3, maxLocals := 4, code := prog_47_method_1_code, exceptionTable := #[], attributes := #[] }
def k3m0 : Method := { name := "<init>", desc := "(Ljava/lang/Integer;Ljava/lang/String;Ljava/lang/String;)V", sig := { parameters := [(.object "java/lang/Integer"), (.object "java/lang/String"), (.object "java/lang/String")], returnType := none }, accessFlags := 1, code := some k3c0 }
def k3c1 : Code := { maxStack := 3, maxLocals := 1, code := prog_47_method_2_code, exceptionTable := #[], attributes := #[] }
def k3m1 : Method := { name := "tier", desc := "()Lcom/example/rowpath/rowpath/core/NodeMatch$Tier;", sig := { parameters := [], returnType := some (.object "com/example/rowpath/rowpath/core/NodeMatch$Tier") }, accessFlags := 1, code := some k3c1 }
/-- com/example/rowpath/rowpath/core/NodeMatch -/
def k3 : Class := { plain "com/example/rowpath/rowpath/core/NodeMatch" (some 2) with
  accessFlags := 49
  interfaces := #[]
  cf := some (fileOf pool3 27 #[.nestMembers #[8]] #[{ accessFlags := 1, nameIndex := 5, descriptorIndex := 107, attributes := #[] }, { accessFlags := 1, nameIndex := 90, descriptorIndex := 91, attributes := #[] }] 49 2 #[] #[{ accessFlags := 18, nameIndex := 30, descriptorIndex := 31, attributes := #[] }, { accessFlags := 18, nameIndex := 34, descriptorIndex := 35, attributes := #[] }, { accessFlags := 18, nameIndex := 38, descriptorIndex := 35, attributes := #[] }])
  fields := #[{ name := "level", type := (.object "java/lang/Integer"), accessFlags := 18, slot := 0, constantValue := 0 }, { name := "type", type := (.object "java/lang/String"), accessFlags := 18, slot := 1, constantValue := 0 }, { name := "id", type := (.object "java/lang/String"), accessFlags := 18, slot := 2, constantValue := 0 }]
  methods := #[k3m0, k3m1]
  instanceTypes := #[(.object "java/lang/Integer"), (.object "java/lang/String"), (.object "java/lang/String")]
  staticTypes := #[]
  resolved := Array.replicate 143 none
  statics := none }

def pool4 : Array CpInfo := pool [(1, .class_ 2), (0, u "java/lang/constant/Constable"), (0, .class_ 4), (0, u "java/lang/Object")] 6

/-- java/lang/constant/Constable -/
def k4 : Class := { plain "java/lang/constant/Constable" (some 0) with
  accessFlags := 1537
  interfaces := #[]
  cf := some (fileOf pool4 1 #[] #[] 1537 3 #[] #[])
  fields := #[]
  methods := #[]
  instanceTypes := #[]
  staticTypes := #[]
  resolved := Array.replicate 11 none
  statics := none }

def pool5 : Array CpInfo := pool [(1, .class_ 2), (0, u "java/lang/Comparable"), (0, .class_ 4), (0, u "java/lang/Object")] 7

/-- java/lang/Comparable -/
def k5 : Class := { plain "java/lang/Comparable" (some 0) with
  accessFlags := 1537
  interfaces := #[]
  cf := some (fileOf pool5 1 #[] #[] 1537 3 #[] #[])
  fields := #[]
  methods := #[]
  instanceTypes := #[]
  staticTypes := #[]
  resolved := Array.replicate 12 none
  statics := none }

def pool6 : Array CpInfo := pool [(1, .class_ 2), (0, u "java/io/Serializable"), (0, .class_ 4), (0, u "java/lang/Object")] 2

/-- java/io/Serializable -/
def k6 : Class := { plain "java/io/Serializable" (some 0) with
  accessFlags := 1537
  interfaces := #[]
  cf := some (fileOf pool6 1 #[] #[] 1537 3 #[] #[])
  fields := #[]
  methods := #[]
  instanceTypes := #[]
  staticTypes := #[]
  resolved := Array.replicate 7 none
  statics := none }

def pool7 : Array CpInfo := pool [(2, .class_ 4), (1, u "java/lang/Enum"), (0, u "name"), (0, u "Ljava/lang/String;"), (2, u "ordinal"), (0, u "I"), (1, .class_ 14), (1, u "java/lang/Object"), (4, u "hash"), (86, .class_ 108), (1, u "java/lang/Enum$EnumDesc"), (2, .class_ 112), (0, u "java/lang/constant/Constable"), (0, .class_ 114), (0, u "java/lang/Comparable"), (0, .class_ 116), (0, u "java/io/Serializable")] 87

/-- java/lang/Enum -/
def k7 : Class := { plain "java/lang/Enum" (some 0) with
  accessFlags := 1057
  interfaces := #[4, 5, 6]
  cf := some (fileOf pool7 2 #[.nestMembers #[106]] #[] 1057 12 #[111, 113, 115] #[{ accessFlags := 18, nameIndex := 5, descriptorIndex := 6, attributes := #[] }, { accessFlags := 18, nameIndex := 9, descriptorIndex := 10, attributes := #[] }, { accessFlags := 2, nameIndex := 19, descriptorIndex := 10, attributes := #[] }])
  fields := #[{ name := "name", type := (.object "java/lang/String"), accessFlags := 18, slot := 0, constantValue := 0 }, { name := "ordinal", type := .int, accessFlags := 18, slot := 1, constantValue := 0 }, { name := "hash", type := .int, accessFlags := 2, slot := 2, constantValue := 0 }]
  methods := #[]
  instanceTypes := #[(.object "java/lang/String"), .int, .int]
  staticTypes := #[]
  resolved := Array.replicate 204 none
  statics := none }

def pool8 : Array CpInfo := pool [(1, .class_ 2), (0, u "com/example/rowpath/rowpath/core/NodeMatch$Tier"), (2, u "LEVEL_TYPE_ID"), (0, u "Lcom/example/rowpath/rowpath/core/NodeMatch$Tier;"), (2, u "TYPE_ID"), (2, u "LEVEL_TYPE"), (2, u "TYPE"), (2, u "LEVEL"), (2, u "NONE"), (0, .fieldref 1 23), (0, .nameAndType 24 25), (0, u "$VALUES"), (0, u "[Lcom/example/rowpath/rowpath/core/NodeMatch$Tier;"), (0, .methodref 27 28), (0, .class_ 25), (0, .nameAndType 29 30), (0, u "clone"), (0, u "()Ljava/lang/Object;"), (1, .class_ 34), (1, u "java/lang/Enum"), (6, .fieldref 1 42), (0, .nameAndType 43 44), (0, u "level"), (0, u "Z"), (0, .fieldref 1 46), (0, .nameAndType 47 44), (0, u "type"), (0, .fieldref 1 49), (0, .nameAndType 50 44), (0, u "id"), (0, .methodref 1 52), (0, .nameAndType 53 54), (0, u "values"), (0, u "()[Lcom/example/rowpath/rowpath/core/NodeMatch$Tier;"), (0, .methodref 56 57), (0, .class_ 58), (0, .nameAndType 59 60), (0, u "java/util/Optional"), (0, u "of"), (0, u "(Ljava/lang/Object;)Ljava/util/Optional;"), (22, u "(ZZZ)Ljava/util/Optional;"), (8, .class_ 93), (0, u "com/example/rowpath/rowpath/core/NodeMatch")] 2

def k8c0 : Code := { maxStack := 1, maxLocals := 0, code := prog_48_method_1_code, exceptionTable := #[], attributes := #[] }
def k8m0 : Method := { name := "values", desc := "()[Lcom/example/rowpath/rowpath/core/NodeMatch$Tier;", sig := { parameters := [], returnType := some (.array (.object "com/example/rowpath/rowpath/core/NodeMatch$Tier")) }, accessFlags := 9, code := some k8c0 }
def k8c1 : Code := { maxStack := 2, maxLocals := 7, code := prog_48_method_4_code, exceptionTable := #[], attributes := #[] }
def k8m1 : Method := { name := "of", desc := "(ZZZ)Ljava/util/Optional;", sig := { parameters := [.boolean, .boolean, .boolean], returnType := some (.object "java/util/Optional") }, accessFlags := 9, code := some k8c1 }
/-- com/example/rowpath/rowpath/core/NodeMatch$Tier -/
def k8 : Class := { plain "com/example/rowpath/rowpath/core/NodeMatch$Tier" (some 7) with
  accessFlags := 16433
  interfaces := #[]
  cf := some (fileOf pool8 1 #[.nestHost 92] #[{ accessFlags := 9, nameIndex := 53, descriptorIndex := 54, attributes := #[] }, { accessFlags := 9, nameIndex := 59, descriptorIndex := 83, attributes := #[] }] 16433 32 #[] #[{ accessFlags := 16409, nameIndex := 5, descriptorIndex := 6, attributes := #[] }, { accessFlags := 16409, nameIndex := 9, descriptorIndex := 6, attributes := #[] }, { accessFlags := 16409, nameIndex := 12, descriptorIndex := 6, attributes := #[] }, { accessFlags := 16409, nameIndex := 15, descriptorIndex := 6, attributes := #[] }, { accessFlags := 16409, nameIndex := 18, descriptorIndex := 6, attributes := #[] }, { accessFlags := 16409, nameIndex := 21, descriptorIndex := 6, attributes := #[] }, { accessFlags := 18, nameIndex := 43, descriptorIndex := 44, attributes := #[] }, { accessFlags := 18, nameIndex := 47, descriptorIndex := 44, attributes := #[] }, { accessFlags := 18, nameIndex := 50, descriptorIndex := 44, attributes := #[] }, { accessFlags := 4122, nameIndex := 24, descriptorIndex := 25, attributes := #[] }])
  fields := #[{ name := "LEVEL_TYPE_ID", type := (.object "com/example/rowpath/rowpath/core/NodeMatch$Tier"), accessFlags := 16409, slot := 0, constantValue := 0 }, { name := "TYPE_ID", type := (.object "com/example/rowpath/rowpath/core/NodeMatch$Tier"), accessFlags := 16409, slot := 1, constantValue := 0 }, { name := "LEVEL_TYPE", type := (.object "com/example/rowpath/rowpath/core/NodeMatch$Tier"), accessFlags := 16409, slot := 2, constantValue := 0 }, { name := "TYPE", type := (.object "com/example/rowpath/rowpath/core/NodeMatch$Tier"), accessFlags := 16409, slot := 3, constantValue := 0 }, { name := "LEVEL", type := (.object "com/example/rowpath/rowpath/core/NodeMatch$Tier"), accessFlags := 16409, slot := 4, constantValue := 0 }, { name := "NONE", type := (.object "com/example/rowpath/rowpath/core/NodeMatch$Tier"), accessFlags := 16409, slot := 5, constantValue := 0 }, { name := "level", type := .boolean, accessFlags := 18, slot := 3, constantValue := 0 }, { name := "type", type := .boolean, accessFlags := 18, slot := 4, constantValue := 0 }, { name := "id", type := .boolean, accessFlags := 18, slot := 5, constantValue := 0 }, { name := "$VALUES", type := (.array (.object "com/example/rowpath/rowpath/core/NodeMatch$Tier")), accessFlags := 4122, slot := 6, constantValue := 0 }]
  methods := #[k8m0, k8m1]
  instanceTypes := #[(.object "java/lang/String"), .int, .int, .boolean, .boolean, .boolean]
  staticTypes := #[(.object "com/example/rowpath/rowpath/core/NodeMatch$Tier"), (.object "com/example/rowpath/rowpath/core/NodeMatch$Tier"), (.object "com/example/rowpath/rowpath/core/NodeMatch$Tier"), (.object "com/example/rowpath/rowpath/core/NodeMatch$Tier"), (.object "com/example/rowpath/rowpath/core/NodeMatch$Tier"), (.object "com/example/rowpath/rowpath/core/NodeMatch$Tier"), (.array (.object "com/example/rowpath/rowpath/core/NodeMatch$Tier"))]
  resolved := Array.replicate 96 none
  statics := some 0 }

def pool9 : Array CpInfo := pool [(1, .class_ 2), (0, u "java/lang/Cloneable"), (0, .class_ 4), (0, u "java/lang/Object")] 2

/-- java/lang/Cloneable -/
def k9 : Class := { plain "java/lang/Cloneable" (some 0) with
  accessFlags := 1537
  interfaces := #[]
  cf := some (fileOf pool9 1 #[] #[] 1537 3 #[] #[])
  fields := #[]
  methods := #[]
  instanceTypes := #[]
  staticTypes := #[]
  resolved := Array.replicate 7 none
  statics := none }

def pool10 : Array CpInfo := pool [(2, .class_ 4), (1, u "java/util/Optional"), (0, u "EMPTY"), (0, u "Ljava/util/Optional;"), (0, .methodref 8 9), (0, .class_ 10), (0, .nameAndType 11 12), (0, u "java/lang/Object"), (0, u "<init>"), (0, u "()V"), (0, .fieldref 2 14), (0, .nameAndType 15 16), (0, u "value"), (0, u "Ljava/lang/Object;"), (0, .methodref 18 19), (0, .class_ 20), (0, .nameAndType 21 22), (0, u "java/util/Objects"), (0, u "requireNonNull"), (0, u "(Ljava/lang/Object;)Ljava/lang/Object;"), (0, .methodref 2 24), (0, .nameAndType 11 25), (0, u "(Ljava/lang/Object;)V"), (19, u "isEmpty"), (0, u "()Z"), (18, u "(Ljava/lang/Object;)Ljava/util/Optional;"), (8, u "()Ljava/lang/Object;"), (7, u "of"), (89, u "orElseThrow")] 14

def k10c0 : Code := { maxStack := 2, maxLocals := 2, code := jdk_32_method_2_code, exceptionTable := #[], attributes := #[] }
def k10m0 : Method := { name := "<init>", desc := "(Ljava/lang/Object;)V", sig := { parameters := [(.object "java/lang/Object")], returnType := none }, accessFlags := 2, code := some k10c0 }
def k10c1 : Code := { maxStack := 3, maxLocals := 1, code := jdk_32_method_3_code, exceptionTable := #[], attributes := #[] }
def k10m1 : Method := { name := "of", desc := "(Ljava/lang/Object;)Ljava/util/Optional;", sig := { parameters := [(.object "java/lang/Object")], returnType := some (.object "java/util/Optional") }, accessFlags := 9, code := some k10c1 }
def k10c2 : Code := { maxStack := 1, maxLocals := 1, code := jdk_32_method_7_code, exceptionTable := #[], attributes := #[] }
def k10m2 : Method := { name := "isEmpty", desc := "()Z", sig := { parameters := [], returnType := some .boolean }, accessFlags := 1, code := some k10c2 }
def k10c3 : Code := { maxStack := 3, maxLocals := 1, code := jdk_32_method_17_code, exceptionTable := #[], attributes := #[] }
def k10m3 : Method := { name := "orElseThrow", desc := "()Ljava/lang/Object;", sig := { parameters := [], returnType := some (.object "java/lang/Object") }, accessFlags := 1, code := some k10c3 }
/-- java/util/Optional -/
def k10 : Class := { plain "java/util/Optional" (some 0) with
  accessFlags := 49
  interfaces := #[]
  cf := some (fileOf pool10 2 #[] #[{ accessFlags := 2, nameIndex := 11, descriptorIndex := 25, attributes := #[] }, { accessFlags := 9, nameIndex := 82, descriptorIndex := 65, attributes := #[] }, { accessFlags := 1, nameIndex := 45, descriptorIndex := 46, attributes := #[] }, { accessFlags := 1, nameIndex := 172, descriptorIndex := 74, attributes := #[] }] 49 8 #[] #[{ accessFlags := 26, nameIndex := 5, descriptorIndex := 6, attributes := #[] }, { accessFlags := 18, nameIndex := 15, descriptorIndex := 16, attributes := #[] }])
  fields := #[{ name := "EMPTY", type := (.object "java/util/Optional"), accessFlags := 26, slot := 0, constantValue := 0 }, { name := "value", type := (.object "java/lang/Object"), accessFlags := 18, slot := 0, constantValue := 0 }]
  methods := #[k10m0, k10m1, k10m2, k10m3]
  instanceTypes := #[(.object "java/lang/Object")]
  staticTypes := #[(.object "java/util/Optional")]
  resolved := Array.replicate 187 none
  statics := none }

def pool11 : Array CpInfo := pool [(2, .class_ 4), (1, u "java/lang/Object"), (0, u "<init>"), (0, u "()V"), (35, .class_ 44), (1, u "java/util/Objects"), (0, u "requireNonNull"), (0, u "(Ljava/lang/Object;)Ljava/lang/Object;")] 137

def k11m0 : Method := { name := "<init>", desc := "()V", sig := { parameters := [], returnType := none }, accessFlags := 2, code := none }
def k11c1 : Code := { maxStack := 2, maxLocals := 1, code := jdk_31_method_10_code, exceptionTable := #[], attributes := #[] }
def k11m1 : Method := { name := "requireNonNull", desc := "(Ljava/lang/Object;)Ljava/lang/Object;", sig := { parameters := [(.object "java/lang/Object")], returnType := some (.object "java/lang/Object") }, accessFlags := 9, code := some k11c1 }
/-- java/util/Objects -/
def k11 : Class := { plain "java/util/Objects" (some 0) with
  accessFlags := 49
  interfaces := #[]
  cf := some (fileOf pool11 42 #[] #[{ accessFlags := 2, nameIndex := 5, descriptorIndex := 6, attributes := #[] }, { accessFlags := 9, nameIndex := 45, descriptorIndex := 46, attributes := #[] }] 49 2 #[] #[])
  fields := #[]
  methods := #[k11m0, k11m1]
  instanceTypes := #[]
  staticTypes := #[]
  resolved := Array.replicate 184 none
  statics := none }

def pool12 : Array CpInfo := pool [(2, .class_ 4), (1, u "java/lang/CharSequence"), (42, .class_ 48), (0, u "java/lang/CharSequence$1CodePointIterator"), (10, .class_ 60), (0, u "java/lang/CharSequence$1CharIterator"), (5, .class_ 67), (0, u "java/lang/Object")] 63

/-- java/lang/CharSequence -/
def k12 : Class := { plain "java/lang/CharSequence" (some 0) with
  accessFlags := 1537
  interfaces := #[]
  cf := some (fileOf pool12 2 #[.nestMembers #[47, 59]] #[] 1537 66 #[] #[])
  fields := #[]
  methods := #[]
  instanceTypes := #[]
  staticTypes := #[]
  resolved := Array.replicate 131 none
  statics := none }

def pool13 : Array CpInfo := pool [(1, .class_ 2), (0, u "java/lang/constant/ConstantDesc"), (0, .class_ 4), (0, u "java/lang/Object")] 32

/-- java/lang/constant/ConstantDesc -/
def k13 : Class := { plain "java/lang/constant/ConstantDesc" (some 0) with
  accessFlags := 1537
  interfaces := #[]
  cf := some (fileOf pool13 1 #[] #[] 1537 3 #[] #[])
  fields := #[]
  methods := #[]
  instanceTypes := #[]
  staticTypes := #[]
  resolved := Array.replicate 37 none
  statics := none }

def pool14 : Array CpInfo := pool [(1, .methodref 2 3), (0, .class_ 4), (0, .nameAndType 5 6), (0, u "java/lang/Object"), (0, u "<init>"), (0, u "()V"), (0, .string 8), (0, u ""), (0, .fieldref 10 11), (0, .class_ 12), (0, .nameAndType 13 14), (0, u "java/lang/String"), (0, u "value"), (0, u "[B"), (0, .fieldref 10 16), (0, .nameAndType 17 18), (0, u "coder"), (0, u "B"), (2, u "hash"), (0, u "I"), (2, u "hashIsZero"), (0, u "Z"), (0, .methodref 10 28), (0, .nameAndType 5 29), (0, u "([CIILjava/lang/Void;)V"), (8, .fieldref 10 39), (0, .nameAndType 40 26), (0, u "COMPACT_STRINGS"), (1, .class_ 44), (1, u "java/lang/StringUTF16"), (0, u "compress"), (1, .methodref 42 48), (0, .nameAndType 49 50), (0, u "coderFromArrayLen"), (0, u "([BI)B"), (2, u "toBytes"), (53, .class_ 109), (1, u "java/lang/StringLatin1"), (67, .methodref 42 178), (0, .nameAndType 45 179), (0, u "([CII)[B"), (29, .methodref 10 210), (0, .nameAndType 5 211), (0, u "([BB)V"), (157, u "(C)Z"), (205, .class_ 576), (0, u "java/lang/CharSequence"), (22, u "CASE_INSENSITIVE_ORDER"), (0, u "Ljava/util/Comparator;"), (181, u "valueOf"), (0, u "(C)Ljava/lang/String;"), (226, u "([C)V"), (4, .methodref 107 1016), (0, .nameAndType 1017 369), (0, u "canEncode"), (0, .methodref 107 1019), (0, .nameAndType 53 1020), (0, u "(C)[B"), (80, u "serialPersistentFields"), (0, u "[Ljava/io/ObjectStreamField;"), (0, .class_ 1104), (0, u "java/lang/String$CaseInsensitiveComparator"), (1, .class_ 1107), (0, u "java/io/Serializable"), (0, .class_ 1109), (0, u "java/lang/Comparable"), (0, .class_ 1111), (0, u "java/lang/constant/Constable"), (0, .class_ 1113), (0, u "java/lang/constant/ConstantDesc"), (2, u "serialVersionUID"), (0, u "J"), (3, u "REPL"), (0, u "C"), (2, u "LATIN1"), (1, u "UTF16")] 323

def k14m0 : Method := { name := "<init>", desc := "()V", sig := { parameters := [], returnType := none }, accessFlags := 1, code := none }
def k14c1 : Code := { maxStack := 5, maxLocals := 2, code := jdk_42_method_3_code, exceptionTable := #[], attributes := #[] }
def k14m1 : Method := { name := "<init>", desc := "([C)V", sig := { parameters := [(.array .char)], returnType := none }, accessFlags := 1, code := some k14c1 }
def k14c2 : Code := { maxStack := 4, maxLocals := 1, code := jdk_42_method_139_code, exceptionTable := #[], attributes := #[] }
def k14m2 : Method := { name := "valueOf", desc := "(C)Ljava/lang/String;", sig := { parameters := [.char], returnType := some (.object "java/lang/String") }, accessFlags := 9, code := some k14c2 }
def k14c3 : Code := { maxStack := 4, maxLocals := 6, code := jdk_42_method_149_code, exceptionTable := #[], attributes := #[] }
def k14m3 : Method := { name := "<init>", desc := "([CIILjava/lang/Void;)V", sig := { parameters := [(.array .char), .int, .int, (.object "java/lang/Void")], returnType := none }, accessFlags := 2, code := some k14c3 }
def k14c4 : Code := { maxStack := 2, maxLocals := 3, code := jdk_42_method_151_code, exceptionTable := #[], attributes := #[] }
def k14m4 : Method := { name := "<init>", desc := "([BB)V", sig := { parameters := [(.array .byte), .byte], returnType := none }, accessFlags := 0, code := some k14c4 }
/-- java/lang/String -/
def k14 : Class := { plain "java/lang/String" (some 0) with
  accessFlags := 49
  interfaces := #[6, 5, 12, 4, 13]
  cf := some (fileOf pool14 10 #[.nestMembers #[1103]] #[{ accessFlags := 1, nameIndex := 5, descriptorIndex := 6, attributes := #[] }, { accessFlags := 1, nameIndex := 5, descriptorIndex := 1010, attributes := #[] }, { accessFlags := 9, nameIndex := 782, descriptorIndex := 783, attributes := #[] }, { accessFlags := 2, nameIndex := 5, descriptorIndex := 29, attributes := #[] }, { accessFlags := 0, nameIndex := 5, descriptorIndex := 211, attributes := #[] }] 49 2 #[1106, 1108, 575, 1110, 1112] #[{ accessFlags := 18, nameIndex := 13, descriptorIndex := 14, attributes := #[] }, { accessFlags := 18, nameIndex := 17, descriptorIndex := 18, attributes := #[] }, { accessFlags := 2, nameIndex := 21, descriptorIndex := 22, attributes := #[] }, { accessFlags := 2, nameIndex := 25, descriptorIndex := 26, attributes := #[] }, { accessFlags := 26, nameIndex := 1116, descriptorIndex := 1117, attributes := #[] }, { accessFlags := 24, nameIndex := 40, descriptorIndex := 26, attributes := #[] }, { accessFlags := 26, nameIndex := 1101, descriptorIndex := 1102, attributes := #[] }, { accessFlags := 26, nameIndex := 1121, descriptorIndex := 1122, attributes := #[] }, { accessFlags := 25, nameIndex := 599, descriptorIndex := 600, attributes := #[] }, { accessFlags := 24, nameIndex := 1125, descriptorIndex := 18, attributes := #[] }, { accessFlags := 24, nameIndex := 1127, descriptorIndex := 18, attributes := #[] }])
  fields := #[{ name := "value", type := (.array .byte), accessFlags := 18, slot := 0, constantValue := 0 }, { name := "coder", type := .byte, accessFlags := 18, slot := 1, constantValue := 0 }, { name := "hash", type := .int, accessFlags := 2, slot := 2, constantValue := 0 }, { name := "hashIsZero", type := .boolean, accessFlags := 2, slot := 3, constantValue := 0 }, { name := "serialVersionUID", type := .long, accessFlags := 26, slot := 0, constantValue := 0 }, { name := "COMPACT_STRINGS", type := .boolean, accessFlags := 24, slot := 1, constantValue := 0 }, { name := "serialPersistentFields", type := (.array (.object "java/io/ObjectStreamField")), accessFlags := 26, slot := 2, constantValue := 0 }, { name := "REPL", type := .char, accessFlags := 26, slot := 3, constantValue := 0 }, { name := "CASE_INSENSITIVE_ORDER", type := (.object "java/util/Comparator"), accessFlags := 25, slot := 4, constantValue := 0 }, { name := "LATIN1", type := .byte, accessFlags := 24, slot := 5, constantValue := 0 }, { name := "UTF16", type := .byte, accessFlags := 24, slot := 6, constantValue := 0 }]
  methods := #[k14m0, k14m1, k14m2, k14m3, k14m4]
  instanceTypes := #[(.array .byte), .byte, .int, .boolean]
  staticTypes := #[.long, .boolean, (.array (.object "java/io/ObjectStreamField")), .char, (.object "java/util/Comparator"), .byte, .byte]
  resolved := Array.replicate 1451 none
  statics := some 1 }

def pool15 : Array CpInfo := pool [(1, .methodref 2 3), (0, .class_ 4), (0, .nameAndType 5 6), (0, u "java/lang/Object"), (0, u "<init>"), (0, u "()V"), (1, .class_ 10), (1, u "java/lang/Number"), (2, .class_ 14), (0, u "java/io/Serializable"), (0, u "serialVersionUID"), (0, u "J")] 20

def k15c0 : Code := { maxStack := 1, maxLocals := 1, code := jdk_18_method_1_code, exceptionTable := #[], attributes := #[] }
def k15m0 : Method := { name := "<init>", desc := "()V", sig := { parameters := [], returnType := none }, accessFlags := 1, code := some k15c0 }
/-- java/lang/Number -/
def k15 : Class := { plain "java/lang/Number" (some 0) with
  accessFlags := 1057
  interfaces := #[6]
  cf := some (fileOf pool15 8 #[] #[{ accessFlags := 1, nameIndex := 5, descriptorIndex := 6, attributes := #[] }] 1057 2 #[13] #[{ accessFlags := 26, nameIndex := 15, descriptorIndex := 16, attributes := #[] }])
  fields := #[{ name := "serialVersionUID", type := .long, accessFlags := 26, slot := 0, constantValue := 0 }]
  methods := #[k15m0]
  instanceTypes := #[]
  staticTypes := #[.long]
  resolved := Array.replicate 37 none
  statics := none }

def pool16 : Array CpInfo := pool [(1, .class_ 2), (0, u "java/lang/Integer"), (16, u "digits"), (0, u "[C"), (46, u "<init>"), (17, u "DigitOnes"), (0, u "[B"), (2, u "DigitTens"), (10, .nameAndType 67 101), (0, u "()V"), (85, u "valueOf"), (0, u "(I)Ljava/lang/Integer;"), (0, .class_ 190), (0, u "java/lang/Integer$IntegerCache"), (0, .fieldref 189 192), (0, .nameAndType 193 194), (0, u "high"), (0, u "I"), (0, .fieldref 189 196), (0, .nameAndType 197 198), (0, u "cache"), (0, u "[Ljava/lang/Integer;"), (0, .methodref 1 200), (0, .nameAndType 67 201), (0, u "(I)V"), (0, .methodref 203 100), (0, .class_ 204), (0, u "java/lang/Number"), (0, .fieldref 1 206), (0, .nameAndType 207 194), (0, u "value"), (94, u "TYPE"), (0, u "Ljava/lang/Class;"), (0, .class_ 305), (0, u "java/lang/Comparable"), (0, .class_ 307), (0, u "java/lang/constant/Constable"), (0, .class_ 309), (0, u "java/lang/constant/ConstantDesc"), (0, u "MIN_VALUE"), (1, u "MAX_VALUE"), (3, u "SIZE"), (1, u "BYTES"), (1, u "serialVersionUID"), (0, u "J")] 131

def k16c0 : Code := { maxStack := 3, maxLocals := 1, code := jdk_33_method_22_code, exceptionTable := #[], attributes := #[] }
def k16m0 : Method := { name := "valueOf", desc := "(I)Ljava/lang/Integer;", sig := { parameters := [.int], returnType := some (.object "java/lang/Integer") }, accessFlags := 9, code := some k16c0 }
def k16c1 : Code := { maxStack := 2, maxLocals := 2, code := jdk_33_method_23_code, exceptionTable := #[], attributes := #[] }
def k16m1 : Method := { name := "<init>", desc := "(I)V", sig := { parameters := [.int], returnType := none }, accessFlags := 1, code := some k16c1 }
/-- java/lang/Integer -/
def k16 : Class := { plain "java/lang/Integer" (some 15) with
  accessFlags := 49
  interfaces := #[5, 4, 13]
  cf := some (fileOf pool16 1 #[.nestMembers #[189]] #[{ accessFlags := 9, nameIndex := 187, descriptorIndex := 188, attributes := #[] }, { accessFlags := 1, nameIndex := 67, descriptorIndex := 201, attributes := #[] }] 49 203 #[304, 306, 308] #[{ accessFlags := 25, nameIndex := 310, descriptorIndex := 194, attributes := #[] }, { accessFlags := 25, nameIndex := 312, descriptorIndex := 194, attributes := #[] }, { accessFlags := 25, nameIndex := 302, descriptorIndex := 303, attributes := #[] }, { accessFlags := 24, nameIndex := 19, descriptorIndex := 20, attributes := #[] }, { accessFlags := 24, nameIndex := 89, descriptorIndex := 86, attributes := #[] }, { accessFlags := 24, nameIndex := 85, descriptorIndex := 86, attributes := #[] }, { accessFlags := 18, nameIndex := 207, descriptorIndex := 194, attributes := #[] }, { accessFlags := 25, nameIndex := 316, descriptorIndex := 194, attributes := #[] }, { accessFlags := 25, nameIndex := 318, descriptorIndex := 194, attributes := #[] }, { accessFlags := 26, nameIndex := 320, descriptorIndex := 321, attributes := #[] }])
  fields := #[{ name := "MIN_VALUE", type := .int, accessFlags := 25, slot := 0, constantValue := 0 }, { name := "MAX_VALUE", type := .int, accessFlags := 25, slot := 1, constantValue := 0 }, { name := "TYPE", type := (.object "java/lang/Class"), accessFlags := 25, slot := 2, constantValue := 0 }, { name := "digits", type := (.array .char), accessFlags := 24, slot := 3, constantValue := 0 }, { name := "DigitTens", type := (.array .byte), accessFlags := 24, slot := 4, constantValue := 0 }, { name := "DigitOnes", type := (.array .byte), accessFlags := 24, slot := 5, constantValue := 0 }, { name := "value", type := .int, accessFlags := 18, slot := 0, constantValue := 0 }, { name := "SIZE", type := .int, accessFlags := 25, slot := 6, constantValue := 0 }, { name := "BYTES", type := .int, accessFlags := 25, slot := 7, constantValue := 0 }, { name := "serialVersionUID", type := .long, accessFlags := 26, slot := 8, constantValue := 0 }]
  methods := #[k16m0, k16m1]
  instanceTypes := #[.int]
  staticTypes := #[.int, .int, (.object "java/lang/Class"), (.array .char), (.array .byte), (.array .byte), .int, .int, .long]
  resolved := Array.replicate 453 none
  statics := none }

def pool17 : Array CpInfo := pool [(2, .class_ 4), (1, u "java/lang/Object"), (0, u "<init>"), (0, u "()V"), (0, .class_ 8), (0, u "java/lang/Integer"), (7, .class_ 18), (1, u "java/lang/Integer$IntegerCache"), (0, u "$assertionsDisabled"), (0, u "Z"), (26, u "high"), (0, u "I"), (8, u "archivedCache"), (0, u "[Ljava/lang/Integer;"), (12, u "cache"), (0, u "low")] 27

def k17m0 : Method := { name := "<init>", desc := "()V", sig := { parameters := [], returnType := none }, accessFlags := 2, code := none }
/-- java/lang/Integer$IntegerCache -/
def k17 : Class := { plain "java/lang/Integer$IntegerCache" (some 0) with
  accessFlags := 48
  interfaces := #[]
  cf := some (fileOf pool17 16 #[.nestHost 7] #[{ accessFlags := 2, nameIndex := 5, descriptorIndex := 6, attributes := #[] }] 48 2 #[] #[{ accessFlags := 24, nameIndex := 72, descriptorIndex := 48, attributes := #[] }, { accessFlags := 24, nameIndex := 47, descriptorIndex := 48, attributes := #[] }, { accessFlags := 24, nameIndex := 71, descriptorIndex := 58, attributes := #[] }, { accessFlags := 8, nameIndex := 57, descriptorIndex := 58, attributes := #[] }, { accessFlags := 4120, nameIndex := 19, descriptorIndex := 20, attributes := #[] }])
  fields := #[{ name := "low", type := .int, accessFlags := 24, slot := 0, constantValue := 0 }, { name := "high", type := .int, accessFlags := 24, slot := 1, constantValue := 0 }, { name := "cache", type := (.array (.object "java/lang/Integer")), accessFlags := 24, slot := 2, constantValue := 0 }, { name := "archivedCache", type := (.array (.object "java/lang/Integer")), accessFlags := 8, slot := 3, constantValue := 0 }, { name := "$assertionsDisabled", type := .boolean, accessFlags := 4120, slot := 4, constantValue := 0 }]
  methods := #[k17m0]
  instanceTypes := #[]
  staticTypes := #[.int, .int, (.array (.object "java/lang/Integer")), (.array (.object "java/lang/Integer")), .boolean]
  resolved := Array.replicate 100 none
  statics := some 2 }

def pool18 : Array CpInfo := pool [(4, .class_ 6), (1, u "java/lang/Object"), (0, u "<init>"), (0, u "()V"), (5, .class_ 16), (1, u "java/lang/StringLatin1"), (73, u "canEncode"), (14, u "(C)Z"), (15, u "$assertionsDisabled"), (0, u "Z"), (98, .class_ 223), (1, u "java/lang/StringLatin1$LinesSpliterator"), (156, u "toBytes"), (1, u "(C)[B"), (7, .class_ 391), (0, u "java/lang/StringLatin1$CharsSpliterator")] 3

def k18m0 : Method := { name := "<init>", desc := "()V", sig := { parameters := [], returnType := none }, accessFlags := 0, code := none }
def k18c1 : Code := { maxStack := 2, maxLocals := 1, code := jdk_43_method_3_code, exceptionTable := #[], attributes := #[] }
def k18m1 : Method := { name := "canEncode", desc := "(C)Z", sig := { parameters := [.char], returnType := some .boolean }, accessFlags := 9, code := some k18c1 }
def k18c2 : Code := { maxStack := 4, maxLocals := 1, code := jdk_43_method_46_code, exceptionTable := #[], attributes := #[] }
def k18m2 : Method := { name := "toBytes", desc := "(C)[B", sig := { parameters := [.char], returnType := some (.array .byte) }, accessFlags := 9, code := some k18c2 }
/-- java/lang/StringLatin1 -/
def k18 : Class := { plain "java/lang/StringLatin1" (some 0) with
  accessFlags := 48
  interfaces := #[]
  cf := some (fileOf pool18 14 #[.nestMembers #[390, 221]] #[{ accessFlags := 0, nameIndex := 7, descriptorIndex := 8, attributes := #[] }, { accessFlags := 9, nameIndex := 90, descriptorIndex := 105, attributes := #[] }, { accessFlags := 9, nameIndex := 380, descriptorIndex := 382, attributes := #[] }] 48 4 #[] #[{ accessFlags := 4120, nameIndex := 121, descriptorIndex := 122, attributes := #[] }])
  fields := #[{ name := "$assertionsDisabled", type := .boolean, accessFlags := 4120, slot := 0, constantValue := 0 }]
  methods := #[k18m0, k18m1, k18m2]
  instanceTypes := #[]
  staticTypes := #[.boolean]
  resolved := Array.replicate 395 none
  statics := none }

def pool19 : Array CpInfo := pool [(6, .class_ 8), (1, u "java/lang/Object"), (0, u "<init>"), (0, u "()V"), (1, .class_ 14), (1, u "java/lang/StringUTF16"), (31, u "$assertionsDisabled"), (0, u "Z"), (13, u "HI_BYTE_SHIFT"), (0, u "I"), (2, u "LO_BYTE_SHIFT"), (49, .methodref 12 116), (0, .nameAndType 117 118), (0, u "compress"), (0, u "([CI[BII)I"), (3, u "([CII)[B"), (138, u "coderFromArrayLen"), (0, u "([BI)B"), (106, .class_ 371), (1, u "java/lang/StringUTF16$LinesSpliterator"), (58, u "MAX_LENGTH"), (196, .class_ 628), (0, u "java/lang/StringUTF16$CodePointsSpliterator"), (0, .class_ 630), (0, u "java/lang/StringUTF16$CharsSpliterator")] 4

def k19m0 : Method := { name := "<init>", desc := "()V", sig := { parameters := [], returnType := none }, accessFlags := 0, code := none }
def k19c1 : Code := { maxStack := 2, maxLocals := 2, code := jdk_52_method_15_code, exceptionTable := #[], attributes := #[] }
def k19m1 : Method := { name := "coderFromArrayLen", desc := "([BI)B", sig := { parameters := [(.array .byte), .int], returnType := some .byte }, accessFlags := 8, code := some k19c1 }
def k19c2 : Code := { maxStack := 5, maxLocals := 6, code := jdk_52_method_16_code, exceptionTable := #[], attributes := #[] }
def k19m2 : Method := { name := "compress", desc := "([CII)[B", sig := { parameters := [(.array .char), .int, .int], returnType := some (.array .byte) }, accessFlags := 9, code := some k19c2 }
def k19c3 : Code := { maxStack := 3, maxLocals := 7, code := jdk_52_method_21_code, exceptionTable := #[], attributes := #[] }
def k19m3 : Method := { name := "compress", desc := "([CI[BII)I", sig := { parameters := [(.array .char), .int, (.array .byte), .int, .int], returnType := some .int }, accessFlags := 9, code := some k19c3 }
/-- java/lang/StringUTF16 -/
def k19 : Class := { plain "java/lang/StringUTF16" (some 0) with
  accessFlags := 48
  interfaces := #[]
  cf := some (fileOf pool19 12 #[.nestMembers #[627, 629, 369]] #[{ accessFlags := 0, nameIndex := 9, descriptorIndex := 10, attributes := #[] }, { accessFlags := 8, nameIndex := 261, descriptorIndex := 262, attributes := #[] }, { accessFlags := 9, nameIndex := 117, descriptorIndex := 122, attributes := #[] }, { accessFlags := 9, nameIndex := 117, descriptorIndex := 118, attributes := #[] }] 48 6 #[] #[{ accessFlags := 26, nameIndex := 61, descriptorIndex := 62, attributes := #[] }, { accessFlags := 26, nameIndex := 65, descriptorIndex := 62, attributes := #[] }, { accessFlags := 24, nameIndex := 430, descriptorIndex := 62, attributes := #[] }, { accessFlags := 4120, nameIndex := 46, descriptorIndex := 47, attributes := #[] }])
  fields := #[{ name := "HI_BYTE_SHIFT", type := .int, accessFlags := 26, slot := 0, constantValue := 0 }, { name := "LO_BYTE_SHIFT", type := .int, accessFlags := 26, slot := 1, constantValue := 0 }, { name := "MAX_LENGTH", type := .int, accessFlags := 24, slot := 2, constantValue := 0 }, { name := "$assertionsDisabled", type := .boolean, accessFlags := 4120, slot := 3, constantValue := 0 }]
  methods := #[k19m0, k19m1, k19m2, k19m3]
  instanceTypes := #[]
  staticTypes := #[.int, .int, .int, .boolean]
  resolved := Array.replicate 635 none
  statics := none }

def pool20 : Array CpInfo := pool [(2, .class_ 4), (1, u "java/lang/Object"), (0, u "<init>"), (0, u "()V"), (17, .class_ 26), (1, u "jdk/internal/util/Preconditions"), (28, .class_ 56), (0, u "jdk/internal/util/Preconditions$4"), (57, .class_ 115), (0, u "jdk/internal/util/Preconditions$1"), (7, u "SIOOBE_FORMATTER"), (0, u "Ljava/util/function/BiFunction;"), (0, .class_ 126), (0, u "jdk/internal/util/Preconditions$2"), (3, u "AIOOBE_FORMATTER"), (0, .class_ 132), (0, u "jdk/internal/util/Preconditions$3"), (3, u "IOOBE_FORMATTER")] 57

def k20m0 : Method := { name := "<init>", desc := "()V", sig := { parameters := [], returnType := none }, accessFlags := 1, code := none }
/-- jdk/internal/util/Preconditions -/
def k20 : Class := { plain "jdk/internal/util/Preconditions" (some 0) with
  accessFlags := 33
  interfaces := #[]
  cf := some (fileOf pool20 24 #[.nestMembers #[55, 131, 125, 114]] #[{ accessFlags := 1, nameIndex := 5, descriptorIndex := 6, attributes := #[] }] 33 2 #[] #[{ accessFlags := 25, nameIndex := 123, descriptorIndex := 124, attributes := #[] }, { accessFlags := 25, nameIndex := 130, descriptorIndex := 124, attributes := #[] }, { accessFlags := 25, nameIndex := 136, descriptorIndex := 124, attributes := #[] }])
  fields := #[{ name := "SIOOBE_FORMATTER", type := (.object "java/util/function/BiFunction"), accessFlags := 25, slot := 0, constantValue := 0 }, { name := "AIOOBE_FORMATTER", type := (.object "java/util/function/BiFunction"), accessFlags := 25, slot := 1, constantValue := 0 }, { name := "IOOBE_FORMATTER", type := (.object "java/util/function/BiFunction"), accessFlags := 25, slot := 2, constantValue := 0 }]
  methods := #[k20m0]
  instanceTypes := #[]
  staticTypes := #[(.object "java/util/function/BiFunction"), (.object "java/util/function/BiFunction"), (.object "java/util/function/BiFunction")]
  resolved := Array.replicate 194 none
  statics := some 3 }

def pool21 : Array CpInfo := pool [(9, u "<init>"), (6, .class_ 18), (1, u "java/lang/Object"), (0, u "()V"), (1, .class_ 23), (1, u "jdk/internal/util/ArraysSupport"), (0, u "LOG2_ARRAY_LONG_INDEX_SCALE"), (0, u "I"), (2, u "U"), (0, u "Ljdk/internal/misc/Unsafe;"), (8, u "BIG_ENDIAN"), (0, u "Z"), (8, u "LOG2_BYTE_BIT_SIZE"), (4, u "LOG2_ARRAY_INT_INDEX_SCALE"), (54, u "JLA"), (0, u "Ljdk/internal/access/JavaLangAccess;"), (11, u "LOG2_ARRAY_BOOLEAN_INDEX_SCALE"), (9, u "LOG2_ARRAY_BYTE_INDEX_SCALE"), (5, u "LOG2_ARRAY_CHAR_INDEX_SCALE"), (5, u "LOG2_ARRAY_SHORT_INDEX_SCALE"), (18, u "LOG2_ARRAY_FLOAT_INDEX_SCALE"), (24, u "LOG2_ARRAY_DOUBLE_INDEX_SCALE"), (89, u "T_BOOLEAN"), (2, u "T_CHAR"), (1, u "T_FLOAT"), (1, u "T_DOUBLE"), (1, u "T_BYTE"), (1, u "T_SHORT"), (1, u "T_INT"), (1, u "T_LONG"), (1, u "SOFT_MAX_ARRAY_LENGTH")] 83

def k21m0 : Method := { name := "<init>", desc := "()V", sig := { parameters := [], returnType := none }, accessFlags := 2, code := none }
/-- jdk/internal/util/ArraysSupport -/
def k21 : Class := { plain "jdk/internal/util/ArraysSupport" (some 0) with
  accessFlags := 33
  interfaces := #[]
  cf := some (fileOf pool21 21 #[] #[{ accessFlags := 2, nameIndex := 9, descriptorIndex := 19, attributes := #[] }] 33 16 #[] #[{ accessFlags := 24, nameIndex := 28, descriptorIndex := 29, attributes := #[] }, { accessFlags := 26, nameIndex := 38, descriptorIndex := 39, attributes := #[] }, { accessFlags := 25, nameIndex := 121, descriptorIndex := 25, attributes := #[] }, { accessFlags := 25, nameIndex := 131, descriptorIndex := 25, attributes := #[] }, { accessFlags := 25, nameIndex := 137, descriptorIndex := 25, attributes := #[] }, { accessFlags := 25, nameIndex := 143, descriptorIndex := 25, attributes := #[] }, { accessFlags := 25, nameIndex := 53, descriptorIndex := 25, attributes := #[] }, { accessFlags := 25, nameIndex := 24, descriptorIndex := 25, attributes := #[] }, { accessFlags := 25, nameIndex := 162, descriptorIndex := 25, attributes := #[] }, { accessFlags := 25, nameIndex := 187, descriptorIndex := 25, attributes := #[] }, { accessFlags := 26, nameIndex := 48, descriptorIndex := 25, attributes := #[] }, { accessFlags := 25, nameIndex := 277, descriptorIndex := 25, attributes := #[] }, { accessFlags := 25, nameIndex := 280, descriptorIndex := 25, attributes := #[] }, { accessFlags := 25, nameIndex := 282, descriptorIndex := 25, attributes := #[] }, { accessFlags := 25, nameIndex := 284, descriptorIndex := 25, attributes := #[] }, { accessFlags := 25, nameIndex := 286, descriptorIndex := 25, attributes := #[] }, { accessFlags := 25, nameIndex := 288, descriptorIndex := 25, attributes := #[] }, { accessFlags := 25, nameIndex := 290, descriptorIndex := 25, attributes := #[] }, { accessFlags := 25, nameIndex := 292, descriptorIndex := 25, attributes := #[] }, { accessFlags := 26, nameIndex := 108, descriptorIndex := 109, attributes := #[] }, { accessFlags := 25, nameIndex := 294, descriptorIndex := 25, attributes := #[] }])
  fields := #[{ name := "U", type := (.object "jdk/internal/misc/Unsafe"), accessFlags := 24, slot := 0, constantValue := 0 }, { name := "BIG_ENDIAN", type := .boolean, accessFlags := 26, slot := 1, constantValue := 0 }, { name := "LOG2_ARRAY_BOOLEAN_INDEX_SCALE", type := .int, accessFlags := 25, slot := 2, constantValue := 0 }, { name := "LOG2_ARRAY_BYTE_INDEX_SCALE", type := .int, accessFlags := 25, slot := 3, constantValue := 0 }, { name := "LOG2_ARRAY_CHAR_INDEX_SCALE", type := .int, accessFlags := 25, slot := 4, constantValue := 0 }, { name := "LOG2_ARRAY_SHORT_INDEX_SCALE", type := .int, accessFlags := 25, slot := 5, constantValue := 0 }, { name := "LOG2_ARRAY_INT_INDEX_SCALE", type := .int, accessFlags := 25, slot := 6, constantValue := 0 }, { name := "LOG2_ARRAY_LONG_INDEX_SCALE", type := .int, accessFlags := 25, slot := 7, constantValue := 0 }, { name := "LOG2_ARRAY_FLOAT_INDEX_SCALE", type := .int, accessFlags := 25, slot := 8, constantValue := 0 }, { name := "LOG2_ARRAY_DOUBLE_INDEX_SCALE", type := .int, accessFlags := 25, slot := 9, constantValue := 0 }, { name := "LOG2_BYTE_BIT_SIZE", type := .int, accessFlags := 26, slot := 10, constantValue := 0 }, { name := "T_BOOLEAN", type := .int, accessFlags := 25, slot := 11, constantValue := 0 }, { name := "T_CHAR", type := .int, accessFlags := 25, slot := 12, constantValue := 0 }, { name := "T_FLOAT", type := .int, accessFlags := 25, slot := 13, constantValue := 0 }, { name := "T_DOUBLE", type := .int, accessFlags := 25, slot := 14, constantValue := 0 }, { name := "T_BYTE", type := .int, accessFlags := 25, slot := 15, constantValue := 0 }, { name := "T_SHORT", type := .int, accessFlags := 25, slot := 16, constantValue := 0 }, { name := "T_INT", type := .int, accessFlags := 25, slot := 17, constantValue := 0 }, { name := "T_LONG", type := .int, accessFlags := 25, slot := 18, constantValue := 0 }, { name := "JLA", type := (.object "jdk/internal/access/JavaLangAccess"), accessFlags := 26, slot := 19, constantValue := 0 }, { name := "SOFT_MAX_ARRAY_LENGTH", type := .int, accessFlags := 25, slot := 20, constantValue := 0 }]
  methods := #[k21m0]
  instanceTypes := #[]
  staticTypes := #[(.object "jdk/internal/misc/Unsafe"), .boolean, .int, .int, .int, .int, .int, .int, .int, .int, .int, .int, .int, .int, .int, .int, .int, .int, .int, (.object "jdk/internal/access/JavaLangAccess"), .int]
  resolved := Array.replicate 378 none
  statics := none }

/-- the primitive byte -/
def k22 : Class := { plain "byte" none with kind := .primitive 'B', accessFlags := 0x411 }
/-- [B -/
def k23 : Class := { plain "[B" (some 0) with kind := .array 22 .byte, interfaces := #[9, 6], accessFlags := 1041 }

/-- the primitive char -/
def k24 : Class := { plain "char" none with kind := .primitive 'C', accessFlags := 0x411 }
/-- [C -/
def k25 : Class := { plain "[C" (some 0) with kind := .array 24 .char, interfaces := #[9, 6], accessFlags := 1041 }

/-- the primitive int -/
def k26 : Class := { plain "int" none with kind := .primitive 'I', accessFlags := 0x411 }
/-- [I -/
def k27 : Class := { plain "[I" (some 0) with kind := .array 26 .int, interfaces := #[9, 6], accessFlags := 1041 }

/-- [Lcom/example/rowpath/rowpath/core/NodeMatch$Tier; -/
def k28 : Class := { plain "[Lcom/example/rowpath/rowpath/core/NodeMatch$Tier;" (some 0) with kind := .array 8 (.object "com/example/rowpath/rowpath/core/NodeMatch$Tier"), interfaces := #[9, 6], accessFlags := 1041 }

/-- [Ljava/lang/Integer; -/
def k29 : Class := { plain "[Ljava/lang/Integer;" (some 0) with kind := .array 16 (.object "java/lang/Integer"), interfaces := #[9, 6], accessFlags := 1041 }

def heap : Heap := #[{ cls := 8, slots := #[.ref 6, .ref 7, .ref 8, .ref 9, .ref 10, .ref 11, .ref 4], vm := .statics 8 },
  { cls := 14, slots := #[.long 0, .int 1, .null, .int 0, .null, .int 0, .int 0], vm := .statics 14 },
  { cls := 17, slots := #[.int 0, .int 127, .ref 5, .null, .int 0], vm := .statics 17 },
  { cls := 20, slots := #[.null, .null, .null], vm := .statics 20 },
  { cls := 28, slots := #[.ref 6, .ref 7, .ref 8, .ref 9, .ref 10, .ref 11], vm := .none },
  { cls := 29, slots := #[.ref 12, .ref 13, .ref 14, .ref 15, .ref 16, .ref 17, .ref 18, .ref 19, .ref 20, .ref 21, .ref 22, .ref 23, .ref 24, .ref 25, .ref 26, .ref 27, .ref 28, .ref 29, .ref 30, .ref 31, .ref 32, .ref 33, .ref 34, .ref 35, .ref 36, .ref 37, .ref 38, .ref 39, .ref 40, .ref 41, .ref 42, .ref 43, .ref 44, .ref 45, .ref 46, .ref 47, .ref 48, .ref 49, .ref 50, .ref 51, .ref 52, .ref 53, .ref 54, .ref 55, .ref 56, .ref 57, .ref 58, .ref 59, .ref 60, .ref 61, .ref 62, .ref 63, .ref 64, .ref 65, .ref 66, .ref 67, .ref 68, .ref 69, .ref 70, .ref 71, .ref 72, .ref 73, .ref 74, .ref 75, .ref 76, .ref 77, .ref 78, .ref 79, .ref 80, .ref 81, .ref 82, .ref 83, .ref 84, .ref 85, .ref 86, .ref 87, .ref 88, .ref 89, .ref 90, .ref 91, .ref 92, .ref 93, .ref 94, .ref 95, .ref 96, .ref 97, .ref 98, .ref 99, .ref 100, .ref 101, .ref 102, .ref 103, .ref 104, .ref 105, .ref 106, .ref 107, .ref 108, .ref 109, .ref 110, .ref 111, .ref 112, .ref 113, .ref 114, .ref 115, .ref 116, .ref 117, .ref 118, .ref 119, .ref 120, .ref 121, .ref 122, .ref 123, .ref 124, .ref 125, .ref 126, .ref 127, .ref 128, .ref 129, .ref 130, .ref 131, .ref 132, .ref 133, .ref 134, .ref 135, .ref 136, .ref 137, .ref 138, .ref 139, .ref 140, .ref 141, .ref 142, .ref 143, .ref 144, .ref 145, .ref 146, .ref 147, .ref 148, .ref 149, .ref 150, .ref 151, .ref 152, .ref 153, .ref 154, .ref 155, .ref 156, .ref 157, .ref 158, .ref 159, .ref 160, .ref 161, .ref 162, .ref 163, .ref 164, .ref 165, .ref 166, .ref 167, .ref 168, .ref 169, .ref 170, .ref 171, .ref 172, .ref 173, .ref 174, .ref 175, .ref 176, .ref 177, .ref 178, .ref 179, .ref 180, .ref 181, .ref 182, .ref 183, .ref 184, .ref 185, .ref 186, .ref 187, .ref 188, .ref 189, .ref 190, .ref 191, .ref 192, .ref 193, .ref 194, .ref 195, .ref 196, .ref 197, .ref 198, .ref 199, .ref 200, .ref 201, .ref 202, .ref 203, .ref 204, .ref 205, .ref 206, .ref 207, .ref 208, .ref 209, .ref 210, .ref 211, .ref 212, .ref 213, .ref 214, .ref 215, .ref 216, .ref 217, .ref 218, .ref 219, .ref 220, .ref 221, .ref 222, .ref 223, .ref 224, .ref 225, .ref 226, .ref 227, .ref 228, .ref 229, .ref 230, .ref 231, .ref 232, .ref 233, .ref 234, .ref 235, .ref 236, .ref 237, .ref 238, .ref 239, .ref 240, .ref 241, .ref 242, .ref 243, .ref 244, .ref 245, .ref 246, .ref 247, .ref 248, .ref 249, .ref 250, .ref 251, .ref 252, .ref 253, .ref 254, .ref 255, .ref 256, .ref 257, .ref 258, .ref 259, .ref 260, .ref 261, .ref 262, .ref 263, .ref 264, .ref 265, .ref 266, .ref 267], vm := .none },
  { cls := 8, slots := #[.null, .int 0, .int 0, .int 1, .int 1, .int 1], vm := .none },
  { cls := 8, slots := #[.null, .int 1, .int 0, .int 0, .int 1, .int 1], vm := .none },
  { cls := 8, slots := #[.null, .int 2, .int 0, .int 1, .int 1, .int 0], vm := .none },
  { cls := 8, slots := #[.null, .int 3, .int 0, .int 0, .int 1, .int 0], vm := .none },
  { cls := 8, slots := #[.null, .int 4, .int 0, .int 1, .int 0, .int 0], vm := .none },
  { cls := 8, slots := #[.null, .int 5, .int 0, .int 0, .int 0, .int 0], vm := .none },
  { cls := 16, slots := #[.int (-128)], vm := .none },
  { cls := 16, slots := #[.int (-127)], vm := .none },
  { cls := 16, slots := #[.int (-126)], vm := .none },
  { cls := 16, slots := #[.int (-125)], vm := .none },
  { cls := 16, slots := #[.int (-124)], vm := .none },
  { cls := 16, slots := #[.int (-123)], vm := .none },
  { cls := 16, slots := #[.int (-122)], vm := .none },
  { cls := 16, slots := #[.int (-121)], vm := .none },
  { cls := 16, slots := #[.int (-120)], vm := .none },
  { cls := 16, slots := #[.int (-119)], vm := .none },
  { cls := 16, slots := #[.int (-118)], vm := .none },
  { cls := 16, slots := #[.int (-117)], vm := .none },
  { cls := 16, slots := #[.int (-116)], vm := .none },
  { cls := 16, slots := #[.int (-115)], vm := .none },
  { cls := 16, slots := #[.int (-114)], vm := .none },
  { cls := 16, slots := #[.int (-113)], vm := .none },
  { cls := 16, slots := #[.int (-112)], vm := .none },
  { cls := 16, slots := #[.int (-111)], vm := .none },
  { cls := 16, slots := #[.int (-110)], vm := .none },
  { cls := 16, slots := #[.int (-109)], vm := .none },
  { cls := 16, slots := #[.int (-108)], vm := .none },
  { cls := 16, slots := #[.int (-107)], vm := .none },
  { cls := 16, slots := #[.int (-106)], vm := .none },
  { cls := 16, slots := #[.int (-105)], vm := .none },
  { cls := 16, slots := #[.int (-104)], vm := .none },
  { cls := 16, slots := #[.int (-103)], vm := .none },
  { cls := 16, slots := #[.int (-102)], vm := .none },
  { cls := 16, slots := #[.int (-101)], vm := .none },
  { cls := 16, slots := #[.int (-100)], vm := .none },
  { cls := 16, slots := #[.int (-99)], vm := .none },
  { cls := 16, slots := #[.int (-98)], vm := .none },
  { cls := 16, slots := #[.int (-97)], vm := .none },
  { cls := 16, slots := #[.int (-96)], vm := .none },
  { cls := 16, slots := #[.int (-95)], vm := .none },
  { cls := 16, slots := #[.int (-94)], vm := .none },
  { cls := 16, slots := #[.int (-93)], vm := .none },
  { cls := 16, slots := #[.int (-92)], vm := .none },
  { cls := 16, slots := #[.int (-91)], vm := .none },
  { cls := 16, slots := #[.int (-90)], vm := .none },
  { cls := 16, slots := #[.int (-89)], vm := .none },
  { cls := 16, slots := #[.int (-88)], vm := .none },
  { cls := 16, slots := #[.int (-87)], vm := .none },
  { cls := 16, slots := #[.int (-86)], vm := .none },
  { cls := 16, slots := #[.int (-85)], vm := .none },
  { cls := 16, slots := #[.int (-84)], vm := .none },
  { cls := 16, slots := #[.int (-83)], vm := .none },
  { cls := 16, slots := #[.int (-82)], vm := .none },
  { cls := 16, slots := #[.int (-81)], vm := .none },
  { cls := 16, slots := #[.int (-80)], vm := .none },
  { cls := 16, slots := #[.int (-79)], vm := .none },
  { cls := 16, slots := #[.int (-78)], vm := .none },
  { cls := 16, slots := #[.int (-77)], vm := .none },
  { cls := 16, slots := #[.int (-76)], vm := .none },
  { cls := 16, slots := #[.int (-75)], vm := .none },
  { cls := 16, slots := #[.int (-74)], vm := .none },
  { cls := 16, slots := #[.int (-73)], vm := .none },
  { cls := 16, slots := #[.int (-72)], vm := .none },
  { cls := 16, slots := #[.int (-71)], vm := .none },
  { cls := 16, slots := #[.int (-70)], vm := .none },
  { cls := 16, slots := #[.int (-69)], vm := .none },
  { cls := 16, slots := #[.int (-68)], vm := .none },
  { cls := 16, slots := #[.int (-67)], vm := .none },
  { cls := 16, slots := #[.int (-66)], vm := .none },
  { cls := 16, slots := #[.int (-65)], vm := .none },
  { cls := 16, slots := #[.int (-64)], vm := .none },
  { cls := 16, slots := #[.int (-63)], vm := .none },
  { cls := 16, slots := #[.int (-62)], vm := .none },
  { cls := 16, slots := #[.int (-61)], vm := .none },
  { cls := 16, slots := #[.int (-60)], vm := .none },
  { cls := 16, slots := #[.int (-59)], vm := .none },
  { cls := 16, slots := #[.int (-58)], vm := .none },
  { cls := 16, slots := #[.int (-57)], vm := .none },
  { cls := 16, slots := #[.int (-56)], vm := .none },
  { cls := 16, slots := #[.int (-55)], vm := .none },
  { cls := 16, slots := #[.int (-54)], vm := .none },
  { cls := 16, slots := #[.int (-53)], vm := .none },
  { cls := 16, slots := #[.int (-52)], vm := .none },
  { cls := 16, slots := #[.int (-51)], vm := .none },
  { cls := 16, slots := #[.int (-50)], vm := .none },
  { cls := 16, slots := #[.int (-49)], vm := .none },
  { cls := 16, slots := #[.int (-48)], vm := .none },
  { cls := 16, slots := #[.int (-47)], vm := .none },
  { cls := 16, slots := #[.int (-46)], vm := .none },
  { cls := 16, slots := #[.int (-45)], vm := .none },
  { cls := 16, slots := #[.int (-44)], vm := .none },
  { cls := 16, slots := #[.int (-43)], vm := .none },
  { cls := 16, slots := #[.int (-42)], vm := .none },
  { cls := 16, slots := #[.int (-41)], vm := .none },
  { cls := 16, slots := #[.int (-40)], vm := .none },
  { cls := 16, slots := #[.int (-39)], vm := .none },
  { cls := 16, slots := #[.int (-38)], vm := .none },
  { cls := 16, slots := #[.int (-37)], vm := .none },
  { cls := 16, slots := #[.int (-36)], vm := .none },
  { cls := 16, slots := #[.int (-35)], vm := .none },
  { cls := 16, slots := #[.int (-34)], vm := .none },
  { cls := 16, slots := #[.int (-33)], vm := .none },
  { cls := 16, slots := #[.int (-32)], vm := .none },
  { cls := 16, slots := #[.int (-31)], vm := .none },
  { cls := 16, slots := #[.int (-30)], vm := .none },
  { cls := 16, slots := #[.int (-29)], vm := .none },
  { cls := 16, slots := #[.int (-28)], vm := .none },
  { cls := 16, slots := #[.int (-27)], vm := .none },
  { cls := 16, slots := #[.int (-26)], vm := .none },
  { cls := 16, slots := #[.int (-25)], vm := .none },
  { cls := 16, slots := #[.int (-24)], vm := .none },
  { cls := 16, slots := #[.int (-23)], vm := .none },
  { cls := 16, slots := #[.int (-22)], vm := .none },
  { cls := 16, slots := #[.int (-21)], vm := .none },
  { cls := 16, slots := #[.int (-20)], vm := .none },
  { cls := 16, slots := #[.int (-19)], vm := .none },
  { cls := 16, slots := #[.int (-18)], vm := .none },
  { cls := 16, slots := #[.int (-17)], vm := .none },
  { cls := 16, slots := #[.int (-16)], vm := .none },
  { cls := 16, slots := #[.int (-15)], vm := .none },
  { cls := 16, slots := #[.int (-14)], vm := .none },
  { cls := 16, slots := #[.int (-13)], vm := .none },
  { cls := 16, slots := #[.int (-12)], vm := .none },
  { cls := 16, slots := #[.int (-11)], vm := .none },
  { cls := 16, slots := #[.int (-10)], vm := .none },
  { cls := 16, slots := #[.int (-9)], vm := .none },
  { cls := 16, slots := #[.int (-8)], vm := .none },
  { cls := 16, slots := #[.int (-7)], vm := .none },
  { cls := 16, slots := #[.int (-6)], vm := .none },
  { cls := 16, slots := #[.int (-5)], vm := .none },
  { cls := 16, slots := #[.int (-4)], vm := .none },
  { cls := 16, slots := #[.int (-3)], vm := .none },
  { cls := 16, slots := #[.int (-2)], vm := .none },
  { cls := 16, slots := #[.int (-1)], vm := .none },
  { cls := 16, slots := #[.int (0)], vm := .none },
  { cls := 16, slots := #[.int (1)], vm := .none },
  { cls := 16, slots := #[.int (2)], vm := .none },
  { cls := 16, slots := #[.int (3)], vm := .none },
  { cls := 16, slots := #[.int (4)], vm := .none },
  { cls := 16, slots := #[.int (5)], vm := .none },
  { cls := 16, slots := #[.int (6)], vm := .none },
  { cls := 16, slots := #[.int (7)], vm := .none },
  { cls := 16, slots := #[.int (8)], vm := .none },
  { cls := 16, slots := #[.int (9)], vm := .none },
  { cls := 16, slots := #[.int (10)], vm := .none },
  { cls := 16, slots := #[.int (11)], vm := .none },
  { cls := 16, slots := #[.int (12)], vm := .none },
  { cls := 16, slots := #[.int (13)], vm := .none },
  { cls := 16, slots := #[.int (14)], vm := .none },
  { cls := 16, slots := #[.int (15)], vm := .none },
  { cls := 16, slots := #[.int (16)], vm := .none },
  { cls := 16, slots := #[.int (17)], vm := .none },
  { cls := 16, slots := #[.int (18)], vm := .none },
  { cls := 16, slots := #[.int (19)], vm := .none },
  { cls := 16, slots := #[.int (20)], vm := .none },
  { cls := 16, slots := #[.int (21)], vm := .none },
  { cls := 16, slots := #[.int (22)], vm := .none },
  { cls := 16, slots := #[.int (23)], vm := .none },
  { cls := 16, slots := #[.int (24)], vm := .none },
  { cls := 16, slots := #[.int (25)], vm := .none },
  { cls := 16, slots := #[.int (26)], vm := .none },
  { cls := 16, slots := #[.int (27)], vm := .none },
  { cls := 16, slots := #[.int (28)], vm := .none },
  { cls := 16, slots := #[.int (29)], vm := .none },
  { cls := 16, slots := #[.int (30)], vm := .none },
  { cls := 16, slots := #[.int (31)], vm := .none },
  { cls := 16, slots := #[.int (32)], vm := .none },
  { cls := 16, slots := #[.int (33)], vm := .none },
  { cls := 16, slots := #[.int (34)], vm := .none },
  { cls := 16, slots := #[.int (35)], vm := .none },
  { cls := 16, slots := #[.int (36)], vm := .none },
  { cls := 16, slots := #[.int (37)], vm := .none },
  { cls := 16, slots := #[.int (38)], vm := .none },
  { cls := 16, slots := #[.int (39)], vm := .none },
  { cls := 16, slots := #[.int (40)], vm := .none },
  { cls := 16, slots := #[.int (41)], vm := .none },
  { cls := 16, slots := #[.int (42)], vm := .none },
  { cls := 16, slots := #[.int (43)], vm := .none },
  { cls := 16, slots := #[.int (44)], vm := .none },
  { cls := 16, slots := #[.int (45)], vm := .none },
  { cls := 16, slots := #[.int (46)], vm := .none },
  { cls := 16, slots := #[.int (47)], vm := .none },
  { cls := 16, slots := #[.int (48)], vm := .none },
  { cls := 16, slots := #[.int (49)], vm := .none },
  { cls := 16, slots := #[.int (50)], vm := .none },
  { cls := 16, slots := #[.int (51)], vm := .none },
  { cls := 16, slots := #[.int (52)], vm := .none },
  { cls := 16, slots := #[.int (53)], vm := .none },
  { cls := 16, slots := #[.int (54)], vm := .none },
  { cls := 16, slots := #[.int (55)], vm := .none },
  { cls := 16, slots := #[.int (56)], vm := .none },
  { cls := 16, slots := #[.int (57)], vm := .none },
  { cls := 16, slots := #[.int (58)], vm := .none },
  { cls := 16, slots := #[.int (59)], vm := .none },
  { cls := 16, slots := #[.int (60)], vm := .none },
  { cls := 16, slots := #[.int (61)], vm := .none },
  { cls := 16, slots := #[.int (62)], vm := .none },
  { cls := 16, slots := #[.int (63)], vm := .none },
  { cls := 16, slots := #[.int (64)], vm := .none },
  { cls := 16, slots := #[.int (65)], vm := .none },
  { cls := 16, slots := #[.int (66)], vm := .none },
  { cls := 16, slots := #[.int (67)], vm := .none },
  { cls := 16, slots := #[.int (68)], vm := .none },
  { cls := 16, slots := #[.int (69)], vm := .none },
  { cls := 16, slots := #[.int (70)], vm := .none },
  { cls := 16, slots := #[.int (71)], vm := .none },
  { cls := 16, slots := #[.int (72)], vm := .none },
  { cls := 16, slots := #[.int (73)], vm := .none },
  { cls := 16, slots := #[.int (74)], vm := .none },
  { cls := 16, slots := #[.int (75)], vm := .none },
  { cls := 16, slots := #[.int (76)], vm := .none },
  { cls := 16, slots := #[.int (77)], vm := .none },
  { cls := 16, slots := #[.int (78)], vm := .none },
  { cls := 16, slots := #[.int (79)], vm := .none },
  { cls := 16, slots := #[.int (80)], vm := .none },
  { cls := 16, slots := #[.int (81)], vm := .none },
  { cls := 16, slots := #[.int (82)], vm := .none },
  { cls := 16, slots := #[.int (83)], vm := .none },
  { cls := 16, slots := #[.int (84)], vm := .none },
  { cls := 16, slots := #[.int (85)], vm := .none },
  { cls := 16, slots := #[.int (86)], vm := .none },
  { cls := 16, slots := #[.int (87)], vm := .none },
  { cls := 16, slots := #[.int (88)], vm := .none },
  { cls := 16, slots := #[.int (89)], vm := .none },
  { cls := 16, slots := #[.int (90)], vm := .none },
  { cls := 16, slots := #[.int (91)], vm := .none },
  { cls := 16, slots := #[.int (92)], vm := .none },
  { cls := 16, slots := #[.int (93)], vm := .none },
  { cls := 16, slots := #[.int (94)], vm := .none },
  { cls := 16, slots := #[.int (95)], vm := .none },
  { cls := 16, slots := #[.int (96)], vm := .none },
  { cls := 16, slots := #[.int (97)], vm := .none },
  { cls := 16, slots := #[.int (98)], vm := .none },
  { cls := 16, slots := #[.int (99)], vm := .none },
  { cls := 16, slots := #[.int (100)], vm := .none },
  { cls := 16, slots := #[.int (101)], vm := .none },
  { cls := 16, slots := #[.int (102)], vm := .none },
  { cls := 16, slots := #[.int (103)], vm := .none },
  { cls := 16, slots := #[.int (104)], vm := .none },
  { cls := 16, slots := #[.int (105)], vm := .none },
  { cls := 16, slots := #[.int (106)], vm := .none },
  { cls := 16, slots := #[.int (107)], vm := .none },
  { cls := 16, slots := #[.int (108)], vm := .none },
  { cls := 16, slots := #[.int (109)], vm := .none },
  { cls := 16, slots := #[.int (110)], vm := .none },
  { cls := 16, slots := #[.int (111)], vm := .none },
  { cls := 16, slots := #[.int (112)], vm := .none },
  { cls := 16, slots := #[.int (113)], vm := .none },
  { cls := 16, slots := #[.int (114)], vm := .none },
  { cls := 16, slots := #[.int (115)], vm := .none },
  { cls := 16, slots := #[.int (116)], vm := .none },
  { cls := 16, slots := #[.int (117)], vm := .none },
  { cls := 16, slots := #[.int (118)], vm := .none },
  { cls := 16, slots := #[.int (119)], vm := .none },
  { cls := 16, slots := #[.int (120)], vm := .none },
  { cls := 16, slots := #[.int (121)], vm := .none },
  { cls := 16, slots := #[.int (122)], vm := .none },
  { cls := 16, slots := #[.int (123)], vm := .none },
  { cls := 16, slots := #[.int (124)], vm := .none },
  { cls := 16, slots := #[.int (125)], vm := .none },
  { cls := 16, slots := #[.int (126)], vm := .none },
  { cls := 16, slots := #[.int (127)], vm := .none }]
def classes : Array Class := #[k0, k1, k2, k3, k4, k5, k6, k7, k8, k9, k10, k11, k12, k13, k14, k15, k16, k17, k18, k19, k20, k21, k22, k23, k24, k25, k26, k27, k28, k29]
def interned : List (Array UInt16 × Addr) := []
def slotsUsed : Nat := 576
def theMethod : MethodId := ⟨1, 1⟩
def args0 : Array Value := #[.int 7, .int 5, .int 65601, .int 131153]
def aboutOver (below : List Frame) : State where
  vm := { classes := classes, interned := interned.toArray }
  heap := heap
  slotsUsed := slotsUsed
  threads := #[{ frames := .invoking theMethod args0 :: below }]
def below0 : List Frame := [.native { method := ⟨0, 0⟩, args := #[] }]
def about1 : State := aboutOver below0
def p0 : Program := .bare "" "" ""
def e0 : Env := launch0.env 0 0 0
theorem w_frames : about1.frames = Frame.invoking theMethod args0 :: below0 := rfl
set_option maxRecDepth 65536 in
theorem w_args : argsFit about1.vm theMethod args0 = true := by decide +kernel
set_option maxRecDepth 65536 in
theorem w_heap : heapFits about1 = true := by decide +kernel
set_option maxRecDepth 65536 in
theorem w_runnable : about1.curStatus? = some .runnable := by decide +kernel
set_option maxRecDepth 65536 in
theorem w_alone : about1.alone = true := by decide +kernel
set_option maxRecDepth 65536 in
theorem w_named : about1.methodNamed? x = some theMethod := by decide +kernel
set_option maxRecDepth 65536 in
theorem w_hears : about1.hears theMethod below0 = true := by decide +kernel
set_option maxRecDepth 65536 in
theorem w_ripe : about1.ripe theMethod args0 below0 = true := by decide +kernel
theorem w_running : about1.status = .running := rfl
set_option maxRecDepth 65536 in
theorem w_room : about1.hasRoom e0.platform room_1 = true :=
  launch0.hasRoom_least _ room_1 (by decide +kernel) (by decide +kernel) (by decide +kernel) (by decide +kernel) (by decide +kernel) (by decide +kernel)
theorem allAtoms_all (ts : List Jvm.Cond) (a : Array Jvm.Value) (st : Jvm.State) : (allAtoms ts).before a st = ts.all (fun c => c.before a st) := by
  induction ts with
  | nil => rfl
  | cons c t ih =>
    show (Jvm.Cond.and c (allAtoms t)).before a st = _
    rw [Jvm.Cond.before_and, ih, List.all_cons]
def words1 : List Jvm.Cond := Jvm.Cond.code x code maxLocals ret :: tables_1
/-- a 'code' word, met by the world's own term for the bytes: nothing is compared byte by byte -/
theorem code_word {y : MethodName} {bytes : ByteArray} {mx : Nat} {rt : Option FieldType} {a : Array Value} {s : State} {m : MethodId} {meth : Method} {c : Code} (h1 : s.methodNamed? y = some m) (h2 : s.vm.method? m = some meth) (h3 : meth.code = some c) (h4 : c.code = bytes)
    (h5 : (c.maxLocals == mx && c.exceptionTable.isEmpty && decide (c.maxStack ≤ mostOperands) && decide (meth.sig.returnType = rt) && !meth.locks && decide (parseMethodDescriptor y.desc = some meth.sig)) = true) : (Jvm.Cond.code y bytes mx rt).before a s = true := by
  simp only [Bool.and_eq_true, beq_iff_eq, Bool.not_eq_true', decide_eq_true_eq] at h5
  obtain ⟨⟨⟨⟨⟨g1, g2⟩, g3⟩, g4⟩, g5⟩, g6⟩ := h5
  simp [Cond.before, Cond.holds, Cond.value, h1, h2, h3, h4, g1, g2, g3, g4, g5, g6]
def isCode : Jvm.Cond → Bool
  | .code _ _ _ _ => true
  | _ => false
theorem all_split {L : List Jvm.Cond} {P : Jvm.Cond → Bool} (h1 : L.all (fun c => isCode c || P c) = true) (h2 : ∀ c ∈ L.filter isCode, P c = true) : L.all P = true := by
  refine List.all_eq_true.mpr fun c hc => ?_
  have h := List.all_eq_true.mp h1 c hc
  rcases Bool.eq_false_or_eq_true (isCode c) with hi | hi
  · exact h2 c (List.mem_filter.mpr ⟨hc, hi⟩)
  · simpa [hi] using h
set_option maxRecDepth 65536 in
theorem w_c0 : (Jvm.Cond.code x code maxLocals ret).before args0 about1 = true := code_word (m := ⟨1, 1⟩) (meth := k1m1) (c := k1c1) (by decide +kernel) rfl rfl rfl (by decide +kernel)
set_option maxRecDepth 65536 in
theorem w_c1 : (Jvm.Cond.code ({ cls := "com/example/rowpath/rowpath/core/NodeMatch", name := "<init>", desc := "(Ljava/lang/Integer;Ljava/lang/String;Ljava/lang/String;)V" } : Jvm.MethodName) prog_47_method_1_code (4 : Nat) (Option.none : Option Jvm.ClassFile.FieldType)).before args0 about1 = true := code_word (m := ⟨3, 0⟩) (meth := k3m0) (c := k3c0) (by decide +kernel) rfl rfl rfl (by decide +kernel)
set_option maxRecDepth 65536 in
theorem w_c2 : (Jvm.Cond.code ({ cls := "java/lang/Record", name := "<init>", desc := "()V" } : Jvm.MethodName) jdk_30_method_1_code (1 : Nat) (Option.none : Option Jvm.ClassFile.FieldType)).before args0 about1 = true := code_word (m := ⟨2, 0⟩) (meth := k2m0) (c := k2c0) (by decide +kernel) rfl rfl rfl (by decide +kernel)
set_option maxRecDepth 65536 in
theorem w_c3 : (Jvm.Cond.code ({ cls := "java/lang/Object", name := "<init>", desc := "()V" } : Jvm.MethodName) object_method_1_code (1 : Nat) (Option.none : Option Jvm.ClassFile.FieldType)).before args0 about1 = true := code_word (m := ⟨0, 0⟩) (meth := k0m0) (c := k0c0) (by decide +kernel) rfl rfl rfl (by decide +kernel)
set_option maxRecDepth 65536 in
theorem w_c4 : (Jvm.Cond.code ({ cls := "com/example/rowpath/rowpath/core/NodeMatch$Tier", name := "of", desc := "(ZZZ)Ljava/util/Optional;" } : Jvm.MethodName) prog_48_method_4_code (7 : Nat) (Option.some (Jvm.ClassFile.FieldType.object "java/util/Optional"))).before args0 about1 = true := code_word (m := ⟨8, 1⟩) (meth := k8m1) (c := k8c1) (by decide +kernel) rfl rfl rfl (by decide +kernel)
set_option maxRecDepth 65536 in
theorem w_c5 : (Jvm.Cond.code ({ cls := "com/example/rowpath/rowpath/core/NodeMatch$Tier", name := "values", desc := "()[Lcom/example/rowpath/rowpath/core/NodeMatch$Tier;" } : Jvm.MethodName) prog_48_method_1_code (0 : Nat) (Option.some (Jvm.ClassFile.FieldType.array (Jvm.ClassFile.FieldType.object "com/example/rowpath/rowpath/core/NodeMatch$Tier")))).before args0 about1 = true := code_word (m := ⟨8, 0⟩) (meth := k8m0) (c := k8c0) (by decide +kernel) rfl rfl rfl (by decide +kernel)
set_option maxRecDepth 65536 in
theorem w_c6 : (Jvm.Cond.code ({ cls := "java/util/Optional", name := "of", desc := "(Ljava/lang/Object;)Ljava/util/Optional;" } : Jvm.MethodName) jdk_32_method_3_code (1 : Nat) (Option.some (Jvm.ClassFile.FieldType.object "java/util/Optional"))).before args0 about1 = true := code_word (m := ⟨10, 1⟩) (meth := k10m1) (c := k10c1) (by decide +kernel) rfl rfl rfl (by decide +kernel)
set_option maxRecDepth 65536 in
theorem w_c7 : (Jvm.Cond.code ({ cls := "java/util/Objects", name := "requireNonNull", desc := "(Ljava/lang/Object;)Ljava/lang/Object;" } : Jvm.MethodName) jdk_31_method_10_code (1 : Nat) (Option.some (Jvm.ClassFile.FieldType.object "java/lang/Object"))).before args0 about1 = true := code_word (m := ⟨11, 1⟩) (meth := k11m1) (c := k11c1) (by decide +kernel) rfl rfl rfl (by decide +kernel)
set_option maxRecDepth 65536 in
theorem w_c8 : (Jvm.Cond.code ({ cls := "java/util/Optional", name := "<init>", desc := "(Ljava/lang/Object;)V" } : Jvm.MethodName) jdk_32_method_2_code (2 : Nat) (Option.none : Option Jvm.ClassFile.FieldType)).before args0 about1 = true := code_word (m := ⟨10, 0⟩) (meth := k10m0) (c := k10c0) (by decide +kernel) rfl rfl rfl (by decide +kernel)
set_option maxRecDepth 65536 in
theorem w_c9 : (Jvm.Cond.code ({ cls := "java/util/Optional", name := "isEmpty", desc := "()Z" } : Jvm.MethodName) jdk_32_method_7_code (1 : Nat) (Option.some Jvm.ClassFile.FieldType.boolean)).before args0 about1 = true := code_word (m := ⟨10, 2⟩) (meth := k10m2) (c := k10c2) (by decide +kernel) rfl rfl rfl (by decide +kernel)
set_option maxRecDepth 65536 in
theorem w_c10 : (Jvm.Cond.code ({ cls := "com/example/rowpath/rowpath/core/NodeMatch", name := "tier", desc := "()Lcom/example/rowpath/rowpath/core/NodeMatch$Tier;" } : Jvm.MethodName) prog_47_method_2_code (1 : Nat) (Option.some (Jvm.ClassFile.FieldType.object "com/example/rowpath/rowpath/core/NodeMatch$Tier"))).before args0 about1 = true := code_word (m := ⟨3, 1⟩) (meth := k3m1) (c := k3c1) (by decide +kernel) rfl rfl rfl (by decide +kernel)
set_option maxRecDepth 65536 in
theorem w_c11 : (Jvm.Cond.code ({ cls := "java/util/Optional", name := "orElseThrow", desc := "()Ljava/lang/Object;" } : Jvm.MethodName) jdk_32_method_17_code (1 : Nat) (Option.some (Jvm.ClassFile.FieldType.object "java/lang/Object"))).before args0 about1 = true := code_word (m := ⟨10, 3⟩) (meth := k10m3) (c := k10c3) (by decide +kernel) rfl rfl rfl (by decide +kernel)
set_option maxRecDepth 65536 in
theorem w_c12 : (Jvm.Cond.code ({ cls := "com/example/rowpath/rowpath/core/NodeMatchTierPinLaw", name := "text", desc := "(I)Ljava/lang/String;" } : Jvm.MethodName) method_3_code (4 : Nat) (Option.some (Jvm.ClassFile.FieldType.object "java/lang/String"))).before args0 about1 = true := code_word (m := ⟨1, 2⟩) (meth := k1m2) (c := k1c2) (by decide +kernel) rfl rfl rfl (by decide +kernel)
set_option maxRecDepth 65536 in
theorem w_c13 : (Jvm.Cond.code ({ cls := "java/lang/String", name := "<init>", desc := "([C)V" } : Jvm.MethodName) jdk_42_method_3_code (2 : Nat) (Option.none : Option Jvm.ClassFile.FieldType)).before args0 about1 = true := code_word (m := ⟨14, 1⟩) (meth := k14m1) (c := k14c1) (by decide +kernel) rfl rfl rfl (by decide +kernel)
set_option maxRecDepth 65536 in
theorem w_c14 : (Jvm.Cond.code ({ cls := "java/lang/String", name := "<init>", desc := "([CIILjava/lang/Void;)V" } : Jvm.MethodName) jdk_42_method_149_code (6 : Nat) (Option.none : Option Jvm.ClassFile.FieldType)).before args0 about1 = true := code_word (m := ⟨14, 3⟩) (meth := k14m3) (c := k14c3) (by decide +kernel) rfl rfl rfl (by decide +kernel)
set_option maxRecDepth 65536 in
theorem w_c15 : (Jvm.Cond.code ({ cls := "java/lang/Integer", name := "valueOf", desc := "(I)Ljava/lang/Integer;" } : Jvm.MethodName) jdk_33_method_22_code (1 : Nat) (Option.some (Jvm.ClassFile.FieldType.object "java/lang/Integer"))).before args0 about1 = true := code_word (m := ⟨16, 0⟩) (meth := k16m0) (c := k16c0) (by decide +kernel) rfl rfl rfl (by decide +kernel)
set_option maxRecDepth 65536 in
theorem w_c16 : (Jvm.Cond.code ({ cls := "java/lang/Integer", name := "<init>", desc := "(I)V" } : Jvm.MethodName) jdk_33_method_23_code (2 : Nat) (Option.none : Option Jvm.ClassFile.FieldType)).before args0 about1 = true := code_word (m := ⟨16, 1⟩) (meth := k16m1) (c := k16c1) (by decide +kernel) rfl rfl rfl (by decide +kernel)
set_option maxRecDepth 65536 in
theorem w_c17 : (Jvm.Cond.code ({ cls := "java/lang/Number", name := "<init>", desc := "()V" } : Jvm.MethodName) jdk_18_method_1_code (1 : Nat) (Option.none : Option Jvm.ClassFile.FieldType)).before args0 about1 = true := code_word (m := ⟨15, 0⟩) (meth := k15m0) (c := k15c0) (by decide +kernel) rfl rfl rfl (by decide +kernel)
set_option maxRecDepth 65536 in
theorem w_c18 : (Jvm.Cond.code ({ cls := "java/lang/String", name := "valueOf", desc := "(C)Ljava/lang/String;" } : Jvm.MethodName) jdk_42_method_139_code (1 : Nat) (Option.some (Jvm.ClassFile.FieldType.object "java/lang/String"))).before args0 about1 = true := code_word (m := ⟨14, 2⟩) (meth := k14m2) (c := k14c2) (by decide +kernel) rfl rfl rfl (by decide +kernel)
set_option maxRecDepth 65536 in
theorem w_c19 : (Jvm.Cond.code ({ cls := "java/lang/StringLatin1", name := "canEncode", desc := "(C)Z" } : Jvm.MethodName) jdk_43_method_3_code (1 : Nat) (Option.some Jvm.ClassFile.FieldType.boolean)).before args0 about1 = true := code_word (m := ⟨18, 1⟩) (meth := k18m1) (c := k18c1) (by decide +kernel) rfl rfl rfl (by decide +kernel)
set_option maxRecDepth 65536 in
theorem w_c20 : (Jvm.Cond.code ({ cls := "java/lang/StringLatin1", name := "toBytes", desc := "(C)[B" } : Jvm.MethodName) jdk_43_method_46_code (1 : Nat) (Option.some (Jvm.ClassFile.FieldType.array Jvm.ClassFile.FieldType.byte))).before args0 about1 = true := code_word (m := ⟨18, 2⟩) (meth := k18m2) (c := k18c2) (by decide +kernel) rfl rfl rfl (by decide +kernel)
set_option maxRecDepth 65536 in
theorem w_c21 : (Jvm.Cond.code ({ cls := "java/lang/String", name := "<init>", desc := "([BB)V" } : Jvm.MethodName) jdk_42_method_151_code (3 : Nat) (Option.none : Option Jvm.ClassFile.FieldType)).before args0 about1 = true := code_word (m := ⟨14, 4⟩) (meth := k14m4) (c := k14c4) (by decide +kernel) rfl rfl rfl (by decide +kernel)
set_option maxRecDepth 65536 in
theorem w_c22 : (Jvm.Cond.code ({ cls := "java/lang/StringUTF16", name := "compress", desc := "([CII)[B" } : Jvm.MethodName) jdk_52_method_16_code (6 : Nat) (Option.some (Jvm.ClassFile.FieldType.array Jvm.ClassFile.FieldType.byte))).before args0 about1 = true := code_word (m := ⟨19, 2⟩) (meth := k19m2) (c := k19c2) (by decide +kernel) rfl rfl rfl (by decide +kernel)
set_option maxRecDepth 65536 in
theorem w_c23 : (Jvm.Cond.code ({ cls := "java/lang/StringUTF16", name := "compress", desc := "([CI[BII)I" } : Jvm.MethodName) jdk_52_method_21_code (7 : Nat) (Option.some Jvm.ClassFile.FieldType.int)).before args0 about1 = true := code_word (m := ⟨19, 3⟩) (meth := k19m3) (c := k19c3) (by decide +kernel) rfl rfl rfl (by decide +kernel)
set_option maxRecDepth 65536 in
theorem w_c24 : (Jvm.Cond.code ({ cls := "java/lang/StringUTF16", name := "coderFromArrayLen", desc := "([BI)B" } : Jvm.MethodName) jdk_52_method_15_code (2 : Nat) (Option.some Jvm.ClassFile.FieldType.byte)).before args0 about1 = true := code_word (m := ⟨19, 1⟩) (meth := k19m1) (c := k19c1) (by decide +kernel) rfl rfl rfl (by decide +kernel)
def codes1 : List Jvm.Cond := [Jvm.Cond.code x code maxLocals ret, Jvm.Cond.code ({ cls := "com/example/rowpath/rowpath/core/NodeMatch", name := "<init>", desc := "(Ljava/lang/Integer;Ljava/lang/String;Ljava/lang/String;)V" } : Jvm.MethodName) prog_47_method_1_code (4 : Nat) (Option.none : Option Jvm.ClassFile.FieldType), Jvm.Cond.code ({ cls := "java/lang/Record", name := "<init>", desc := "()V" } : Jvm.MethodName) jdk_30_method_1_code (1 : Nat) (Option.none : Option Jvm.ClassFile.FieldType), Jvm.Cond.code ({ cls := "java/lang/Object", name := "<init>", desc := "()V" } : Jvm.MethodName) object_method_1_code (1 : Nat) (Option.none : Option Jvm.ClassFile.FieldType), Jvm.Cond.code ({ cls := "com/example/rowpath/rowpath/core/NodeMatch$Tier", name := "of", desc := "(ZZZ)Ljava/util/Optional;" } : Jvm.MethodName) prog_48_method_4_code (7 : Nat) (Option.some (Jvm.ClassFile.FieldType.object "java/util/Optional")), Jvm.Cond.code ({ cls := "com/example/rowpath/rowpath/core/NodeMatch$Tier", name := "values", desc := "()[Lcom/example/rowpath/rowpath/core/NodeMatch$Tier;" } : Jvm.MethodName) prog_48_method_1_code (0 : Nat) (Option.some (Jvm.ClassFile.FieldType.array (Jvm.ClassFile.FieldType.object "com/example/rowpath/rowpath/core/NodeMatch$Tier"))), Jvm.Cond.code ({ cls := "java/util/Optional", name := "of", desc := "(Ljava/lang/Object;)Ljava/util/Optional;" } : Jvm.MethodName) jdk_32_method_3_code (1 : Nat) (Option.some (Jvm.ClassFile.FieldType.object "java/util/Optional")), Jvm.Cond.code ({ cls := "java/util/Objects", name := "requireNonNull", desc := "(Ljava/lang/Object;)Ljava/lang/Object;" } : Jvm.MethodName) jdk_31_method_10_code (1 : Nat) (Option.some (Jvm.ClassFile.FieldType.object "java/lang/Object")), Jvm.Cond.code ({ cls := "java/util/Optional", name := "<init>", desc := "(Ljava/lang/Object;)V" } : Jvm.MethodName) jdk_32_method_2_code (2 : Nat) (Option.none : Option Jvm.ClassFile.FieldType), Jvm.Cond.code ({ cls := "java/util/Optional", name := "isEmpty", desc := "()Z" } : Jvm.MethodName) jdk_32_method_7_code (1 : Nat) (Option.some Jvm.ClassFile.FieldType.boolean), Jvm.Cond.code ({ cls := "com/example/rowpath/rowpath/core/NodeMatch", name := "tier", desc := "()Lcom/example/rowpath/rowpath/core/NodeMatch$Tier;" } : Jvm.MethodName) prog_47_method_2_code (1 : Nat) (Option.some (Jvm.ClassFile.FieldType.object "com/example/rowpath/rowpath/core/NodeMatch$Tier")), Jvm.Cond.code ({ cls := "java/util/Optional", name := "orElseThrow", desc := "()Ljava/lang/Object;" } : Jvm.MethodName) jdk_32_method_17_code (1 : Nat) (Option.some (Jvm.ClassFile.FieldType.object "java/lang/Object")), Jvm.Cond.code ({ cls := "com/example/rowpath/rowpath/core/NodeMatchTierPinLaw", name := "text", desc := "(I)Ljava/lang/String;" } : Jvm.MethodName) method_3_code (4 : Nat) (Option.some (Jvm.ClassFile.FieldType.object "java/lang/String")), Jvm.Cond.code ({ cls := "java/lang/String", name := "<init>", desc := "([C)V" } : Jvm.MethodName) jdk_42_method_3_code (2 : Nat) (Option.none : Option Jvm.ClassFile.FieldType), Jvm.Cond.code ({ cls := "java/lang/String", name := "<init>", desc := "([CIILjava/lang/Void;)V" } : Jvm.MethodName) jdk_42_method_149_code (6 : Nat) (Option.none : Option Jvm.ClassFile.FieldType), Jvm.Cond.code ({ cls := "java/lang/Integer", name := "valueOf", desc := "(I)Ljava/lang/Integer;" } : Jvm.MethodName) jdk_33_method_22_code (1 : Nat) (Option.some (Jvm.ClassFile.FieldType.object "java/lang/Integer")), Jvm.Cond.code ({ cls := "java/lang/Integer", name := "<init>", desc := "(I)V" } : Jvm.MethodName) jdk_33_method_23_code (2 : Nat) (Option.none : Option Jvm.ClassFile.FieldType), Jvm.Cond.code ({ cls := "java/lang/Number", name := "<init>", desc := "()V" } : Jvm.MethodName) jdk_18_method_1_code (1 : Nat) (Option.none : Option Jvm.ClassFile.FieldType), Jvm.Cond.code ({ cls := "java/lang/String", name := "valueOf", desc := "(C)Ljava/lang/String;" } : Jvm.MethodName) jdk_42_method_139_code (1 : Nat) (Option.some (Jvm.ClassFile.FieldType.object "java/lang/String")), Jvm.Cond.code ({ cls := "java/lang/StringLatin1", name := "canEncode", desc := "(C)Z" } : Jvm.MethodName) jdk_43_method_3_code (1 : Nat) (Option.some Jvm.ClassFile.FieldType.boolean), Jvm.Cond.code ({ cls := "java/lang/StringLatin1", name := "toBytes", desc := "(C)[B" } : Jvm.MethodName) jdk_43_method_46_code (1 : Nat) (Option.some (Jvm.ClassFile.FieldType.array Jvm.ClassFile.FieldType.byte)), Jvm.Cond.code ({ cls := "java/lang/String", name := "<init>", desc := "([BB)V" } : Jvm.MethodName) jdk_42_method_151_code (3 : Nat) (Option.none : Option Jvm.ClassFile.FieldType), Jvm.Cond.code ({ cls := "java/lang/StringUTF16", name := "compress", desc := "([CII)[B" } : Jvm.MethodName) jdk_52_method_16_code (6 : Nat) (Option.some (Jvm.ClassFile.FieldType.array Jvm.ClassFile.FieldType.byte)), Jvm.Cond.code ({ cls := "java/lang/StringUTF16", name := "compress", desc := "([CI[BII)I" } : Jvm.MethodName) jdk_52_method_21_code (7 : Nat) (Option.some Jvm.ClassFile.FieldType.int), Jvm.Cond.code ({ cls := "java/lang/StringUTF16", name := "coderFromArrayLen", desc := "([BI)B" } : Jvm.MethodName) jdk_52_method_15_code (2 : Nat) (Option.some Jvm.ClassFile.FieldType.byte)]
set_option maxRecDepth 65536 in
theorem codes_eq : words1.filter isCode = codes1 := rfl
theorem w_codes : ∀ c ∈ words1.filter isCode, c.before args0 about1 = true := by
  rw [codes_eq]
  intro c hc
  simp only [codes1, List.mem_cons, List.not_mem_nil, or_false] at hc
  rcases hc with rfl | rfl | rfl | rfl | rfl | rfl | rfl | rfl | rfl | rfl | rfl | rfl | rfl | rfl | rfl | rfl | rfl | rfl | rfl | rfl | rfl | rfl | rfl | rfl | rfl
  · exact w_c0
  · exact w_c1
  · exact w_c2
  · exact w_c3
  · exact w_c4
  · exact w_c5
  · exact w_c6
  · exact w_c7
  · exact w_c8
  · exact w_c9
  · exact w_c10
  · exact w_c11
  · exact w_c12
  · exact w_c13
  · exact w_c14
  · exact w_c15
  · exact w_c16
  · exact w_c17
  · exact w_c18
  · exact w_c19
  · exact w_c20
  · exact w_c21
  · exact w_c22
  · exact w_c23
  · exact w_c24
set_option maxRecDepth 65536 in
theorem w_t1 : (words1.take 24).all (fun c => isCode c || c.before args0 about1) = true := by decide +kernel
set_option maxRecDepth 65536 in
theorem w_t2 : ((words1.drop 24).take 24).all (fun c => isCode c || c.before args0 about1) = true := by decide +kernel
set_option maxRecDepth 65536 in
theorem w_t3 : (((words1.drop 24).drop 24).take 24).all (fun c => isCode c || c.before args0 about1) = true := by decide +kernel
set_option maxRecDepth 65536 in
theorem w_t4 : ((((words1.drop 24).drop 24).drop 24).take 24).all (fun c => isCode c || c.before args0 about1) = true := by decide +kernel
set_option maxRecDepth 65536 in
theorem w_t5 : (((((words1.drop 24).drop 24).drop 24).drop 24).take 24).all (fun c => isCode c || c.before args0 about1) = true := by decide +kernel
set_option maxRecDepth 65536 in
theorem w_t6 : ((((((words1.drop 24).drop 24).drop 24).drop 24).drop 24).take 24).all (fun c => isCode c || c.before args0 about1) = true := by decide +kernel
set_option maxRecDepth 65536 in
theorem w_t7 : ((((((words1.drop 24).drop 24).drop 24).drop 24).drop 24).drop 24).all (fun c => isCode c || c.before args0 about1) = true := by decide +kernel
theorem w_tables : (allAtoms (Jvm.Cond.code x code maxLocals ret :: tables_1)).before args0 about1 = true := by
  rw [allAtoms_all]
  show words1.all (fun c => c.before args0 about1) = true
  refine all_split ?_ w_codes
  rw [← List.take_append_drop 24 words1, List.all_append, w_t1, ← List.take_append_drop 24 (words1.drop 24), List.all_append, w_t2, ← List.take_append_drop 24 ((words1.drop 24).drop 24), List.all_append, w_t3, ← List.take_append_drop 24 (((words1.drop 24).drop 24).drop 24), List.all_append, w_t4, ← List.take_append_drop 24 ((((words1.drop 24).drop 24).drop 24).drop 24), List.all_append, w_t5, ← List.take_append_drop 24 (((((words1.drop 24).drop 24).drop 24).drop 24).drop 24), List.all_append, w_t6, w_t7]
  rfl
set_option maxRecDepth 65536 in
theorem w_rest : rest_1_c.before args0 about1 = true := by decide +kernel
set_option maxRecDepth 65536 in
theorem w_case : (Jvm.Cond.and given_1 narrow_1).before args0 about1 = true := by decide +kernel
set_option maxRecDepth 65536 in
theorem w_consts : constsHeld consts_1 about1 := Jvm.Lit.constsHeldB_iff.mp (by decide +kernel)
theorem w_applies : (headSpec (Jvm.Cond.code x code maxLocals ret :: tables_1) room_1).applies x e0.platform about1 = true :=
  (Spec.applies_iff w_frames).mpr ⟨w_running, w_runnable, w_alone, w_named, w_hears, w_ripe, w_room, w_tables⟩
theorem atStart : AtStart classFile x code maxLocals ret World_1 tables_1 room_1 Calls_1 rest_1 Pre_1 launch0 p0 e0 about1 theMethod args0 below0 :=
  ⟨lists_1, trivial, launch0.admits_env _ _ _, launch0.least_env, fairChoices_fair.cas, fairChoices_fair.clock, w_frames, w_args, w_heap, w_applies, ⟨w_consts, trivial⟩, w_rest, w_case⟩
end start1
theorem witness_1 : WitnessClaimed_1 := ⟨start1.p0, start1.e0, start1.about1, start1.theMethod, start1.args0, start1.below0, start1.atStart⟩
end Jvm.Pilot.@@N@@
