import JvmDerived
import JvmDerived.Pilot.@@N@@Statement
import JvmDerived.Pilot.@@N@@Code
set_option linter.unusedVariables false
set_option linter.unusedSimpArgs false
namespace Jvm.RoadKit
theorem Ext.refl (h : Heap) : Ext h h := ⟨Nat.le_refl _, fun _ _ q => q⟩
theorem Ext.trans {h h1 h2 : Heap} (A : Ext h h1) (B : Ext h1 h2) : Ext h h2 := ⟨Nat.le_trans A.1 B.1, fun a c q => B.2 a c (A.2 a c q)⟩
end Jvm.RoadKit
namespace Jvm.OwnKit
open Sem ClassFile Op Lib Jvm.Stand Jvm.Free Jvm.LawKit Jvm.RoadKit

/-- where the walk stands: the tables so far, nothing old written, the String constants held, the objects under construction -/
def St (p : Program) (l : Launch) (e : Env) (R : Room) (s : State) (m : MethodId) (args : Array Value) (below : List Frame) (meth : Method) (c : Code)
    (own : String) (bytes : ByteArray) (maxL : Nat) (ret : Option FieldType) (nm : String) (Z : State) (EL : List (String × Nat)) (nw : Bool) (us : List Addr)
    (T : State) (h : Heap) (cells slots : Nat) : Prop :=
  (p.tables.exec = Jvm.exec ∧ c.code = bytes ∧ c.maxLocals = maxL ∧ meth.sig.returnType = ret ∧ meth.name = nm ∧ meth.locks = false ∧ ∃ a0, EW Z a0 EL) ∧
  ∃ (vm0 : Vm) (locs : List Loc), Stand p l e R (s.setVm vm0) m args below meth c T locs cells slots ∧ Fr Z.heap.size locs ∧ T.heap = h ∧ s.Since vm0 h.size ∧
    Z.Warmed39 vm0 ∧ vm0.findClass own = some m.cls ∧ Ext Z.heap h ∧ CHr Z EL s.vm s.heap vm0 h ∧
    (∀ x ∈ us, Z.heap.size ≤ x ∧ x < h.size ∧ Safe Z EL vm0 h x) ∧ (nw = true → s.WarmedH vm0)

/-- from here the method returns, with Q of what it returns and of the heap it leaves -/
def Goes (p : Program) (e : Env) (below : List Frame) (s Z : State) (EL : List (String × Nat)) (nw : Bool) (Q : Option Value → Heap → Prop) (kk nn : Nat) (S : State) : Prop :=
  ∃ U o, Steps p.tables e below S U ∧ U.status = .running ∧ Ended U below o ∧ ∃ v L, o = .returned v ∧ Q v U.heap ∧ Fr Z.heap.size L ∧ Ext Z.heap U.heap ∧
    CHr Z EL s.vm s.heap U.vm U.heap ∧ ReturnedEndW s o U L kk nn ∧ (nw = true → s.WarmedH U.vm)

/-- the contract of a method for the arguments as' at the heap h -/
def Ctr (l : Launch) (Z : State) (EL : List (String × Nat)) (nw : Bool) (y : MethodName) (bytes : ByteArray) (maxL : Nat) (ret : Option FieldType) (rm : Room) (as' : Array Value) (h : Heap) (us : List Addr)
    (Q : Option Value → Heap → Prop) : Prop :=
  ∀ ws : List Jvm.Cond, MetFree l y (head1 (Jvm.Cond.code y bytes maxL ret :: ws) rm)
    (fun a U => a = as' ∧ Z.Warmed39 U.vm ∧ U.heap = h ∧ Ext Z.heap h ∧ CHv Z EL U.vm h ∧ ∀ x ∈ us, Z.heap.size ≤ x ∧ x < h.size ∧ Safe Z EL U.vm h x)
    (fun _ _ _ _ _ => True)
    (fun _ U o U' => ∃ v L, o = .returned v ∧ Q v U'.heap ∧ Fr Z.heap.size L ∧ Ext Z.heap U'.heap ∧ CHr Z EL U.vm U.heap U'.vm U'.heap ∧ ReturnedEndW U o U' L rm.cells rm.slots ∧ (nw = true → U.WarmedH U'.vm))

def PureQ (h : Heap) (Qv : Value → Prop) : Option Value → Heap → Prop := fun v h' => h' = h ∧ ∃ w, v = some w ∧ Qv w
def ValQ (Qv : Value → Heap → Prop) : Option Value → Heap → Prop := fun v h' => ∃ w, v = some w ∧ Qv w h'
def VoidQ (Qn : Heap → Prop) : Option Value → Heap → Prop := fun v h' => v = none ∧ Qn h'
section Base
variable {p : Program} {l : Launch} {e : Env} {R : Room} {s : State} {m : MethodId} {args : Array Value} {below : List Frame} {meth : Method} {c : Code}
  {own : String} {bytes : ByteArray} {maxL : Nat} {ret : Option FieldType} {nm : String} {Z : State} {EL : List (String × Nat)} {nw : Bool} {us : List Addr}
  {T : State} {h : Heap} {cells slots : Nat} {Q : Option Value → Heap → Prop} {kk nn : Nat} {a0 : Array Value}

theorem ext_keep {h h1 h2 : Heap} {ws : List Addr} (A : Ext h h1) (K : Keep h1 h2 ws) (q : ∀ x ∈ ws, h.size ≤ x) : Ext h h2 :=
  ⟨Nat.le_trans A.1 K.1, fun a c r => K.2.1 a c (A.2 a c r) fun z => absurd (Array.getElem?_eq_some_iff.mp r).1 (Nat.not_lt.mpr (q a z))⟩
theorem ext_wr {h h1 h2 : Heap} {a : Addr} {sl : Nat} {v : Value} (A : Ext h h1) (W : Wr h1 h2 a sl v) (q : h.size ≤ a) : Ext h h2 :=
  ext_keep A (Keep.of_wr W) (fun x hx => by cases List.mem_singleton.mp hx; exact q)
theorem nar_mask (x : Int32) : nar .char (x &&& 255) = x &&& 255 := i2c_mask x
theorem ref_nar {v : Value} {t : FieldType} (h : v.isRef = true) (ht : t.isReference = true) : narrow t v = v := by
  rcases ref_cases h with rfl | ⟨a, rfl⟩ <;> cases t <;> first | rfl | simp [FieldType.isReference] at ht
theorem ref_fit {v : Value} {t : FieldType} (h : v.isRef = true) (ht : t.isReference = true) : fits t v = true := by
  rcases ref_cases h with rfl | ⟨a, rfl⟩ <;> cases t <;> first | rfl | simp [FieldType.isReference] at ht
theorem Sta.keepN {h1 h2 : Heap} {C n d : String} {v : Value} {ws : List Addr} (F : Sta Z Z.heap C n d v) (E : Ext Z.heap h2) : Sta Z h2 C n d v := Sta.ext E F

theorem St.at (X : St p l e R s m args below meth c own bytes maxL ret nm Z EL nw us T h cells slots) : At T m c below := by obtain ⟨-, _, _, Y, -⟩ := X; exact Y.here
theorem St.std (X : St p l e R s m args below meth c own bytes maxL ret nm Z EL nw us T h cells slots) : ∃ vm0 locs, Stand p l e R (s.setVm vm0) m args below meth c T locs cells slots := by obtain ⟨-, vm0, locs, Y, -⟩ := X; exact ⟨vm0, locs, Y⟩
theorem St.hx (X : St p l e R s m args below meth c own bytes maxL ret nm Z EL nw us T h cells slots) : p.tables.exec = Jvm.exec := X.1.1
theorem St.by (X : St p l e R s m args below meth c own bytes maxL ret nm Z EL nw us T h cells slots) : c.code = bytes := X.1.2.1
theorem St.old (X : St p l e R s m args below meth c own bytes maxL ret nm Z EL nw us T h cells slots) : Ext Z.heap h := by obtain ⟨-, _, _, -, -, -, -, -, -, q, -⟩ := X; exact q
theorem St.new (X : St p l e R s m args below meth c own bytes maxL ret nm Z EL nw us T h cells slots) {x : Addr} (hx : x ∈ us) : Z.heap.size ≤ x ∧ x < h.size := by
  obtain ⟨-, _, _, -, -, -, -, -, -, -, -, q, -⟩ := X; exact ⟨(q x hx).1, (q x hx).2.1⟩
theorem St.mono (X : St p l e R s m args below meth c own bytes maxL ret nm Z EL nw us T h cells slots) {cells' slots' : Nat} (hc : cells ≤ cells') (hs : slots ≤ slots') : St p l e R s m args below meth c own bytes maxL ret nm Z EL nw us T h cells' slots' := by
  obtain ⟨cx, vm0, locs, Y, r⟩ := X
  exact ⟨cx, vm0, locs, Y.mono hc hs, r⟩
theorem St.sub (X : St p l e R s m args below meth c own bytes maxL ret nm Z EL nw us T h cells slots) {us' : List Addr} (q : ∀ x ∈ us', x ∈ us) : St p l e R s m args below meth c own bytes maxL ret nm Z EL nw us' T h cells slots := by
  obtain ⟨cx, vm0, locs, Y, r1, r2, r3, r4, r5, r6, r7, r8, r9⟩ := X
  exact ⟨cx, vm0, locs, Y, r1, r2, r3, r4, r5, r6, r7, fun x hx => r8 x (q x hx), r9⟩

theorem Goes.step {S S' : State} (f : ∀ t, Steps p.tables e below S' t → Steps p.tables e below S t) (K : Goes p e below s Z EL nw Q kk nn S') : Goes p e below s Z EL nw Q kk nn S := by
  obtain ⟨U, o, hs, r⟩ := K; exact ⟨U, o, f _ hs, r⟩
theorem Goes.imp {Q' : Option Value → Heap → Prop} {S : State} (f : ∀ v h, Q v h → Q' v h) (K : Goes p e below s Z EL nw Q kk nn S) : Goes p e below s Z EL nw Q' kk nn S := by
  obtain ⟨U, o, h1, h2, h3, v, L, h4, h5, r⟩ := K; exact ⟨U, o, h1, h2, h3, v, L, h4, f _ _ h5, r⟩

/-- entering a method -/
theorem Ctr.enter {y : MethodName} {rm : Room} {as' : Array Value} (h1 : y.cls = own) (h2 : y.name = nm) (hEL : EW Z a0 EL) (hn : plainFor y = true) (Ls : Array Slot) (ef : ∀ m, entryFrame m as' maxL = mkF m 0 Ls [])
    (body : ∀ (p : Program) (e : Env) (s : State) (m : MethodId) (below : List Frame) (meth : Method) (c : Code) (T : State),
      St p l e rm s m as' below meth c own bytes maxL ret nm Z EL nw us T h 0 0 → Goes p e below s Z EL nw Q rm.cells rm.slots (T.setTop (mkF m 0 Ls []))) :
    Ctr l Z EL nw y bytes maxL ret rm as' h us Q := by
  subst h1 h2
  intro ws
  refine MetFree.of_bodySF hn hisR ?_
  intro p e s m args below meth c s₁ Bd hml0 hP _
  obtain ⟨rfl, hZ, hh, hE, hC, hU⟩ := hP
  have hnm := (name_of_methodNamed Bd.named Bd.method).1
  have hown : s.vm.findClass y.cls = some m.cls := findClass_of_methodNamed Bd.named
  have e0 : s₁.heap = h := by rw [← hh, Bd.state]; rfl
  have X0 : Stand p l e rm (s.setVm s.vm) m args below meth c s₁ [] 0 0 := Stand.of_body Bd
  have X : St p l e rm s m args below meth c y.cls bytes maxL ret y.name Z EL nw us s₁ h 0 0 :=
    ⟨⟨Bd.exec, Bd.bytes, hml0, Bd.returns, hnm, Bd.notSynchronized, a0, hEL⟩, s.vm, [], X0, Fr.nil _, e0, (State.WarmedH.refl s).since _, hZ, hown, hE, by rw [hh]; exact CHr.refl hC, hU, fun _ => State.WarmedH.refl s⟩
  obtain ⟨U, o, h1, h2, h3, h4⟩ := body p e s m below meth c s₁ X
  refine ⟨U, o, ?_, h2, h3, h4⟩
  rw [ef m]; exact h1

theorem leave0 (X : St p l e R s m args below meth c own bytes maxL ret nm Z EL nw us T h cells slots) {v : Option Value} (hv : ret = none → v = none) (hc : cells ≤ kk) (hn : slots ≤ nn) (hQ : Q v h)
    {S : State} (f : ∀ fs, (∀ (f : JFrame) (acts : List Action), f.method = m → f.locked = none → f.entered = [] → (doReturn e (T.setTop f) acts v).1 = T.setFrames fs) → Steps p.tables e below S (T.setFrames fs)) :
    Goes p e below s Z EL nw Q kk nn S := by
  obtain ⟨⟨h1, h2, h3, h4, h5, h6, a0', hEL⟩, vm0, locs, Y, N, eT, hS, hZ, hown, hE, hC, hU, hW⟩ := X
  have Y' := Y.mono hc hn
  obtain ⟨fs, g1, g2, g3, g4⟩ := Y'.leaveW hS (Nat.le_of_eq (by rw [eT])) (v := v) (fun q => hv (h4 ▸ q)) h6
  have hal : CHr Z EL s.vm s.heap (T.setFrames fs).vm (T.setFrames fs).heap := by
    show CHr Z EL s.vm s.heap T.vm T.heap
    rw [eT]
    exact hC.trans (CHv.at Y hZ hEL hC.1)
  exact ⟨_, _, f fs g1, g2, g3, v, locs, rfl, by show Q v T.heap; rw [eT]; exact hQ, N, by show Ext Z.heap T.heap; rw [eT]; exact hE, hal, g4, fun q => State.WarmedH.trans (t := s.setVm vm0) (hW q) Y.warmed⟩
end Base
section Ops
variable {p : Program} {l : Launch} {e : Env} {R : Room} {s : State} {m : MethodId} {args : Array Value} {below : List Frame} {meth : Method} {c : Code}
  {own : String} {bytes : ByteArray} {maxL : Nat} {ret : Option FieldType} {nm : String} {Z : State} {EL : List (String × Nat)} {nw : Bool} {us : List Addr}
  {T : State} {h : Heap} {cells slots : Nat} {Q : Option Value → Heap → Prop} {kk nn : Nat} {a0 : Array Value} {pc : Nat} {Ls : Array Slot} {st : List Value}
theorem g_aload (X : St p l e R s m args below meth c own bytes maxL ret nm Z EL nw us T h cells slots) {k : Nat} {v : Value} (hd : decode bytes pc = .ok (.aload k, 2)) (hl : Ls[k]? = some (.val v)) (hv : v.isRef = true) (pc' : Nat) (hp : pc + 2 = pc')
    (K : Goes p e below s Z EL nw Q kk nn (T.setTop (mkF m pc' Ls (v :: st)))) : Goes p e below s Z EL nw Q kk nn (T.setTop (mkF m pc Ls (st))) := by
  subst hp
  exact K.step fun t k => XS.aload X.at X.hx rfl (hb X.by hd) hl hv k

theorem g_aloadN (X : St p l e R s m args below meth c own bytes maxL ret nm Z EL nw us T h cells slots) {k : Fin 4} {v : Value} (hd : decode bytes pc = .ok (.aload_n k, 1)) (hl : Ls[k.val]? = some (.val v)) (hv : v.isRef = true) (pc' : Nat) (hp : pc + 1 = pc')
    (K : Goes p e below s Z EL nw Q kk nn (T.setTop (mkF m pc' Ls (v :: st)))) : Goes p e below s Z EL nw Q kk nn (T.setTop (mkF m pc Ls (st))) := by
  subst hp
  exact K.step fun t k => XS.aloadN X.at X.hx rfl (hb X.by hd) hl hv k

theorem g_iload (X : St p l e R s m args below meth c own bytes maxL ret nm Z EL nw us T h cells slots) {k : Nat} {v : Int32} (hd : decode bytes pc = .ok (.iload k, 2)) (hl : Ls[k]? = some (.val (.int v))) (pc' : Nat) (hp : pc + 2 = pc')
    (K : Goes p e below s Z EL nw Q kk nn (T.setTop (mkF m pc' Ls (.int v :: st)))) : Goes p e below s Z EL nw Q kk nn (T.setTop (mkF m pc Ls (st))) := by
  subst hp
  exact K.step fun t k => XS.iload X.at X.hx rfl (hb X.by hd) hl k

theorem g_iloadN (X : St p l e R s m args below meth c own bytes maxL ret nm Z EL nw us T h cells slots) {k : Fin 4} {v : Int32} (hd : decode bytes pc = .ok (.iload_n k, 1)) (hl : Ls[k.val]? = some (.val (.int v))) (pc' : Nat) (hp : pc + 1 = pc')
    (K : Goes p e below s Z EL nw Q kk nn (T.setTop (mkF m pc' Ls (.int v :: st)))) : Goes p e below s Z EL nw Q kk nn (T.setTop (mkF m pc Ls (st))) := by
  subst hp
  exact K.step fun t k => XS.iloadN X.at X.hx rfl (hb X.by hd) hl k

theorem g_istore (X : St p l e R s m args below meth c own bytes maxL ret nm Z EL nw us T h cells slots) {k : Nat} {x : Int32} {Ls' : Array Slot} (hd : decode bytes pc = .ok (.istore k, 2)) (hl : storeLocals Ls k (.int x) = some Ls') (pc' : Nat) (hp : pc + 2 = pc')
    (K : Goes p e below s Z EL nw Q kk nn (T.setTop (mkF m pc' Ls' (st)))) : Goes p e below s Z EL nw Q kk nn (T.setTop (mkF m pc Ls (.int x :: st))) := by
  subst hp
  exact K.step fun t k => XS.istore X.at X.hx rfl (hb X.by hd) rfl hl k

theorem g_istoreN (X : St p l e R s m args below meth c own bytes maxL ret nm Z EL nw us T h cells slots) {k : Fin 4} {x : Int32} {Ls' : Array Slot} (hd : decode bytes pc = .ok (.istore_n k, 1)) (hl : storeLocals Ls k.val (.int x) = some Ls') (pc' : Nat) (hp : pc + 1 = pc')
    (K : Goes p e below s Z EL nw Q kk nn (T.setTop (mkF m pc' Ls' (st)))) : Goes p e below s Z EL nw Q kk nn (T.setTop (mkF m pc Ls (.int x :: st))) := by
  subst hp
  exact K.step fun t k => XS.istoreN X.at X.hx rfl (hb X.by hd) rfl hl k

theorem g_astore (X : St p l e R s m args below meth c own bytes maxL ret nm Z EL nw us T h cells slots) {k : Nat} {x : Value} {Ls' : Array Slot} (hd : decode bytes pc = .ok (.astore k, 2)) (hv : x.isRef = true) (hl : storeLocals Ls k x = some Ls') (pc' : Nat) (hp : pc + 2 = pc')
    (K : Goes p e below s Z EL nw Q kk nn (T.setTop (mkF m pc' Ls' (st)))) : Goes p e below s Z EL nw Q kk nn (T.setTop (mkF m pc Ls (x :: st))) := by
  subst hp
  exact K.step fun t k => XS.astore X.at X.hx rfl (hb X.by hd) rfl hv hl k

theorem g_astoreN (X : St p l e R s m args below meth c own bytes maxL ret nm Z EL nw us T h cells slots) {k : Fin 4} {x : Value} {Ls' : Array Slot} (hd : decode bytes pc = .ok (.astore_n k, 1)) (hv : x.isRef = true) (hl : storeLocals Ls k.val x = some Ls') (pc' : Nat) (hp : pc + 1 = pc')
    (K : Goes p e below s Z EL nw Q kk nn (T.setTop (mkF m pc' Ls' (st)))) : Goes p e below s Z EL nw Q kk nn (T.setTop (mkF m pc Ls (x :: st))) := by
  subst hp
  exact K.step fun t k => XS.astoreN X.at X.hx rfl (hb X.by hd) rfl hv hl k

theorem g_iconst (X : St p l e R s m args below meth c own bytes maxL ret nm Z EL nw us T h cells slots) {i : Int} (w : Int32) (hd : decode bytes pc = .ok (.iconst i, 1)) (hw : Int32.ofInt i = w) (pc' : Nat) (hp : pc + 1 = pc')
    (K : Goes p e below s Z EL nw Q kk nn (T.setTop (mkF m pc' Ls (.int w :: st)))) : Goes p e below s Z EL nw Q kk nn (T.setTop (mkF m pc Ls (st))) := by
  subst hp
  exact K.step fun t k => XS.iconst X.at X.hx rfl (hb X.by hd) (by rw [hw]; exact k)

theorem g_bipush (X : St p l e R s m args below meth c own bytes maxL ret nm Z EL nw us T h cells slots) {i : Int} (w : Int32) (hd : decode bytes pc = .ok (.bipush i, 2)) (hw : (Int8.ofInt i).toInt32 = w) (pc' : Nat) (hp : pc + 2 = pc')
    (K : Goes p e below s Z EL nw Q kk nn (T.setTop (mkF m pc' Ls (.int w :: st)))) : Goes p e below s Z EL nw Q kk nn (T.setTop (mkF m pc Ls (st))) := by
  subst hp
  exact K.step fun t k => XS.bipush X.at X.hx rfl (hb X.by hd) (by rw [hw]; exact k)

theorem g_sipush (X : St p l e R s m args below meth c own bytes maxL ret nm Z EL nw us T h cells slots) {i : Int} (w : Int32) (hd : decode bytes pc = .ok (.sipush i, 3)) (hw : (Int16.ofInt i).toInt32 = w) (pc' : Nat) (hp : pc + 3 = pc')
    (K : Goes p e below s Z EL nw Q kk nn (T.setTop (mkF m pc' Ls (.int w :: st)))) : Goes p e below s Z EL nw Q kk nn (T.setTop (mkF m pc Ls (st))) := by
  subst hp
  exact K.step fun t k => XS.sipush X.at X.hx rfl (hb X.by hd) (by rw [hw]; exact k)

theorem g_aconstNull (X : St p l e R s m args below meth c own bytes maxL ret nm Z EL nw us T h cells slots)  (hd : decode bytes pc = .ok (.aconst_null, 1))  (pc' : Nat) (hp : pc + 1 = pc')
    (K : Goes p e below s Z EL nw Q kk nn (T.setTop (mkF m pc' Ls (.null :: st)))) : Goes p e below s Z EL nw Q kk nn (T.setTop (mkF m pc Ls (st))) := by
  subst hp
  exact K.step fun t k => XS.aconstNull X.at X.hx rfl (hb X.by hd) k

theorem g_iadd (X : St p l e R s m args below meth c own bytes maxL ret nm Z EL nw us T h cells slots) {x y : Int32} (hd : decode bytes pc = .ok (.iadd, 1)) (w : Int32) (hw : x + y = w) (pc' : Nat) (hp : pc + 1 = pc')
    (K : Goes p e below s Z EL nw Q kk nn (T.setTop (mkF m pc' Ls (.int w :: st)))) : Goes p e below s Z EL nw Q kk nn (T.setTop (mkF m pc Ls (.int y :: .int x :: st))) := by
  subst hp
  exact K.step fun t k => XS.iadd X.at X.hx rfl (hb X.by hd) rfl (by rw [hw]; exact k)

theorem g_isub (X : St p l e R s m args below meth c own bytes maxL ret nm Z EL nw us T h cells slots) {x y : Int32} (hd : decode bytes pc = .ok (.isub, 1)) (w : Int32) (hw : x - y = w) (pc' : Nat) (hp : pc + 1 = pc')
    (K : Goes p e below s Z EL nw Q kk nn (T.setTop (mkF m pc' Ls (.int w :: st)))) : Goes p e below s Z EL nw Q kk nn (T.setTop (mkF m pc Ls (.int y :: .int x :: st))) := by
  subst hp
  exact K.step fun t k => XS.isub X.at X.hx rfl (hb X.by hd) rfl (by rw [hw]; exact k)

theorem g_iand (X : St p l e R s m args below meth c own bytes maxL ret nm Z EL nw us T h cells slots) {x y : Int32} (hd : decode bytes pc = .ok (.iand, 1)) (w : Int32) (hw : x &&& y = w) (pc' : Nat) (hp : pc + 1 = pc')
    (K : Goes p e below s Z EL nw Q kk nn (T.setTop (mkF m pc' Ls (.int w :: st)))) : Goes p e below s Z EL nw Q kk nn (T.setTop (mkF m pc Ls (.int y :: .int x :: st))) := by
  subst hp
  exact K.step fun t k => XS.iand X.at X.hx rfl (hb X.by hd) rfl (by rw [hw]; exact k)

theorem g_imul (X : St p l e R s m args below meth c own bytes maxL ret nm Z EL nw us T h cells slots) {x y : Int32} (hd : decode bytes pc = .ok (.imul, 1)) (w : Int32) (hw : x * y = w) (pc' : Nat) (hp : pc + 1 = pc')
    (K : Goes p e below s Z EL nw Q kk nn (T.setTop (mkF m pc' Ls (.int w :: st)))) : Goes p e below s Z EL nw Q kk nn (T.setTop (mkF m pc Ls (.int y :: .int x :: st))) := by
  subst hp
  exact K.step fun t k => XS.imul X.at X.hx rfl (hb X.by hd) rfl (by rw [hw]; exact k)

theorem g_ixor (X : St p l e R s m args below meth c own bytes maxL ret nm Z EL nw us T h cells slots) {x y : Int32} (hd : decode bytes pc = .ok (.ixor, 1)) (w : Int32) (hw : x ^^^ y = w) (pc' : Nat) (hp : pc + 1 = pc')
    (K : Goes p e below s Z EL nw Q kk nn (T.setTop (mkF m pc' Ls (.int w :: st)))) : Goes p e below s Z EL nw Q kk nn (T.setTop (mkF m pc Ls (.int y :: .int x :: st))) := by
  subst hp
  exact K.step fun t k => XT.ixor X.at X.hx rfl (hb X.by hd) rfl (by rw [hw]; exact k)

theorem g_ior (X : St p l e R s m args below meth c own bytes maxL ret nm Z EL nw us T h cells slots) {x y : Int32} (hd : decode bytes pc = .ok (.ior, 1)) (w : Int32) (hw : x ||| y = w) (pc' : Nat) (hp : pc + 1 = pc')
    (K : Goes p e below s Z EL nw Q kk nn (T.setTop (mkF m pc' Ls (.int w :: st)))) : Goes p e below s Z EL nw Q kk nn (T.setTop (mkF m pc Ls (.int y :: .int x :: st))) := by
  subst hp
  exact K.step fun t k => XT.ior X.at X.hx rfl (hb X.by hd) rfl (by rw [hw]; exact k)

theorem g_irem (X : St p l e R s m args below meth c own bytes maxL ret nm Z EL nw us T h cells slots) {x y : Int32} (hd : decode bytes pc = .ok (.irem, 1)) (hy : y ≠ 0) (w : Int32) (hw : x % y = w) (pc' : Nat) (hp : pc + 1 = pc')
    (K : Goes p e below s Z EL nw Q kk nn (T.setTop (mkF m pc' Ls (.int w :: st)))) : Goes p e below s Z EL nw Q kk nn (T.setTop (mkF m pc Ls (.int y :: .int x :: st))) := by
  subst hp hw
  obtain ⟨vm0, locs, Y⟩ := X.std
  exact K.step fun t k => iremM Y X.hx rfl (hb X.by hd) rfl hy k

theorem g_idiv (X : St p l e R s m args below meth c own bytes maxL ret nm Z EL nw us T h cells slots) {x y : Int32} (hd : decode bytes pc = .ok (.idiv, 1)) (hy : y ≠ 0) (w : Int32) (hw : x / y = w) (pc' : Nat) (hp : pc + 1 = pc')
    (K : Goes p e below s Z EL nw Q kk nn (T.setTop (mkF m pc' Ls (.int w :: st)))) : Goes p e below s Z EL nw Q kk nn (T.setTop (mkF m pc Ls (.int y :: .int x :: st))) := by
  subst hp
  exact K.step fun t k => XS.idiv X.at X.hx rfl (hb X.by hd) rfl hy (by rw [hw]; exact k)

theorem g_ineg (X : St p l e R s m args below meth c own bytes maxL ret nm Z EL nw us T h cells slots) {x : Int32} (hd : decode bytes pc = .ok (.ineg, 1)) (w : Int32) (hw : -x = w) (pc' : Nat) (hp : pc + 1 = pc')
    (K : Goes p e below s Z EL nw Q kk nn (T.setTop (mkF m pc' Ls (.int w :: st)))) : Goes p e below s Z EL nw Q kk nn (T.setTop (mkF m pc Ls (.int x :: st))) := by
  subst hp
  exact K.step fun t k => XS.ineg X.at X.hx rfl (hb X.by hd) rfl (by rw [hw]; exact k)

theorem g_iushr (X : St p l e R s m args below meth c own bytes maxL ret nm Z EL nw us T h cells slots) {x y : Int32} (hd : decode bytes pc = .ok (.iushr, 1)) (w : Int32) (hw : XT.ushr x y = w) (pc' : Nat) (hp : pc + 1 = pc')
    (K : Goes p e below s Z EL nw Q kk nn (T.setTop (mkF m pc' Ls (.int w :: st)))) : Goes p e below s Z EL nw Q kk nn (T.setTop (mkF m pc Ls (.int y :: .int x :: st))) := by
  subst hp
  exact K.step fun t k => XT.iushr X.at X.hx rfl (hb X.by hd) rfl (by rw [hw]; exact k)

theorem g_ishr (X : St p l e R s m args below meth c own bytes maxL ret nm Z EL nw us T h cells slots) {x y : Int32} (hd : decode bytes pc = .ok (.ishr, 1)) (w : Int32) (hw : x >>> (y &&& 31) = w) (pc' : Nat) (hp : pc + 1 = pc')
    (K : Goes p e below s Z EL nw Q kk nn (T.setTop (mkF m pc' Ls (.int w :: st)))) : Goes p e below s Z EL nw Q kk nn (T.setTop (mkF m pc Ls (.int y :: .int x :: st))) := by
  subst hp
  exact K.step fun t k => XT.ishr X.at X.hx rfl (hb X.by hd) rfl (by rw [hw]; exact k)

theorem g_ishl (X : St p l e R s m args below meth c own bytes maxL ret nm Z EL nw us T h cells slots) {x y : Int32} (hd : decode bytes pc = .ok (.ishl, 1)) (w : Int32) (hw : x <<< (y &&& 31) = w) (pc' : Nat) (hp : pc + 1 = pc')
    (K : Goes p e below s Z EL nw Q kk nn (T.setTop (mkF m pc' Ls (.int w :: st)))) : Goes p e below s Z EL nw Q kk nn (T.setTop (mkF m pc Ls (.int y :: .int x :: st))) := by
  subst hp
  exact K.step fun t k => XT.ishl X.at X.hx rfl (hb X.by hd) rfl (by rw [hw]; exact k)

theorem g_i2c (X : St p l e R s m args below meth c own bytes maxL ret nm Z EL nw us T h cells slots) {x : Int32} (hd : decode bytes pc = .ok (.i2c, 1)) (w : Int32) (hw : x.toUInt32.toUInt16.toUInt32.toInt32 = w) (pc' : Nat) (hp : pc + 1 = pc')
    (K : Goes p e below s Z EL nw Q kk nn (T.setTop (mkF m pc' Ls (.int w :: st)))) : Goes p e below s Z EL nw Q kk nn (T.setTop (mkF m pc Ls (.int x :: st))) := by
  subst hp
  exact K.step fun t k => XT.i2c X.at X.hx rfl (hb X.by hd) rfl (by rw [hw]; exact k)

theorem g_i2b (X : St p l e R s m args below meth c own bytes maxL ret nm Z EL nw us T h cells slots) {x : Int32} (hd : decode bytes pc = .ok (.i2b, 1)) (w : Int32) (hw : x.toInt8.toInt32 = w) (pc' : Nat) (hp : pc + 1 = pc')
    (K : Goes p e below s Z EL nw Q kk nn (T.setTop (mkF m pc' Ls (.int w :: st)))) : Goes p e below s Z EL nw Q kk nn (T.setTop (mkF m pc Ls (.int x :: st))) := by
  subst hp
  exact K.step fun t k => XT.i2b X.at X.hx rfl (hb X.by hd) rfl (by rw [hw]; exact k)

theorem g_i2l (X : St p l e R s m args below meth c own bytes maxL ret nm Z EL nw us T h cells slots) {x : Int32} (hd : decode bytes pc = .ok (.i2l, 1)) (w : Int64) (hw : x.toInt64 = w) (pc' : Nat) (hp : pc + 1 = pc')
    (K : Goes p e below s Z EL nw Q kk nn (T.setTop (mkF m pc' Ls (.long w :: st)))) : Goes p e below s Z EL nw Q kk nn (T.setTop (mkF m pc Ls (.int x :: st))) := by
  subst hp
  exact K.step fun t k => XT.i2l X.at X.hx rfl (hb X.by hd) rfl (by rw [hw]; exact k)

theorem g_lsub (X : St p l e R s m args below meth c own bytes maxL ret nm Z EL nw us T h cells slots) {x y : Int64} (hd : decode bytes pc = .ok (.lsub, 1)) (w : Int64) (hw : x - y = w) (pc' : Nat) (hp : pc + 1 = pc')
    (K : Goes p e below s Z EL nw Q kk nn (T.setTop (mkF m pc' Ls (.long w :: st)))) : Goes p e below s Z EL nw Q kk nn (T.setTop (mkF m pc Ls (.long y :: .long x :: st))) := by
  subst hp
  exact K.step fun t k => XT.lsub X.at X.hx rfl (hb X.by hd) rfl (by rw [hw]; exact k)

theorem g_lcmp (X : St p l e R s m args below meth c own bytes maxL ret nm Z EL nw us T h cells slots) {x y : Int64} (hd : decode bytes pc = .ok (.lcmp, 1)) (w : Int32) (hw : XT.cmpL x y = w) (pc' : Nat) (hp : pc + 1 = pc')
    (K : Goes p e below s Z EL nw Q kk nn (T.setTop (mkF m pc' Ls (.int w :: st)))) : Goes p e below s Z EL nw Q kk nn (T.setTop (mkF m pc Ls (.long y :: .long x :: st))) := by
  subst hp
  exact K.step fun t k => XT.lcmp X.at X.hx rfl (hb X.by hd) rfl (by rw [hw]; exact k)

theorem g_dup (X : St p l e R s m args below meth c own bytes maxL ret nm Z EL nw us T h cells slots) {x : Value} (hd : decode bytes pc = .ok (.dup, 1)) (hc : x.category = 1) (pc' : Nat) (hp : pc + 1 = pc')
    (K : Goes p e below s Z EL nw Q kk nn (T.setTop (mkF m pc' Ls (x :: x :: st)))) : Goes p e below s Z EL nw Q kk nn (T.setTop (mkF m pc Ls (x :: st))) := by
  subst hp
  exact K.step fun t k => XS.dup X.at X.hx rfl (hb X.by hd) rfl hc k

theorem g_pop (X : St p l e R s m args below meth c own bytes maxL ret nm Z EL nw us T h cells slots) {x : Value} (hd : decode bytes pc = .ok (.pop, 1)) (hc : x.category = 1) (pc' : Nat) (hp : pc + 1 = pc')
    (K : Goes p e below s Z EL nw Q kk nn (T.setTop (mkF m pc' Ls (st)))) : Goes p e below s Z EL nw Q kk nn (T.setTop (mkF m pc Ls (x :: st))) := by
  subst hp
  exact K.step fun t k => XT.pop X.at X.hx rfl (hb X.by hd) rfl hc k

theorem g_iinc (X : St p l e R s m args below meth c own bytes maxL ret nm Z EL nw us T h cells slots) {k : Nat} {i : Int} {x : Int32} {Ls' : Array Slot} (hd : decode bytes pc = .ok (.iinc k i, 3)) (hl : Ls[k]? = some (.val (.int x))) (w : Int32) (hw : x + Int32.ofInt i = w) (hl' : storeLocals Ls k (.int w) = some Ls') (pc' : Nat) (hp : pc + 3 = pc')
    (K : Goes p e below s Z EL nw Q kk nn (T.setTop (mkF m pc' Ls' (st)))) : Goes p e below s Z EL nw Q kk nn (T.setTop (mkF m pc Ls (st))) := by
  subst hp
  exact K.step fun t k => XS.iinc X.at X.hx rfl (hb X.by hd) hl (by rw [hw]; exact hl') k

theorem g_ifNo (X : St p l e R s m args below meth c own bytes maxL ret nm Z EL nw us T h cells slots) {cd : ClassFile.Cond} {o : Int} {x : Int32} (hd : decode bytes pc = .ok (.ifCond cd o, 3)) (hc : if_icmp.holds cd x 0 = false) (pc' : Nat) (hp : pc + 3 = pc')
    (K : Goes p e below s Z EL nw Q kk nn (T.setTop (mkF m pc' Ls (st)))) : Goes p e below s Z EL nw Q kk nn (T.setTop (mkF m pc Ls (.int x :: st))) := by
  subst hp
  exact K.step fun t k => XS.ifNo X.at X.hx rfl (hb X.by hd) rfl ((if0 cd x).trans hc) k

theorem g_icmpNo (X : St p l e R s m args below meth c own bytes maxL ret nm Z EL nw us T h cells slots) {cd : ClassFile.Cond} {o : Int} {x y : Int32} (hd : decode bytes pc = .ok (.if_icmp cd o, 3)) (hc : if_icmp.holds cd x y = false) (pc' : Nat) (hp : pc + 3 = pc')
    (K : Goes p e below s Z EL nw Q kk nn (T.setTop (mkF m pc' Ls (st)))) : Goes p e below s Z EL nw Q kk nn (T.setTop (mkF m pc Ls (.int y :: .int x :: st))) := by
  subst hp
  exact K.step fun t k => XS.icmpNo X.at X.hx rfl (hb X.by hd) rfl hc k

theorem g_ifnullNo (X : St p l e R s m args below meth c own bytes maxL ret nm Z EL nw us T h cells slots) {o : Int} {b : Addr} (hd : decode bytes pc = .ok (.ifnull o, 3))  (pc' : Nat) (hp : pc + 3 = pc')
    (K : Goes p e below s Z EL nw Q kk nn (T.setTop (mkF m pc' Ls (st)))) : Goes p e below s Z EL nw Q kk nn (T.setTop (mkF m pc Ls (.ref b :: st))) := by
  subst hp
  exact K.step fun t k => XS.ifnullNo X.at X.hx rfl (hb X.by hd) rfl k

theorem g_ifnonnullNo (X : St p l e R s m args below meth c own bytes maxL ret nm Z EL nw us T h cells slots) {o : Int} (hd : decode bytes pc = .ok (.ifnonnull o, 3))  (pc' : Nat) (hp : pc + 3 = pc')
    (K : Goes p e below s Z EL nw Q kk nn (T.setTop (mkF m pc' Ls (st)))) : Goes p e below s Z EL nw Q kk nn (T.setTop (mkF m pc Ls (.null :: st))) := by
  subst hp
  exact K.step fun t k => XT.ifnonnullNo X.at X.hx rfl (hb X.by hd) rfl k

theorem g_acmpNo (X : St p l e R s m args below meth c own bytes maxL ret nm Z EL nw us T h cells slots) {cd : ClassFile.ACond} {o : Int} {x y : Value} (hd : decode bytes pc = .ok (.if_acmp cd o, 3)) (hx' : x.isRef = true) (hy' : y.isRef = true) (hc : XT.acmp cd x y = false) (pc' : Nat) (hp : pc + 3 = pc')
    (K : Goes p e below s Z EL nw Q kk nn (T.setTop (mkF m pc' Ls (st)))) : Goes p e below s Z EL nw Q kk nn (T.setTop (mkF m pc Ls (y :: x :: st))) := by
  subst hp
  exact K.step fun t k => XT.acmpNo X.at X.hx rfl (hb X.by hd) rfl hx' hy' hc k

theorem g_goto (X : St p l e R s m args below meth c own bytes maxL ret nm Z EL nw us T h cells slots)  {o : Int} (hd : decode bytes pc = .ok (.goto o, 3))  (pc' : Nat) (ho : 0 ≤ (pc : Int) + o) (hp : ((pc : Int) + o).toNat = pc')
    (K : Goes p e below s Z EL nw Q kk nn (T.setTop (mkF m pc' Ls (st)))) : Goes p e below s Z EL nw Q kk nn (T.setTop (mkF m pc Ls (st))) :=
  K.step fun t k => XS.goto X.at X.hx rfl (pc0 := pc) rfl (hb X.by hd) ho hp k

theorem g_ifYes (X : St p l e R s m args below meth c own bytes maxL ret nm Z EL nw us T h cells slots) {cd : ClassFile.Cond} {x : Int32} {o : Int} (hd : decode bytes pc = .ok (.ifCond cd o, 3)) (hc : if_icmp.holds cd x 0 = true) (pc' : Nat) (ho : 0 ≤ (pc : Int) + o) (hp : ((pc : Int) + o).toNat = pc')
    (K : Goes p e below s Z EL nw Q kk nn (T.setTop (mkF m pc' Ls (st)))) : Goes p e below s Z EL nw Q kk nn (T.setTop (mkF m pc Ls (.int x :: st))) :=
  K.step fun t k => XS.ifYes X.at X.hx rfl (pc0 := pc) rfl (hb X.by hd) rfl ((if0 cd x).trans hc) ho hp k

theorem g_icmpYes (X : St p l e R s m args below meth c own bytes maxL ret nm Z EL nw us T h cells slots) {cd : ClassFile.Cond} {x y : Int32} {o : Int} (hd : decode bytes pc = .ok (.if_icmp cd o, 3)) (hc : if_icmp.holds cd x y = true) (pc' : Nat) (ho : 0 ≤ (pc : Int) + o) (hp : ((pc : Int) + o).toNat = pc')
    (K : Goes p e below s Z EL nw Q kk nn (T.setTop (mkF m pc' Ls (st)))) : Goes p e below s Z EL nw Q kk nn (T.setTop (mkF m pc Ls (.int y :: .int x :: st))) :=
  K.step fun t k => XS.icmpYes X.at X.hx rfl (pc0 := pc) rfl (hb X.by hd) rfl hc ho hp k

theorem g_ifnullYes (X : St p l e R s m args below meth c own bytes maxL ret nm Z EL nw us T h cells slots)  {o : Int} (hd : decode bytes pc = .ok (.ifnull o, 3))  (pc' : Nat) (ho : 0 ≤ (pc : Int) + o) (hp : ((pc : Int) + o).toNat = pc')
    (K : Goes p e below s Z EL nw Q kk nn (T.setTop (mkF m pc' Ls (st)))) : Goes p e below s Z EL nw Q kk nn (T.setTop (mkF m pc Ls (.null :: st))) :=
  K.step fun t k => XS.ifnullYes X.at X.hx rfl (pc0 := pc) rfl (hb X.by hd) rfl ho hp k

theorem g_ifnonnullYes (X : St p l e R s m args below meth c own bytes maxL ret nm Z EL nw us T h cells slots) {b : Addr} {o : Int} (hd : decode bytes pc = .ok (.ifnonnull o, 3))  (pc' : Nat) (ho : 0 ≤ (pc : Int) + o) (hp : ((pc : Int) + o).toNat = pc')
    (K : Goes p e below s Z EL nw Q kk nn (T.setTop (mkF m pc' Ls (st)))) : Goes p e below s Z EL nw Q kk nn (T.setTop (mkF m pc Ls (.ref b :: st))) :=
  K.step fun t k => XT.ifnonnullYes X.at X.hx rfl (pc0 := pc) rfl (hb X.by hd) rfl ho hp k

theorem g_acmpYes (X : St p l e R s m args below meth c own bytes maxL ret nm Z EL nw us T h cells slots) {cd : ClassFile.ACond} {x y : Value} {o : Int} (hd : decode bytes pc = .ok (.if_acmp cd o, 3)) (hx' : x.isRef = true) (hy' : y.isRef = true) (hc : XT.acmp cd x y = true) (pc' : Nat) (ho : 0 ≤ (pc : Int) + o) (hp : ((pc : Int) + o).toNat = pc')
    (K : Goes p e below s Z EL nw Q kk nn (T.setTop (mkF m pc' Ls (st)))) : Goes p e below s Z EL nw Q kk nn (T.setTop (mkF m pc Ls (y :: x :: st))) :=
  K.step fun t k => XT.acmpYes X.at X.hx rfl (pc0 := pc) rfl (hb X.by hd) rfl hx' hy' hc ho hp k
end Ops
section Rets
variable {p : Program} {l : Launch} {e : Env} {R : Room} {s : State} {m : MethodId} {args : Array Value} {below : List Frame} {meth : Method} {c : Code}
  {own : String} {bytes : ByteArray} {maxL : Nat} {ret : Option FieldType} {nm : String} {Z : State} {EL : List (String × Nat)} {nw : Bool} {us : List Addr}
  {T : State} {h : Heap} {cells slots : Nat} {Q : Option Value → Heap → Prop} {kk nn : Nat} {a0 : Array Value} {pc : Nat} {Ls : Array Slot} {st : List Value}

theorem g_retN (X : St p l e R s m args below meth c own bytes maxL ret nm Z EL nw us T h cells slots) {z : Int32} {t : FieldType} {rest : List Value} (hret : ret = some t) (ht : t = .boolean ∨ t = .byte ∨ t = .char ∨ t = .short) (hd : decode bytes pc = .ok (.ireturn, 1)) (w : Int32) (hw : nar t z = w) (hc : cells ≤ kk) (hn : slots ≤ nn) (hQ : Q (some (.int w)) h) :
    Goes p e below s Z EL nw Q kk nn (T.setTop (mkF m pc Ls (.int z :: rest))) := by
  subst hw
  have h4 := X.1.2.2.2.1
  exact leave0 X (fun q => by rw [hret] at q; cases q) hc hn hQ fun fs g1 => by
    obtain ⟨vm0, locs, Y⟩ := X.std
    exact retN Y X.hx (h4.trans hret) ht (hb X.by hd) g1
theorem g_retI (X : St p l e R s m args below meth c own bytes maxL ret nm Z EL nw us T h cells slots) {z : Int32} {rest : List Value} (hret : ret = some .int) (hd : decode bytes pc = .ok (.ireturn, 1)) (hc : cells ≤ kk) (hn : slots ≤ nn) (hQ : Q (some (.int z)) h) :
    Goes p e below s Z EL nw Q kk nn (T.setTop (mkF m pc Ls (.int z :: rest))) := by
  have h4 := X.1.2.2.2.1
  exact leave0 X (fun q => by rw [hret] at q; cases q) hc hn hQ fun fs g1 => by
    obtain ⟨vm0, locs, Y⟩ := X.std
    exact retOut Y X.hx (h4.trans hret) rfl (Or.inl ⟨rfl, Or.inl rfl, z, rfl⟩) (hb X.by hd) g1
theorem g_retA (X : St p l e R s m args below meth c own bytes maxL ret nm Z EL nw us T h cells slots) {w : Value} {t : FieldType} {rest : List Value} (hret : ret = some t) (ht : t.isReference = true) (hw : w.isRef = true) (hd : decode bytes pc = .ok (.areturn, 1)) (hc : cells ≤ kk) (hn : slots ≤ nn) (hQ : Q (some w) h) :
    Goes p e below s Z EL nw Q kk nn (T.setTop (mkF m pc Ls (w :: rest))) := by
  have h4 := X.1.2.2.2.1
  have hnar : narrow t w = w := by
    rcases ref_cases hw with rfl | ⟨a, rfl⟩ <;> cases t <;> first | rfl | simp [FieldType.isReference] at ht
  exact leave0 X (fun q => by rw [hret] at q; cases q) hc hn hQ fun fs g1 => by
    obtain ⟨vm0, locs, Y⟩ := X.std
    exact retOut Y X.hx (h4.trans hret) hnar (Or.inr (Or.inr (Or.inr (Or.inr ⟨rfl, ht, hw⟩)))) (hb X.by hd) g1
theorem g_ret (X : St p l e R s m args below meth c own bytes maxL ret nm Z EL nw us T h cells slots) (hret : ret = none) (hd : decode bytes pc = .ok (.return_, 1)) (hc : cells ≤ kk) (hn : slots ≤ nn) (hQ : Q none h) :
    Goes p e below s Z EL nw Q kk nn (T.setTop (mkF m pc Ls [])) := by
  have h4 := X.1.2.2.2.1
  exact leave0 X (fun _ => rfl) hc hn hQ fun fs g1 => by
    obtain ⟨vm0, locs, Y⟩ := X.std
    exact Y.returnOut X.hx (h4.trans hret) (hb X.by hd) g1
end Rets
section HeapOps
variable {p : Program} {l : Launch} {e : Env} {R : Room} {s : State} {m : MethodId} {args : Array Value} {below : List Frame} {meth : Method} {c : Code}
  {own : String} {bytes : ByteArray} {maxL : Nat} {ret : Option FieldType} {nm : String} {Z : State} {EL : List (String × Nat)} {nw : Bool} {us : List Addr}
  {T : State} {h : Heap} {cells slots : Nat} {Q : Option Value → Heap → Prop} {kk nn : Nat} {a0 : Array Value} {pc : Nat} {Ls : Array Slot} {st : List Value}

theorem g_ldcI (X : St p l e R s m args below meth c own bytes maxL ret nm Z EL nw us T h cells slots) {ix : Nat} {v : Int32} (w : (Jvm.Cond.constant own ix v).before a0 Z = true) (hd : decode bytes pc = .ok (.ldc ix, 2)) (pc' : Nat) (hp : pc + 2 = pc')
    (K : Goes p e below s Z EL nw Q kk nn (T.setTop (mkF m pc' Ls (.int v :: st)))) : Goes p e below s Z EL nw Q kk nn (T.setTop (mkF m pc Ls st)) := by
  subst hp
  obtain ⟨cx, vm0, locs, Y, N, eT, hS, hZ, hown, r⟩ := X
  exact K.step fun t k => Y.ldcI cx.1 hown (mv (s := s.setVm vm0) hZ w) rfl (hb cx.2.1 hd) k
theorem g_getF (X : St p l e R s m args below meth c own bytes maxL ret nm Z EL nw us T h cells slots) {R0 O n d host : String} {ix : Nat} {a : Addr} {v : Value} (w : (Jvm.Cond.fieldLink own ix R0 n d).before a0 Z = true ∨ (Jvm.Cond.fieldLinkNest own ix R0 n d host).before a0 Z = true) (via : Via Z R0 O n d) (F : Fld Z h a O n d v)
    (hd : decode bytes pc = .ok (.getfield ix, 3)) (pc' : Nat) (hp : pc + 3 = pc')
    (K : ∀ T', St p l e R s m args below meth c own bytes maxL ret nm Z EL nw us T' h cells slots → Goes p e below s Z EL nw Q kk nn (T'.setTop (mkF m pc' Ls (v :: st)))) : Goes p e below s Z EL nw Q kk nn (T.setTop (mkF m pc Ls (.ref a :: st))) := by
  subst hp
  obtain ⟨cx, vm0, locs, Y, N, eT, hS, hZ, hown, r⟩ := X
  obtain ⟨T', Y', e', stp⟩ := getF Y cx.1 hZ hown w via eT F (g := mkF m pc Ls (.ref a :: st)) rfl rfl (hb cx.2.1 hd)
  exact (K T' ⟨cx, vm0, locs, Y', N, e', hS, hZ, hown, r⟩).step stp
theorem g_getS (X : St p l e R s m args below meth c own bytes maxL ret nm Z EL nw us T h cells slots) {R0 O n d host : String} {ix : Nat} {v : Value} (w : (Jvm.Cond.fieldLink own ix R0 n d).before a0 Z = true ∨ (Jvm.Cond.fieldLinkNest own ix R0 n d host).before a0 Z = true) (via : Via Z R0 O n d) (F : Sta Z h O n d v)
    (hd : decode bytes pc = .ok (.getstatic ix, 3)) (pc' : Nat) (hp : pc + 3 = pc')
    (K : ∀ T', St p l e R s m args below meth c own bytes maxL ret nm Z EL nw us T' h cells slots → Goes p e below s Z EL nw Q kk nn (T'.setTop (mkF m pc' Ls (v :: st)))) : Goes p e below s Z EL nw Q kk nn (T.setTop (mkF m pc Ls st)) := by
  subst hp
  obtain ⟨cx, vm0, locs, Y, N, eT, hS, hZ, hown, r⟩ := X
  obtain ⟨T', Y', e', stp⟩ := getS2 Y cx.1 hZ hown w via eT F (g := mkF m pc Ls st) rfl (hb cx.2.1 hd)
  exact (K T' ⟨cx, vm0, locs, Y', N, e', hS, hZ, hown, r⟩).step stp
theorem g_cast (X : St p l e R s m args below meth c own bytes maxL ret nm Z EL nw us T h cells slots) {C : String} {ix : Nat} {a : Addr} (w : (Jvm.Cond.classLink own ix C).before a0 Z = true) (F : Ins Z h a C true) (hd : decode bytes pc = .ok (.checkcast ix, 3)) (pc' : Nat) (hp : pc + 3 = pc')
    (K : ∀ T', St p l e R s m args below meth c own bytes maxL ret nm Z EL nw us T' h cells slots → Goes p e below s Z EL nw Q kk nn (T'.setTop (mkF m pc' Ls (.ref a :: st)))) : Goes p e below s Z EL nw Q kk nn (T.setTop (mkF m pc Ls (.ref a :: st))) := by
  subst hp
  obtain ⟨cx, vm0, locs, Y, N, eT, hS, hZ, hown, r⟩ := X
  obtain ⟨T', Y', e', stp⟩ := castY Y cx.1 hZ hown w eT F (g := mkF m pc Ls (.ref a :: st)) rfl rfl (hb cx.2.1 hd)
  exact (K T' ⟨cx, vm0, locs, Y', N, e', hS, hZ, hown, r⟩).step stp
theorem g_instY (X : St p l e R s m args below meth c own bytes maxL ret nm Z EL nw us T h cells slots) {C : String} {ix : Nat} {a : Addr} (w : (Jvm.Cond.classLink own ix C).before a0 Z = true) (F : Ins Z h a C true) (hd : decode bytes pc = .ok (.instanceof ix, 3)) (pc' : Nat) (hp : pc + 3 = pc')
    (K : ∀ T', St p l e R s m args below meth c own bytes maxL ret nm Z EL nw us T' h cells slots → Goes p e below s Z EL nw Q kk nn (T'.setTop (mkF m pc' Ls (.int 1 :: st)))) : Goes p e below s Z EL nw Q kk nn (T.setTop (mkF m pc Ls (.ref a :: st))) := by
  subst hp
  obtain ⟨cx, vm0, locs, Y, N, eT, hS, hZ, hown, r⟩ := X
  obtain ⟨T', Y', e', stp⟩ := instY Y cx.1 hZ hown w eT F (g := mkF m pc Ls (.ref a :: st)) rfl rfl (hb cx.2.1 hd)
  exact (K T' ⟨cx, vm0, locs, Y', N, e', hS, hZ, hown, r⟩).step stp
theorem g_instNo (X : St p l e R s m args below meth c own bytes maxL ret nm Z EL nw us T h cells slots) {C D : String} {ix : Nat} {a : Addr} (w : (Jvm.Cond.classLink own ix D).before a0 Z = true) (E : Exa Z h a C) (F : ∃ c t, Z.vm.findClass C = some c ∧ Z.vm.findClass D = some t ∧ Z.vm.assignable c t = false) (hd : decode bytes pc = .ok (.instanceof ix, 3)) (pc' : Nat) (hp : pc + 3 = pc')
    (K : ∀ T', St p l e R s m args below meth c own bytes maxL ret nm Z EL nw us T' h cells slots → Goes p e below s Z EL nw Q kk nn (T'.setTop (mkF m pc' Ls (.int 0 :: st)))) : Goes p e below s Z EL nw Q kk nn (T.setTop (mkF m pc Ls (.ref a :: st))) := by
  subst hp
  obtain ⟨cx, vm0, locs, Y, N, eT, hS, hZ, hown, r⟩ := X
  obtain ⟨T', Y', e', stp⟩ := instNo Y cx.1 hZ hown w eT E F (g := mkF m pc Ls (.ref a :: st)) rfl rfl (hb cx.2.1 hd)
  exact (K T' ⟨cx, vm0, locs, Y', N, e', hS, hZ, hown, r⟩).step stp
/-- 'new': the new object is under construction -/
theorem g_new (X : St p l e R s m args below meth c own bytes maxL ret nm Z EL nw us T h cells slots) {C : String} {ix k : Nat} (w : (Jvm.Cond.classLink own ix C).before a0 Z = true) (wi : (Jvm.Cond.instantiable C k).before a0 Z = true) (wz : (Jvm.Cond.initialized C).before a0 Z = true)
    (hd : decode bytes pc = .ok (.new ix, 3)) {ck cs : Nat} (hck : cells + 1 = ck) (hcs : slots + k = cs) (hc : ck ≤ R.cells) (hl : cs ≤ R.slots) (pc' : Nat) (hp : pc + 3 = pc')
    (K : ∀ a T' h', a = h.size → St p l e R s m args below meth c own bytes maxL ret nm Z EL nw (a :: us) T' h' ck cs → Ext h h' → Exa Z h' a C →
      (∀ {O n d : String} {ty : FieldType}, Laid Z a0 C O n d → parseFieldDescriptor d = some ty → Fld Z h' a O n d (defaultValue ty)) → Goes p e below s Z EL nw Q kk nn (T'.setTop (mkF m pc' Ls (.ref a :: st)))) : Goes p e below s Z EL nw Q kk nn (T.setTop (mkF m pc Ls st)) := by
  subst hp hck hcs
  obtain ⟨cx, vm0, locs, Y, N, eT, hS, hZ, hown, hE, hC, hU, hW⟩ := X
  obtain ⟨T', h', Y', e', E, A, D, -, stp⟩ := newO Y cx.1 hZ hown w wi wz eT (g := mkF m pc Ls st) rfl (hb cx.2.1 hd) hc hl
  refine (K h.size T' h' rfl ⟨cx, vm0, locs, Y', N, e', ⟨hS.1, hS.2.mono E.1⟩, hZ, hown, hE.trans E, hC.trans (CHr.ext E hC.1), ?_, hW⟩ E A (fun L q => D L q)).step stp
  intro x hx
  rcases List.mem_cons.mp hx with rfl | hx
  · exact ⟨hE.1, A.lt, Safe.ext E hC.1 (Safe.new (Nat.le_refl _))⟩
  · obtain ⟨q1, q2, q3⟩ := hU x hx
    exact ⟨q1, Nat.lt_of_lt_of_le q2 E.1, Safe.ext E hC.1 q3⟩
/-- an array of a primitive kind, new -/
theorem g_newP (X : St p l e R s m args below meth c own bytes maxL ret nm Z EL nw us T h cells slots) {aty : ArrayType} {z : Int32} (w : (Jvm.Cond.arrayClass (newarray.typeOf aty)).before a0 Z = true) (hd : decode bytes pc = .ok (.newarray aty, 2)) (hn : ¬ z < 0) (cap : Nat) (hcap : z.toNatClampNeg ≤ cap) (hb' : cap * 8 ≤ 536870912)
    {ck cs : Nat} (hck : cells + 1 = ck) (hcs : slots + cap = cs) (hc : ck ≤ R.cells) (hl : cs ≤ R.slots) (pc' : Nat) (hp : pc + 2 = pc')
    (K : ∀ a T' h' k, a = h.size → St p l e R s m args below meth c own bytes maxL ret nm Z EL nw (a :: us) T' h' ck cs → Ext h h' → Arv Z h' a k (newarray.typeOf aty) z [] (defaultValue (newarray.typeOf aty)) →
      Goes p e below s Z EL nw Q kk nn (T'.setTop (mkF m pc' Ls (.ref a :: st)))) : Goes p e below s Z EL nw Q kk nn (T.setTop (mkF m pc Ls (.int z :: st))) := by
  subst hp hck hcs
  obtain ⟨cx, vm0, locs, Y, N, eT, hS, hZ, hown, hE, hC, hU, hW⟩ := X
  obtain ⟨T', h', cA, Y', e', E, A, stp⟩ := newP Y cx.1 hZ w eT (g := mkF m pc Ls (.int z :: st)) rfl (hb cx.2.1 hd) rfl hn hcap hb' hc hl
  refine (K h.size T' h' cA rfl ⟨cx, vm0, locs, Y', N, e', ⟨hS.1, hS.2.mono E.1⟩, hZ, hown, hE.trans E, hC.trans (CHr.ext E hC.1), ?_, hW⟩ E (Arv.new A hn)).step stp
  intro x hx
  rcases List.mem_cons.mp hx with rfl | hx
  · exact ⟨hE.1, A.lt, Safe.ext E hC.1 (Safe.new (Nat.le_refl _))⟩
  · obtain ⟨q1, q2, q3⟩ := hU x hx
    exact ⟨q1, Nat.lt_of_lt_of_le q2 E.1, Safe.ext E hC.1 q3⟩
/-- a store's part that is common -/
theorem St.wrote {vm0 : Vm} {locs : List Loc} {T' : State} {h' : Heap} {a : Addr} {sl : Nat} {v : Value}
    (cx : p.tables.exec = Jvm.exec ∧ c.code = bytes ∧ c.maxLocals = maxL ∧ meth.sig.returnType = ret ∧ meth.name = nm ∧ meth.locks = false ∧ ∃ a0, EW Z a0 EL)
    (Y : Stand p l e R (s.setVm vm0) m args below meth c T' (locs ++ [⟨a, sl⟩]) cells slots) (N : Fr Z.heap.size locs) (eT : T'.heap = h') (hS : s.Since vm0 h.size) (hZ : Z.Warmed39 vm0) (hown : vm0.findClass own = some m.cls) (hE : Ext Z.heap h) (hC : CHr Z EL s.vm s.heap vm0 h)
    (hU : ∀ x ∈ us, Z.heap.size ≤ x ∧ x < h.size ∧ Safe Z EL vm0 h x) (hW : nw = true → s.WarmedH vm0) (W : Wr h h' a sl v) (ha : a ∈ us) : St p l e R s m args below meth c own bytes maxL ret nm Z EL nw us T' h' cells slots := by
  obtain ⟨q1, q2, q3⟩ := hU a ha
  refine ⟨cx, vm0, locs ++ [⟨a, sl⟩], Y, Fr.snoc Y N q1, eT, ⟨hS.1, hS.2.mono (Nat.le_of_eq W.size.symm)⟩, hZ, hown, ext_wr hE W q1, hC.trans (CHr.wr W q3 hC.1), fun x hx => ?_, hW⟩
  obtain ⟨r1, r2, r3⟩ := hU x hx
  exact ⟨r1, by rw [W.size]; exact r2, Safe.wr W q3 hC.1 r3⟩
theorem g_putF (X : St p l e R s m args below meth c own bytes maxL ret nm Z EL nw us T h cells slots) {R0 O n d host C : String} {ix k : Nat} {ty : FieldType} {a : Addr} {v old : Value} (w : (Jvm.Cond.fieldLink own ix R0 n d).before a0 Z = true ∨ (Jvm.Cond.fieldLinkNest own ix R0 n d host).before a0 Z = true) (via : Via Z R0 O n d) (F : Fld Z h a O n d old) (E : Exa Z h a C)
    (L : (Jvm.Cond.lays C O n d).before a0 Z = true ∨ ((Jvm.Cond.laysFinal C O n d).before a0 Z = true ∧ own = O ∧ nm = "<init>")) (wi : (Jvm.Cond.instantiable C k).before a0 Z = true) (hty : parseFieldDescriptor d = some ty) (hn : narrow ty v = v) (hf : fits ty v = true) (ha : a ∈ us)
    (hd : decode bytes pc = .ok (.putfield ix, 3)) (pc' : Nat) (hp : pc + 3 = pc')
    (K : ∀ T' h', St p l e R s m args below meth c own bytes maxL ret nm Z EL nw us T' h' cells slots → Wr h h' a (Jvm.RoadKit.slotOf Z O n d) v → Fld Z h' a O n d v → Exa Z h' a C → Goes p e below s Z EL nw Q kk nn (T'.setTop (mkF m pc' Ls st))) : Goes p e below s Z EL nw Q kk nn (T.setTop (mkF m pc Ls (v :: .ref a :: st))) := by
  subst hp
  obtain ⟨cx, vm0, locs, Y, N, eT, hS, hZ, hown, hE, hC, hU, hW⟩ := X
  have L' : (Jvm.Cond.lays C O n d).before a0 Z = true ∨ ((Jvm.Cond.laysFinal C O n d).before a0 Z = true ∧ own = O ∧ meth.name = "<init>") := by
    rcases L with L | ⟨L1, L2, L3⟩
    · exact Or.inl L
    · exact Or.inr ⟨L1, L2, by rw [cx.2.2.2.2.1]; exact L3⟩
  obtain ⟨T', h', Y', e', W, stp⟩ := putF Y cx.1 hZ hown w via eT F E L' wi hty hn hf (g := mkF m pc Ls (v :: .ref a :: st)) rfl rfl (hb cx.2.1 hd)
  exact (K T' h' (St.wrote cx Y' N e' hS hZ hown hE hC hU hW W ha) W (F.same W) (E.wr W)).step stp
theorem g_castore (X : St p l e R s m args below meth c own bytes maxL ret nm Z EL nw us T h cells slots) {a : Addr} {k : ClassId} {z j x : Int32} {vs : List Value} {dv : Value} (A : Arv Z h a k .char z vs dv) (i : Nat) (hj : j.toNatClampNeg = i) (hj0 : ¬ j < 0) (hz : j < z) (hi : i < vs.length) (w : Int32) (hw : nar .char x = w) (ha : a ∈ us)
    (hd : decode bytes pc = .ok (.castore, 1)) (pc' : Nat) (hp : pc + 1 = pc')
    (K : ∀ T' h', St p l e R s m args below meth c own bytes maxL ret nm Z EL nw us T' h' cells slots → Wr h h' a i (.int w) → Arv Z h' a k .char z (vs.set i (.int w)) dv → Goes p e below s Z EL nw Q kk nn (T'.setTop (mkF m pc' Ls st))) : Goes p e below s Z EL nw Q kk nn (T.setTop (mkF m pc Ls (.int x :: .int j :: .ref a :: st))) := by
  subst hp hj hw
  obtain ⟨cx, vm0, locs, Y, N, eT, hS, hZ, hown, hE, hC, hU, hW⟩ := X
  obtain ⟨cl, Ar, q1, Sz, q3, H, Gt⟩ := A
  obtain ⟨T', h', Y', e', W, stp⟩ := stC Y cx.1 hZ eT Ar (inb_of Sz ⟨hj0, hz⟩) (g := mkF m pc Ls (.int x :: .int j :: .ref a :: st)) rfl rfl (hb cx.2.1 hd)
  exact (K T' h' (St.wrote cx Y' N e' hS hZ hown hE hC hU hW W ha) W (Arv.set Ar q1 Sz q3 H Gt (fits_nar_char x) W _ rfl hi)).step stp
theorem g_bastore (X : St p l e R s m args below meth c own bytes maxL ret nm Z EL nw us T h cells slots) {a : Addr} {k : ClassId} {z j x : Int32} {vs : List Value} {dv : Value} (A : Arv Z h a k .byte z vs dv) (i : Nat) (hj : j.toNatClampNeg = i) (hj0 : ¬ j < 0) (hz : j < z) (hi : i < vs.length) (w : Int32) (hw : nar .byte x = w) (ha : a ∈ us)
    (hd : decode bytes pc = .ok (.bastore, 1)) (pc' : Nat) (hp : pc + 1 = pc')
    (K : ∀ T' h', St p l e R s m args below meth c own bytes maxL ret nm Z EL nw us T' h' cells slots → Wr h h' a i (.int w) → Arv Z h' a k .byte z (vs.set i (.int w)) dv → Goes p e below s Z EL nw Q kk nn (T'.setTop (mkF m pc' Ls st))) : Goes p e below s Z EL nw Q kk nn (T.setTop (mkF m pc Ls (.int x :: .int j :: .ref a :: st))) := by
  subst hp hj hw
  obtain ⟨cx, vm0, locs, Y, N, eT, hS, hZ, hown, hE, hC, hU, hW⟩ := X
  obtain ⟨cl, Ar, q1, Sz, q3, H, Gt⟩ := A
  obtain ⟨T', h', Y', e', W, stp⟩ := stB Y cx.1 hZ eT Ar (inb_of Sz ⟨hj0, hz⟩) (g := mkF m pc Ls (.int x :: .int j :: .ref a :: st)) rfl rfl (hb cx.2.1 hd)
  exact (K T' h' (St.wrote cx Y' N e' hS hZ hown hE hC hU hW W ha) W (Arv.set Ar q1 Sz q3 H Gt (fits_nar_byte x) W _ rfl hi)).step stp
theorem arrOf {vm0 : Vm} {cl : Cell} {ty : FieldType} (hZ : Z.Warmed39 vm0) (q : Z.isArrayOf cl ty) : (s.setVm vm0).isArrayOf cl ty := State.isArrayOf_alike (show Z.vm.Alike (s.setVm vm0).vm from hZ.alike) q
theorem g_arrlen (X : St p l e R s m args below meth c own bytes maxL ret nm Z EL nw us T h cells slots) {a : Addr} {k : ClassId} {ty : FieldType} {z : Int32} {vs : List Value} {dv : Value} (A : Arv Z h a k ty z vs dv) (hd : decode bytes pc = .ok (.arraylength, 1)) (pc' : Nat) (hp : pc + 1 = pc')
    (K : Goes p e below s Z EL nw Q kk nn (T.setTop (mkF m pc' Ls (.int z :: st)))) : Goes p e below s Z EL nw Q kk nn (T.setTop (mkF m pc Ls (.ref a :: st))) := by
  subst hp
  obtain ⟨cx, vm0, locs, Y, N, eT, hS, hZ, r⟩ := X
  obtain ⟨cl, Ar, q1, Sz, q3, H, Gt⟩ := A
  refine K.step fun t k => Y.arraylength cx.1 (cell := cl) (by rw [eT]; exact Ar.1) (arrOf hZ Ar.2.1) (g := mkF m pc Ls (.ref a :: st)) rfl rfl (hb cx.2.1 hd) t ?_
  rw [len_of Sz q3]; exact k
theorem g_caload (X : St p l e R s m args below meth c own bytes maxL ret nm Z EL nw us T h cells slots) {a : Addr} {k : ClassId} {z j : Int32} {vs : List Value} {dv : Value} (A : Arv Z h a k .char z vs dv) (hj0 : ¬ j < 0) (hz : j < z) (v : Value) (hv : vs.getD j.toNatClampNeg dv = v) (hd : decode bytes pc = .ok (.caload, 1)) (pc' : Nat) (hp : pc + 1 = pc')
    (K : Goes p e below s Z EL nw Q kk nn (T.setTop (mkF m pc' Ls (v :: st)))) : Goes p e below s Z EL nw Q kk nn (T.setTop (mkF m pc Ls (.int j :: .ref a :: st))) := by
  subst hp
  obtain ⟨cx, vm0, locs, Y, N, eT, hS, hZ, r⟩ := X
  obtain ⟨cl, Ar, q1, Sz, q3, H, Gt⟩ := A
  have hin := inb_of Sz ⟨hj0, hz⟩
  exact K.step fun t k => Y.caload cx.1 (cell := cl) (by rw [eT]; exact Ar.1) (arrOf hZ Ar.2.1) Ar.2.2 hin (H.at hin hv) (g := mkF m pc Ls (.int j :: .ref a :: st)) rfl rfl (hb cx.2.1 hd) t k
theorem g_baload (X : St p l e R s m args below meth c own bytes maxL ret nm Z EL nw us T h cells slots) {a : Addr} {k : ClassId} {z j : Int32} {vs : List Value} {dv : Value} (A : Arv Z h a k .byte z vs dv) (hj0 : ¬ j < 0) (hz : j < z) (v : Value) (hv : vs.getD j.toNatClampNeg dv = v) (hd : decode bytes pc = .ok (.baload, 1)) (pc' : Nat) (hp : pc + 1 = pc')
    (K : Goes p e below s Z EL nw Q kk nn (T.setTop (mkF m pc' Ls (v :: st)))) : Goes p e below s Z EL nw Q kk nn (T.setTop (mkF m pc Ls (.int j :: .ref a :: st))) := by
  subst hp
  obtain ⟨cx, vm0, locs, Y, N, eT, hS, hZ, r⟩ := X
  obtain ⟨cl, Ar, q1, Sz, q3, H, Gt⟩ := A
  have hin := inb_of Sz ⟨hj0, hz⟩
  exact K.step fun t k => Y.baloadBytes cx.1 (cell := cl) (by rw [eT]; exact Ar.1) (arrOf hZ Ar.2.1) Ar.2.2 hin (H.at hin hv) (g := mkF m pc Ls (.int j :: .ref a :: st)) rfl rfl (hb cx.2.1 hd) t k
theorem g_aaload (X : St p l e R s m args below meth c own bytes maxL ret nm Z EL nw us T h cells slots) {a : Addr} {k : ClassId} {ty : FieldType} {z j : Int32} {vs : List Value} {dv : Value} (A : Arv Z h a k ty z vs dv) (hty : ty.isReference = true) (hj0 : ¬ j < 0) (hz : j < z) (v : Value) (hv : vs.getD j.toNatClampNeg dv = v) (hd : decode bytes pc = .ok (.aaload, 1)) (pc' : Nat) (hp : pc + 1 = pc')
    (K : Goes p e below s Z EL nw Q kk nn (T.setTop (mkF m pc' Ls (v :: st)))) : Goes p e below s Z EL nw Q kk nn (T.setTop (mkF m pc Ls (.int j :: .ref a :: st))) := by
  subst hp
  obtain ⟨cx, vm0, locs, Y, N, eT, hS, hZ, r⟩ := X
  obtain ⟨cl, Ar, q1, Sz, q3, H, Gt⟩ := A
  have hin := inb_of Sz ⟨hj0, hz⟩
  exact K.step fun t k => Y.aaload cx.1 (cell := cl) (by rw [eT]; exact Ar.1) (arrOf hZ Ar.2.1) hty Ar.2.2 hin (H.at hin hv) (g := mkF m pc Ls (.int j :: .ref a :: st)) rfl rfl (hb cx.2.1 hd) t k
theorem g_aaloadA (X : St p l e R s m args below meth c own bytes maxL ret nm Z EL nw us T h cells slots) {a : Addr} {cl : Cell} {ty : FieldType} {j : Int32} (A : Arr Z h a cl ty) (hty : ty.isReference = true) (hin : ¬ (j < 0 ∨ cl.slots.size ≤ j.toNatClampNeg)) {v : Value} (hv : cl.slots[j.toNatClampNeg]? = some v) (hd : decode bytes pc = .ok (.aaload, 1)) (pc' : Nat) (hp : pc + 1 = pc')
    (K : Goes p e below s Z EL nw Q kk nn (T.setTop (mkF m pc' Ls (v :: st)))) : Goes p e below s Z EL nw Q kk nn (T.setTop (mkF m pc Ls (.int j :: .ref a :: st))) := by
  subst hp
  obtain ⟨cx, vm0, locs, Y, N, eT, hS, hZ, r⟩ := X
  exact K.step fun t k => Y.aaload cx.1 (cell := cl) (by rw [eT]; exact A.1) (arrOf hZ A.2.1) hty A.2.2 hin hv (g := mkF m pc Ls (.int j :: .ref a :: st)) rfl rfl (hb cx.2.1 hd) t k
/-- System.arraycopy between two arrays of one primitive kind -/
theorem g_arrcopy (X : St p l e R s m args below meth c own bytes maxL ret nm Z EL nw us T h cells slots) {ix : Nat} {a b : Addr} {k k' : ClassId} {ty : FieldType} {z z' sp dp nn0 : Int32} {vs vd : List Value} {dv dd : Value} (w1 : (Jvm.Cond.methodLink own ix Jvm.Stand.acN).before a0 Z = true) (w2 : (Jvm.Cond.native Jvm.Stand.acN).before a0 Z = true) (w3 : (Jvm.Cond.static Jvm.Stand.acN).before a0 Z = true) (w4 : (Jvm.Cond.initialized "java/lang/System").before a0 Z = true)
    (A : Arv Z h a k ty z vs dv) (B : Arv Z h b k' ty z' vd dd) (hty : refKind ty = false) (h1 : ¬ sp < 0) (h2 : ¬ dp < 0) (h3 : ¬ nn0 < 0) (h4 : sp.toNatClampNeg + nn0.toNatClampNeg ≤ z.toNatClampNeg) (h5 : dp.toNatClampNeg + nn0.toNatClampNeg ≤ z'.toNatClampNeg) (hl : dp.toNatClampNeg + nn0.toNatClampNeg ≤ vd.length)
    (vr : List Value) (hvr : vd.take dp.toNatClampNeg ++ ((List.range nn0.toNatClampNeg).map fun i => vs.getD (sp.toNatClampNeg + i) dv) ++ vd.drop (dp.toNatClampNeg + nn0.toNatClampNeg) = vr) (hb' : b ∈ us) (hsize : Ls.size = maxL) (hd : decode bytes pc = .ok (.invokestatic ix, 3))
    (hf : 1 ≤ R.frames) (W : Nat) (hW : (st.map fun v => v.category).sum ≤ W) (hlo : W + (nativeFrameWords "java/lang/System" "arraycopy" 5 + 11) ≤ R.locals) (pc' : Nat) (hp : pc + 3 = pc')
    (K : ∀ T' h', St p l e R s m args below meth c own bytes maxL ret nm Z EL nw us T' h' cells slots → Keep h h' [b] → Arv Z h' b k' ty z' vr dd → Goes p e below s Z EL nw Q kk nn (T'.setTop (mkF m pc' Ls st))) : Goes p e below s Z EL nw Q kk nn (T.setTop (mkF m pc Ls (.int nn0 :: .int dp :: .ref b :: .int sp :: .ref a :: st))) := by
  subst hp hvr
  obtain ⟨cx, vm0, locs, Y, N, eT, hS, hZ, hown, hE, hC, hU, hWn⟩ := X
  obtain ⟨u1, u2, u3⟩ := hU b hb'
  obtain ⟨T', h', L, Y', e', N', K', A', stp⟩ := cpA Y cx.1 hZ hown w1 w2 w3 w4 eT A B (Or.inl ⟨rfl, hty⟩) h1 h2 h3 h4 h5 rfl hl N u1 (g := mkF m pc Ls (.int nn0 :: .int dp :: .ref b :: .int sp :: .ref a :: st)) rfl (by rw [cx.2.2.1]; exact hsize) rfl (hb cx.2.1 hd) hf (W := W) (by show 2 * 0 + _ ≤ _; omega) hlo
  have hsf : ∀ x ∈ [b], Safe Z EL vm0 h x := fun x hx => by cases List.mem_singleton.mp hx; exact u3
  exact (K T' h' ⟨cx, vm0, L, Y', N', e', ⟨hS.1, hS.2.mono K'.1⟩, hZ, hown, ext_keep hE K' (fun x hx => by cases List.mem_singleton.mp hx; exact u1), hC.trans (CHr.keep K' hsf hC.1), fun x hx => ⟨(hU x hx).1, Nat.lt_of_lt_of_le (hU x hx).2.1 K'.1, Safe.keep K' hsf hC.1 (hU x hx).2.2⟩, hWn⟩ K' A').step stp
/-- Object's constructor -/
theorem g_initO (X : St p l e R s m args below meth c own bytes maxL ret nm Z EL nw us T h cells slots) {ix : Nat} {a : Addr} (w1 : (Jvm.Cond.methodLink own ix Lib.objectInit).before a0 Z = true) (w2 : (Jvm.Cond.instanceMethod Lib.objectInit).before a0 Z = true) (w3 : (Jvm.Cond.code Lib.objectInit ⟨#[0xb1]⟩ 1 none).before a0 Z = true) (hsize : Ls.size = maxL)
    (hd : decode bytes pc = .ok (.invokespecial ix, 3)) (hf : 1 ≤ R.frames) (W : Nat) (hW : (st.map fun v => v.category).sum ≤ W) (hl : W + 12 ≤ R.locals) (pc' : Nat) (hp : pc + 3 = pc')
    (K : ∀ T', St p l e R s m args below meth c own bytes maxL ret nm Z EL nw us T' h cells slots → Goes p e below s Z EL nw Q kk nn (T'.setTop (mkF m pc' Ls st))) : Goes p e below s Z EL nw Q kk nn (T.setTop (mkF m pc Ls (.ref a :: st))) := by
  subst hp
  obtain ⟨cx, vm0, locs, Y, N, eT, hS, hZ, hown, r⟩ := X
  obtain ⟨T', Y', e', stp⟩ := initO Y cx.1 hZ hown w1 w2 w3 eT (g := mkF m pc Ls (.ref a :: st)) rfl (by rw [cx.2.2.1]; exact hsize) rfl (hb cx.2.1 hd) hf (W := W) (by show 2 * 0 + _ ≤ _; omega) hl
  exact (K T' ⟨cx, vm0, locs, Y', N, e', hS, hZ, hown, r⟩).step stp
/-- an array's clone -/
theorem g_clone (X : St p l e R s m args below meth c own bytes maxL ret nm Z EL nw us T h cells slots) {ad : String} {ix : Nat} {a : Addr} {k : ClassId} {ty : FieldType} {z : Int32} {vs : List Value} {dv : Value}
    (w1 : (Jvm.Cond.methodLink own ix ⟨ad, "clone", "()Ljava/lang/Object;"⟩).before a0 Z = true) (w2 : (Jvm.Cond.sameMethod ad "java/lang/Object" "clone" "()Ljava/lang/Object;").before a0 Z = true) (w3 : (Jvm.Cond.native ⟨"java/lang/Object", "clone", "()Ljava/lang/Object;"⟩).before a0 Z = true)
    (w4 : (Jvm.Cond.instanceMethod ⟨"java/lang/Object", "clone", "()Ljava/lang/Object;"⟩).before a0 Z = true) (w5 : (Jvm.Cond.selects ad ⟨ad, "clone", "()Ljava/lang/Object;"⟩ ⟨"java/lang/Object", "clone", "()Ljava/lang/Object;"⟩).before a0 Z = true) (w6 : (Jvm.Cond.castable ad "java/lang/Cloneable").before a0 Z = true)
    (A : Arv Z h a k ty z vs dv) (E : Exa Z h a ad) (hsize : Ls.size = maxL) (hd : decode bytes pc = .ok (.invokevirtual ix, 3)) (hf : 1 ≤ R.frames) (W : Nat) (hW : (st.map fun v => v.category).sum ≤ W) (hl : W + 14 ≤ R.locals) (cap : Nat) (hcap : z.toNatClampNeg ≤ cap)
    {ck cs : Nat} (hck : cells + 1 = ck) (hcs : slots + cap = cs) (hc : ck ≤ R.cells) (hs : cs ≤ R.slots) (pc' : Nat) (hp : pc + 3 = pc')
    (K : ∀ a' T' h', a' = h.size → St p l e R s m args below meth c own bytes maxL ret nm Z EL nw (a' :: us) T' h' ck cs → Ext h h' → Arv Z h' a' k ty z vs dv → Exa Z h' a' ad → Goes p e below s Z EL nw Q kk nn (T'.setTop (mkF m pc' Ls (.ref a' :: st)))) : Goes p e below s Z EL nw Q kk nn (T.setTop (mkF m pc Ls (.ref a :: st))) := by
  subst hp hck hcs
  obtain ⟨cx, vm0, locs, Y, N, eT, hS, hZ, hown, hE, hC, hU, hWn⟩ := X
  obtain ⟨T', h', Y', e', Ex, A', E', stp⟩ := cloneH Y cx.1 hZ hown w1 w2 w3 w4 w5 w6 eT A.arh E (g := mkF m pc Ls (.ref a :: st)) rfl (by rw [cx.2.2.1]; exact hsize) rfl (hb cx.2.1 hd) hf (W := W) (by show 2 * 0 + _ ≤ _; omega) hl hcap hc hs
  obtain ⟨cl, q1, q2, q3, q4, q5, q6⟩ := A'
  refine (K h.size T' h' rfl ⟨cx, vm0, locs, Y', N, e', ⟨hS.1, hS.2.mono Ex.1⟩, hZ, hown, hE.trans Ex, hC.trans (CHr.ext Ex hC.1), ?_, hWn⟩ Ex ⟨cl, q1, q2, q3, q4, fun i hi => q5 i hi, fun i hi => q6 i hi⟩ E').step stp
  intro x hx
  rcases List.mem_cons.mp hx with rfl | hx
  · exact ⟨hE.1, E'.lt, Safe.ext Ex hC.1 (Safe.new (Nat.le_refl _))⟩
  · obtain ⟨q1, q2, q3⟩ := hU x hx
    exact ⟨q1, Nat.lt_of_lt_of_le q2 Ex.1, Safe.ext Ex hC.1 q3⟩
end HeapOps
section CallOps
variable {p : Program} {l : Launch} {e : Env} {R : Room} {s : State} {m : MethodId} {args : Array Value} {below : List Frame} {meth : Method} {c : Code}
  {own : String} {bytes : ByteArray} {maxL : Nat} {ret : Option FieldType} {nm : String} {Z : State} {EL : List (String × Nat)} {nw : Bool} {us : List Addr}
  {T : State} {h : Heap} {cells slots : Nat} {Q : Option Value → Heap → Prop} {kk nn : Nat} {a0 : Array Value} {pc : Nat} {Ls : Array Slot} {st : List Value}

/-- who pays a call: the callee's contract -/
theorem backC {y : MethodName} {cb : ByteArray} {cm : Nat} {cr : Option FieldType} {rm : Room} {len W : Nat} {as' : Array Value} {us' : List Addr} {Qc : Option Value → Heap → Prop} {vm0 : Vm}
    (hM : Ctr l Z EL nw y cb cm cr rm as' h us' Qc) (hZ : Z.Warmed39 vm0) (wc : (Jvm.Cond.code y cb cm cr).before a0 Z = true) (wz : (Jvm.Cond.initialized y.cls).before a0 Z = true) (hf : rm.frames + 1 ≤ R.frames) (hl : W + (cm + 11) + rm.locals ≤ R.locals)
    {a1 : Array Value} (hEL : EW Z a1 EL) (hE : Ext Z.heap h) (H : CHv Z EL vm0 h) (hU : ∀ x ∈ us', Z.heap.size ≤ x ∧ x < h.size ∧ Safe Z EL vm0 h x) :
    BackS l R p e below (s.setVm vm0) args y len W (fun A a => a = as' ∧ A.U.heap = h ∧ A.cells + rm.cells ≤ R.cells ∧ A.slots + rm.slots ≤ R.slots)
      (fun A _ v B => ∃ L, Qc v B.U.heap ∧ Fr Z.heap.size L ∧ Ext Z.heap B.U.heap ∧ B.locs = A.locs ++ L ∧ B.cells = A.cells + rm.cells ∧ B.slots = A.slots + rm.slots ∧ CHr Z EL vm0 h B.U.vm B.U.heap ∧ (nw = true → (s.setVm vm0).WarmedH B.U.vm)) :=
  BackS.of_freeW (bytes := cb) (maxL := cm) (ret := cr)
    (E := fun _ first o t L k n => k = rm.cells ∧ n = rm.slots ∧ (∃ v, o = .returned v ∧ Qc v t.heap) ∧ Fr Z.heap.size L ∧ Ext Z.heap t.heap ∧ CHr Z EL first.vm first.heap t.vm t.heap ∧ (nw = true → first.WarmedH t.vm)) (hM []) hf hl
    (fun m meth c A a Y hp => have hU : Z.Warmed39 A.U.vm := wtrans (s := s.setVm vm0) hZ Y.warmed
      ⟨by show (Jvm.Cond.and _ .tt).before a A.U = true; rw [Jvm.Cond.before_and, mv hU wc]; rfl, mv hU wc, mv hU wz, hp.2.2.1, hp.2.2.2⟩)
    (fun m meth c A a g mk Y hp => ⟨hp.1, wtrans (s := s.setVm vm0) hZ Y.warmed, hp.2.1, hE, (CHv.at Y hZ hEL H).1, fun x hx => ⟨(hU x hx).1, (hU x hx).2.1, (CHv.at Y hZ hEL H).safe (hU x hx).2.1 (hU x hx).2.2⟩⟩) (fun _ _ _ _ _ _ _ _ _ => trivial)
    (fun _ _ _ _ ⟨v, L, h1, h2, h3, h4, h5, h6, h7⟩ => ⟨L, _, _, h6, rfl, rfl, ⟨v, h1, h2⟩, h3, h4, h5, h7⟩)
    (fun m meth c A a g mk v t L k n Y hp _ _ ⟨e1, e2, ⟨v', e3, e4⟩, e5, e6, e7, e8⟩ => by
      cases e3; subst e1 e2
      refine ⟨L, e4, e5, e6, rfl, rfl, rfl, (CHv.at Y hZ hEL H).trans ?_, fun q => State.WarmedH.trans (t := A.U) Y.warmed (e8 q)⟩
      rw [← hp.2.1]; exact e7)
/-- behind a call -/
theorem St.back {vm0 : Vm} {locs : List Loc} {B : Pt} {L : List Loc} {ck cs : Nat}
    (cx : p.tables.exec = Jvm.exec ∧ c.code = bytes ∧ c.maxLocals = maxL ∧ meth.sig.returnType = ret ∧ meth.name = nm ∧ meth.locks = false ∧ ∃ a0, EW Z a0 EL)
    (N : Fr Z.heap.size locs) (hS : s.Since vm0 h.size) (hZ : Z.Warmed39 vm0) (hown : vm0.findClass own = some m.cls) (hC : CHr Z EL s.vm s.heap vm0 h)
    (hU : ∀ x ∈ us, Z.heap.size ≤ x ∧ x < h.size ∧ Safe Z EL vm0 h x) (hW : nw = true → s.WarmedH vm0)
    (Y : Stand p l e R ((s.setVm vm0).setVm B.U.vm) m args below meth c B.U B.locs B.cells B.slots) (h2 : (s.setVm vm0).Since B.U.vm B.U.heap.size) (hg : h.size ≤ B.U.heap.size)
    (N' : Fr Z.heap.size L) (hE : Ext Z.heap B.U.heap) (l1 : B.locs = locs ++ L) (l2 : B.cells = ck) (l3 : B.slots = cs) (hC' : CHr Z EL vm0 h B.U.vm B.U.heap) (hW' : nw = true → (s.setVm vm0).WarmedH B.U.vm) :
    St p l e R s m args below meth c own bytes maxL ret nm Z EL nw us B.U B.U.heap ck cs := by
  subst l2 l3
  rw [l1] at Y
  exact ⟨cx, B.U.vm, locs ++ L, Y, N.app N', rfl, hS.trans h2 hg, State.Warmed39.trans hZ h2.1, (h2.1.alike.findClass _ _).trans hown, hE, hC.trans hC', fun x hx => ⟨(hU x hx).1, Nat.lt_of_lt_of_le (hU x hx).2.1 hg, hC'.safe (hU x hx).2.1 (hU x hx).2.2⟩, fun q => State.WarmedH.trans (t := s.setVm vm0) (hW q) (hW' q)⟩
theorem g_callS (X : St p l e R s m args below meth c own bytes maxL ret nm Z EL nw us T h cells slots) {y : MethodName} {cb : ByteArray} {cm : Nat} {cr : Option FieldType} {rm : Room} {as' : Array Value} {us' : List Addr} {Qc : Option Value → Heap → Prop} {ix : Nat}
    (w1 : (Jvm.Cond.methodLink own ix y).before a0 Z = true) (w2 : (Jvm.Cond.static y).before a0 Z = true) (w3 : (Jvm.Cond.initialized y.cls).before a0 Z = true) (w4 : (Jvm.Cond.code y cb cm cr).before a0 Z = true)
    (hy : y.cls ≠ "java/lang/invoke/MethodHandle" ∧ y.cls ≠ "java/lang/invoke/VarHandle") (hM : Ctr l Z EL nw y cb cm cr rm as' h us' Qc) (hus : ∀ x ∈ us', x ∈ us)
    {argsL rest : List Value} {ps : List FieldType} {rt : Option FieldType} (hpd : parseMethodDescriptor y.desc = some ⟨ps, rt⟩) (hlen : argsL.length = ps.length) (has : argsL.toArray = as') (hst : st = argsL.reverse ++ rest) (hsize : Ls.size = maxL)
    (W : Nat) (hW : (rest.map fun v => v.category).sum ≤ W) (hf : rm.frames + 1 ≤ R.frames) (hl : W + (cm + 11) + rm.locals ≤ R.locals) {ck cs : Nat} (hck : cells + rm.cells = ck) (hcs : slots + rm.slots = cs) (hc : ck ≤ R.cells) (hs : cs ≤ R.slots)
    (hd : decode bytes pc = .ok (.invokestatic ix, 3)) (pc' : Nat) (hp : pc + 3 = pc')
    (K : ∀ v T' h', St p l e R s m args below meth c own bytes maxL ret nm Z EL nw us T' h' ck cs → Qc v h' → Goes p e below s Z EL nw Q kk nn (T'.setTop (mkF m pc' Ls (v.toList ++ rest)))) : Goes p e below s Z EL nw Q kk nn (T.setTop (mkF m pc Ls st)) := by
  subst hp hck hcs
  obtain ⟨cx, vm0, locs, Y, N, eT, hS, hZ, hown, hE, hC, hU, hWn⟩ := X
  obtain ⟨a1, hEL⟩ := cx.2.2.2.2.2.2
  have w4' := mvT (s := s.setVm vm0) (args := args) hZ w4
  obtain ⟨mk, hnamed⟩ := Jvm.Cond.code_named w4'
  obtain ⟨methM, cM, hmethM, -, -, -, -, -, -, hsigM⟩ := Jvm.Cond.code_spec hnamed w4'
  obtain ⟨v, vm₁, B, -, Y', h2, hg, ⟨L, q1, q2, q3, q4, q5, q6, q7, q8⟩, stp⟩ := Y.staticBackS cx.1 (own := own) (index := ix) (y := y) hown (mvT (s := s.setVm vm0) hZ w1) (mvT (s := s.setVm vm0) hZ w2) (mvT (s := s.setVm vm0) hZ w3) hnamed hmethM hsigM hy
    (backC (W := W) hM hZ w4 w3 hf hl hEL hE hC.1 fun x hx => hU x (hus x hx)) (g := mkF m pc Ls st) rfl (by rw [cx.2.2.1]; exact hsize) (Steps.refl _) (argsL := argsL) (rest := rest) (lenOf hpd hlen) hst (by show 2 * 0 + _ ≤ _; omega) (hb cx.2.1 hd)
    (fun _ _ => ⟨has, eT, hc, hs⟩)
  exact (K v B.U B.U.heap (St.back cx N hS hZ hown hC hU hWn Y' h2 (by rw [← eT]; exact hg) q2 q3 q4 q5 q6 q7 q8) q1).step fun t k => stp.trans k
theorem g_callI (X : St p l e R s m args below meth c own bytes maxL ret nm Z EL nw us T h cells slots) {y : MethodName} {cb : ByteArray} {cm : Nat} {rm : Room} {as' : Array Value} {us' : List Addr} {Qc : Option Value → Heap → Prop} {ix : Nat} (hy1 : y.name = "<init>")
    (w1 : (Jvm.Cond.methodLink own ix y).before a0 Z = true) (w2 : (Jvm.Cond.instanceMethod y).before a0 Z = true) (w3 : (Jvm.Cond.initialized y.cls).before a0 Z = true) (w4 : (Jvm.Cond.code y cb cm none).before a0 Z = true)
    (hy : y.cls ≠ "java/lang/invoke/MethodHandle" ∧ y.cls ≠ "java/lang/invoke/VarHandle") (hM : Ctr l Z EL nw y cb cm none rm as' h us' Qc) (hus : ∀ x ∈ us', x ∈ us)
    {a : Addr} {argsL rest : List Value} {ps : List FieldType} {rt : Option FieldType} (hpd : parseMethodDescriptor y.desc = some ⟨ps, rt⟩) (hlen : argsL.length = ps.length) (has : (.ref a :: argsL).toArray = as') (hst : st = argsL.reverse ++ .ref a :: rest) (hsize : Ls.size = maxL)
    (W : Nat) (hW : (rest.map fun v => v.category).sum ≤ W) (hf : rm.frames + 1 ≤ R.frames) (hl : W + (cm + 11) + rm.locals ≤ R.locals) {ck cs : Nat} (hck : cells + rm.cells = ck) (hcs : slots + rm.slots = cs) (hc : ck ≤ R.cells) (hs : cs ≤ R.slots)
    (hd : decode bytes pc = .ok (.invokespecial ix, 3)) (pc' : Nat) (hp : pc + 3 = pc')
    (K : ∀ v T' h', St p l e R s m args below meth c own bytes maxL ret nm Z EL nw us T' h' ck cs → Qc v h' → Goes p e below s Z EL nw Q kk nn (T'.setTop (mkF m pc' Ls (v.toList ++ rest)))) : Goes p e below s Z EL nw Q kk nn (T.setTop (mkF m pc Ls st)) := by
  subst hp hck hcs
  obtain ⟨cx, vm0, locs, Y, N, eT, hS, hZ, hown, hE, hC, hU, hWn⟩ := X
  obtain ⟨a1, hEL⟩ := cx.2.2.2.2.2.2
  obtain ⟨v, vm₁, B, -, Y', h2, hg, ⟨L, q1, q2, q3, q4, q5, q6, q7, q8⟩, stp⟩ := Y.specialBackS cx.1 (own := own) (index := ix) (y := y) hy1 hown (mvT (s := s.setVm vm0) hZ w1) (mvT (s := s.setVm vm0) hZ w2) (mvT (s := s.setVm vm0) hZ w4) hy
    (backC (W := W) hM hZ w4 w3 hf hl hEL hE hC.1 fun x hx => hU x (hus x hx)) (g := mkF m pc Ls st) rfl (by rw [cx.2.2.1]; exact hsize) (Steps.refl _) (a := a) (argsL := argsL) (rest := rest) (lenOf hpd hlen) hst (by show 2 * 0 + _ ≤ _; omega) (hb cx.2.1 hd)
    (fun _ _ => ⟨has, eT, hc, hs⟩)
  exact (K v B.U B.U.heap (St.back cx N hS hZ hown hC hU hWn Y' h2 (by rw [← eT]; exact hg) q2 q3 q4 q5 q6 q7 q8) q1).step fun t k => stp.trans k
theorem nfSel {C : String} {y : MethodName} (w : (Jvm.Cond.selects C y y).before a0 Z = true) : ∀ s' : State, Z.Warmed39 s'.vm → NotFace s' y := fun s' hZ => notFace_of_selects (args := #[]) (mvT (s := s') hZ w)
theorem g_callV (X : St p l e R s m args below meth c own bytes maxL ret nm Z EL nw us T h cells slots) {C : String} {y z : MethodName} {cb : ByteArray} {cm : Nat} {cr : Option FieldType} {rm : Room} {as' : Array Value} {us' : List Addr} {Qc : Option Value → Heap → Prop} {ix : Nat}
    (w1 : (Jvm.Cond.methodLink own ix y).before a0 Z = true) (w2 : (Jvm.Cond.declares y).before a0 Z = true) (w3 : (Jvm.Cond.selects C y z).before a0 Z = true) (w4 : (Jvm.Cond.instanceMethod z).before a0 Z = true) (w5 : (Jvm.Cond.initialized z.cls).before a0 Z = true) (w6 : (Jvm.Cond.code z cb cm cr).before a0 Z = true)
    (hnf : ∀ s' : State, Z.Warmed39 s'.vm → NotFace s' y) (hy : y.cls ≠ "java/lang/invoke/MethodHandle" ∧ y.cls ≠ "java/lang/invoke/VarHandle") {a : Addr} (Ex : Exa Z h a C) (hM : Ctr l Z EL nw z cb cm cr rm as' h us' Qc) (hus : ∀ x ∈ us', x ∈ us)
    {argsL rest : List Value} {ps : List FieldType} {rt : Option FieldType} (hpd : parseMethodDescriptor y.desc = some ⟨ps, rt⟩) (hlen : argsL.length = ps.length) (has : (.ref a :: argsL).toArray = as') (hst : st = argsL.reverse ++ .ref a :: rest) (hsize : Ls.size = maxL)
    (W : Nat) (hW : (rest.map fun v => v.category).sum ≤ W) (hf : rm.frames + 1 ≤ R.frames) (hl : W + (cm + 11) + rm.locals ≤ R.locals) {ck cs : Nat} (hck : cells + rm.cells = ck) (hcs : slots + rm.slots = cs) (hc : ck ≤ R.cells) (hs : cs ≤ R.slots)
    (hd : decode bytes pc = .ok (.invokevirtual ix, 3)) (pc' : Nat) (hp : pc + 3 = pc')
    (K : ∀ v T' h', St p l e R s m args below meth c own bytes maxL ret nm Z EL nw us T' h' ck cs → Qc v h' → Goes p e below s Z EL nw Q kk nn (T'.setTop (mkF m pc' Ls (v.toList ++ rest)))) : Goes p e below s Z EL nw Q kk nn (T.setTop (mkF m pc Ls st)) := by
  subst hp hck hcs
  obtain ⟨cx, vm0, locs, Y, N, eT, hS, hZ, hown, hE, hC, hU, hWn⟩ := X
  obtain ⟨a1, hEL⟩ := cx.2.2.2.2.2.2
  obtain ⟨cq, kq, qa, qb, qc⟩ := isOf (s := s.setVm vm0) hZ eT Ex
  obtain ⟨v, vm₁, B, -, Y', h2, hg, ⟨L, q1, q2, q3, q4, q5, q6, q7, q8⟩, stp⟩ := Y.virtualBackS cx.1 (own := own) (index := ix) (y := y) (z := z) hown (mvT (s := s.setVm vm0) hZ w1) (mvT (s := s.setVm vm0) hZ w2) (hnf (s.setVm vm0) hZ) (mvT (s := s.setVm vm0) hZ w3) (mvT (s := s.setVm vm0) hZ w4) hy
    (backC (W := W) hM hZ w6 w5 hf hl hEL hE hC.1 fun x hx => hU x (hus x hx)) qa qc (g := mkF m pc Ls st) rfl (by rw [cx.2.2.1]; exact hsize) (Steps.refl _) (argsL := argsL) (rest := rest) (lenOf hpd hlen) hst (by show 2 * 0 + _ ≤ _; omega) (hb cx.2.1 hd)
    (fun _ _ => ⟨has, eT, hc, hs⟩)
  exact (K v B.U B.U.heap (St.back cx N hS hZ hown hC hU hWn Y' h2 (by rw [← eT]; exact hg) q2 q3 q4 q5 q6 q7 q8) q1).step fun t k => stp.trans k
theorem g_callSp (X : St p l e R s m args below meth c own bytes maxL ret nm Z EL nw us T h cells slots) {y : MethodName} {cb : ByteArray} {cm : Nat} {cr : Option FieldType} {rm : Room} {as' : Array Value} {us' : List Addr} {Qv : Value → Prop} {ix : Nat}
    (w1 : (Jvm.Cond.methodLink own ix y).before a0 Z = true) (w2 : (Jvm.Cond.static y).before a0 Z = true) (w3 : (Jvm.Cond.initialized y.cls).before a0 Z = true) (w4 : (Jvm.Cond.code y cb cm cr).before a0 Z = true)
    (hy : y.cls ≠ "java/lang/invoke/MethodHandle" ∧ y.cls ≠ "java/lang/invoke/VarHandle") (hM : Ctr l Z EL nw y cb cm cr rm as' h us' (PureQ h Qv)) (hus : ∀ x ∈ us', x ∈ us)
    {argsL rest : List Value} {ps : List FieldType} {rt : Option FieldType} (hpd : parseMethodDescriptor y.desc = some ⟨ps, rt⟩) (hlen : argsL.length = ps.length) (has : argsL.toArray = as') (hst : st = argsL.reverse ++ rest) (hsize : Ls.size = maxL)
    (W : Nat) (hW : (rest.map fun v => v.category).sum ≤ W) (hf : rm.frames + 1 ≤ R.frames) (hl : W + (cm + 11) + rm.locals ≤ R.locals) {ck cs : Nat} (hck : cells + rm.cells = ck) (hcs : slots + rm.slots = cs) (hc : ck ≤ R.cells) (hs : cs ≤ R.slots)
    (hd : decode bytes pc = .ok (.invokestatic ix, 3)) (pc' : Nat) (hp : pc + 3 = pc')
    (K : ∀ w T', St p l e R s m args below meth c own bytes maxL ret nm Z EL nw us T' h ck cs → Qv w → Goes p e below s Z EL nw Q kk nn (T'.setTop (mkF m pc' Ls (w :: rest)))) : Goes p e below s Z EL nw Q kk nn (T.setTop (mkF m pc Ls st)) :=
  g_callS X w1 w2 w3 w4 hy hM hus hpd hlen has hst hsize W hW hf hl hck hcs hc hs hd pc' hp (by
    intro v T' h' X' hq
    obtain ⟨rfl, w, rfl, hw⟩ := hq
    exact K w T' X' hw)
theorem g_callSv (X : St p l e R s m args below meth c own bytes maxL ret nm Z EL nw us T h cells slots) {y : MethodName} {cb : ByteArray} {cm : Nat} {cr : Option FieldType} {rm : Room} {as' : Array Value} {us' : List Addr} {Qv : Value → Heap → Prop} {ix : Nat}
    (w1 : (Jvm.Cond.methodLink own ix y).before a0 Z = true) (w2 : (Jvm.Cond.static y).before a0 Z = true) (w3 : (Jvm.Cond.initialized y.cls).before a0 Z = true) (w4 : (Jvm.Cond.code y cb cm cr).before a0 Z = true)
    (hy : y.cls ≠ "java/lang/invoke/MethodHandle" ∧ y.cls ≠ "java/lang/invoke/VarHandle") (hM : Ctr l Z EL nw y cb cm cr rm as' h us' (ValQ Qv)) (hus : ∀ x ∈ us', x ∈ us)
    {argsL rest : List Value} {ps : List FieldType} {rt : Option FieldType} (hpd : parseMethodDescriptor y.desc = some ⟨ps, rt⟩) (hlen : argsL.length = ps.length) (has : argsL.toArray = as') (hst : st = argsL.reverse ++ rest) (hsize : Ls.size = maxL)
    (W : Nat) (hW : (rest.map fun v => v.category).sum ≤ W) (hf : rm.frames + 1 ≤ R.frames) (hl : W + (cm + 11) + rm.locals ≤ R.locals) {ck cs : Nat} (hck : cells + rm.cells = ck) (hcs : slots + rm.slots = cs) (hc : ck ≤ R.cells) (hs : cs ≤ R.slots)
    (hd : decode bytes pc = .ok (.invokestatic ix, 3)) (pc' : Nat) (hp : pc + 3 = pc')
    (K : ∀ w T' h', St p l e R s m args below meth c own bytes maxL ret nm Z EL nw us T' h' ck cs → Qv w h' → Goes p e below s Z EL nw Q kk nn (T'.setTop (mkF m pc' Ls (w :: rest)))) : Goes p e below s Z EL nw Q kk nn (T.setTop (mkF m pc Ls st)) :=
  g_callS X w1 w2 w3 w4 hy hM hus hpd hlen has hst hsize W hW hf hl hck hcs hc hs hd pc' hp (by
    intro v T' h' X' hq
    obtain ⟨w, rfl, hw⟩ := hq
    exact K w T' h' X' hw)
theorem g_callSn (X : St p l e R s m args below meth c own bytes maxL ret nm Z EL nw us T h cells slots) {y : MethodName} {cb : ByteArray} {cm : Nat} {cr : Option FieldType} {rm : Room} {as' : Array Value} {us' : List Addr} {Qn : Heap → Prop} {ix : Nat}
    (w1 : (Jvm.Cond.methodLink own ix y).before a0 Z = true) (w2 : (Jvm.Cond.static y).before a0 Z = true) (w3 : (Jvm.Cond.initialized y.cls).before a0 Z = true) (w4 : (Jvm.Cond.code y cb cm cr).before a0 Z = true)
    (hy : y.cls ≠ "java/lang/invoke/MethodHandle" ∧ y.cls ≠ "java/lang/invoke/VarHandle") (hM : Ctr l Z EL nw y cb cm cr rm as' h us' (VoidQ Qn)) (hus : ∀ x ∈ us', x ∈ us)
    {argsL rest : List Value} {ps : List FieldType} {rt : Option FieldType} (hpd : parseMethodDescriptor y.desc = some ⟨ps, rt⟩) (hlen : argsL.length = ps.length) (has : argsL.toArray = as') (hst : st = argsL.reverse ++ rest) (hsize : Ls.size = maxL)
    (W : Nat) (hW : (rest.map fun v => v.category).sum ≤ W) (hf : rm.frames + 1 ≤ R.frames) (hl : W + (cm + 11) + rm.locals ≤ R.locals) {ck cs : Nat} (hck : cells + rm.cells = ck) (hcs : slots + rm.slots = cs) (hc : ck ≤ R.cells) (hs : cs ≤ R.slots)
    (hd : decode bytes pc = .ok (.invokestatic ix, 3)) (pc' : Nat) (hp : pc + 3 = pc')
    (K : ∀ T' h', St p l e R s m args below meth c own bytes maxL ret nm Z EL nw us T' h' ck cs → Qn h' → Goes p e below s Z EL nw Q kk nn (T'.setTop (mkF m pc' Ls rest))) : Goes p e below s Z EL nw Q kk nn (T.setTop (mkF m pc Ls st)) :=
  g_callS X w1 w2 w3 w4 hy hM hus hpd hlen has hst hsize W hW hf hl hck hcs hc hs hd pc' hp (by
    intro v T' h' X' hq
    obtain ⟨rfl, hw⟩ := hq
    exact K T' h' X' hw)
theorem g_callIn (X : St p l e R s m args below meth c own bytes maxL ret nm Z EL nw us T h cells slots) {y : MethodName} {cb : ByteArray} {cm : Nat} {rm : Room} {as' : Array Value} {us' : List Addr} {Qn : Heap → Prop} {ix : Nat} (hy1 : y.name = "<init>")
    (w1 : (Jvm.Cond.methodLink own ix y).before a0 Z = true) (w2 : (Jvm.Cond.instanceMethod y).before a0 Z = true) (w3 : (Jvm.Cond.initialized y.cls).before a0 Z = true) (w4 : (Jvm.Cond.code y cb cm none).before a0 Z = true)
    (hy : y.cls ≠ "java/lang/invoke/MethodHandle" ∧ y.cls ≠ "java/lang/invoke/VarHandle") (hM : Ctr l Z EL nw y cb cm none rm as' h us' (VoidQ Qn)) (hus : ∀ x ∈ us', x ∈ us)
    {a : Addr} {argsL rest : List Value} {ps : List FieldType} {rt : Option FieldType} (hpd : parseMethodDescriptor y.desc = some ⟨ps, rt⟩) (hlen : argsL.length = ps.length) (has : (.ref a :: argsL).toArray = as') (hst : st = argsL.reverse ++ .ref a :: rest) (hsize : Ls.size = maxL)
    (W : Nat) (hW : (rest.map fun v => v.category).sum ≤ W) (hf : rm.frames + 1 ≤ R.frames) (hl : W + (cm + 11) + rm.locals ≤ R.locals) {ck cs : Nat} (hck : cells + rm.cells = ck) (hcs : slots + rm.slots = cs) (hc : ck ≤ R.cells) (hs : cs ≤ R.slots)
    (hd : decode bytes pc = .ok (.invokespecial ix, 3)) (pc' : Nat) (hp : pc + 3 = pc')
    (K : ∀ T' h', St p l e R s m args below meth c own bytes maxL ret nm Z EL nw us T' h' ck cs → Qn h' → Goes p e below s Z EL nw Q kk nn (T'.setTop (mkF m pc' Ls rest))) : Goes p e below s Z EL nw Q kk nn (T.setTop (mkF m pc Ls st)) :=
  g_callI X hy1 w1 w2 w3 w4 hy hM hus hpd hlen has hst hsize W hW hf hl hck hcs hc hs hd pc' hp (by
    intro v T' h' X' hq
    obtain ⟨rfl, hw⟩ := hq
    exact K T' h' X' hw)
theorem g_callVp (X : St p l e R s m args below meth c own bytes maxL ret nm Z EL nw us T h cells slots) {C : String} {y z : MethodName} {cb : ByteArray} {cm : Nat} {cr : Option FieldType} {rm : Room} {as' : Array Value} {us' : List Addr} {Qv : Value → Prop} {ix : Nat}
    (w1 : (Jvm.Cond.methodLink own ix y).before a0 Z = true) (w2 : (Jvm.Cond.declares y).before a0 Z = true) (w3 : (Jvm.Cond.selects C y z).before a0 Z = true) (w4 : (Jvm.Cond.instanceMethod z).before a0 Z = true) (w5 : (Jvm.Cond.initialized z.cls).before a0 Z = true) (w6 : (Jvm.Cond.code z cb cm cr).before a0 Z = true)
    (hnf : ∀ s' : State, Z.Warmed39 s'.vm → NotFace s' y) (hy : y.cls ≠ "java/lang/invoke/MethodHandle" ∧ y.cls ≠ "java/lang/invoke/VarHandle") {a : Addr} (Ex : Exa Z h a C) (hM : Ctr l Z EL nw z cb cm cr rm as' h us' (PureQ h Qv)) (hus : ∀ x ∈ us', x ∈ us)
    {argsL rest : List Value} {ps : List FieldType} {rt : Option FieldType} (hpd : parseMethodDescriptor y.desc = some ⟨ps, rt⟩) (hlen : argsL.length = ps.length) (has : (.ref a :: argsL).toArray = as') (hst : st = argsL.reverse ++ .ref a :: rest) (hsize : Ls.size = maxL)
    (W : Nat) (hW : (rest.map fun v => v.category).sum ≤ W) (hf : rm.frames + 1 ≤ R.frames) (hl : W + (cm + 11) + rm.locals ≤ R.locals) {ck cs : Nat} (hck : cells + rm.cells = ck) (hcs : slots + rm.slots = cs) (hc : ck ≤ R.cells) (hs : cs ≤ R.slots)
    (hd : decode bytes pc = .ok (.invokevirtual ix, 3)) (pc' : Nat) (hp : pc + 3 = pc')
    (K : ∀ w T', St p l e R s m args below meth c own bytes maxL ret nm Z EL nw us T' h ck cs → Qv w → Goes p e below s Z EL nw Q kk nn (T'.setTop (mkF m pc' Ls (w :: rest)))) : Goes p e below s Z EL nw Q kk nn (T.setTop (mkF m pc Ls st)) :=
  g_callV X w1 w2 w3 w4 w5 w6 hnf hy Ex hM hus hpd hlen has hst hsize W hW hf hl hck hcs hc hs hd pc' hp (by
    intro v T' h' X' hq
    obtain ⟨rfl, w, rfl, hw⟩ := hq
    exact K w T' X' hw)
theorem g_callVv (X : St p l e R s m args below meth c own bytes maxL ret nm Z EL nw us T h cells slots) {C : String} {y z : MethodName} {cb : ByteArray} {cm : Nat} {cr : Option FieldType} {rm : Room} {as' : Array Value} {us' : List Addr} {Qv : Value → Heap → Prop} {ix : Nat}
    (w1 : (Jvm.Cond.methodLink own ix y).before a0 Z = true) (w2 : (Jvm.Cond.declares y).before a0 Z = true) (w3 : (Jvm.Cond.selects C y z).before a0 Z = true) (w4 : (Jvm.Cond.instanceMethod z).before a0 Z = true) (w5 : (Jvm.Cond.initialized z.cls).before a0 Z = true) (w6 : (Jvm.Cond.code z cb cm cr).before a0 Z = true)
    (hnf : ∀ s' : State, Z.Warmed39 s'.vm → NotFace s' y) (hy : y.cls ≠ "java/lang/invoke/MethodHandle" ∧ y.cls ≠ "java/lang/invoke/VarHandle") {a : Addr} (Ex : Exa Z h a C) (hM : Ctr l Z EL nw z cb cm cr rm as' h us' (ValQ Qv)) (hus : ∀ x ∈ us', x ∈ us)
    {argsL rest : List Value} {ps : List FieldType} {rt : Option FieldType} (hpd : parseMethodDescriptor y.desc = some ⟨ps, rt⟩) (hlen : argsL.length = ps.length) (has : (.ref a :: argsL).toArray = as') (hst : st = argsL.reverse ++ .ref a :: rest) (hsize : Ls.size = maxL)
    (W : Nat) (hW : (rest.map fun v => v.category).sum ≤ W) (hf : rm.frames + 1 ≤ R.frames) (hl : W + (cm + 11) + rm.locals ≤ R.locals) {ck cs : Nat} (hck : cells + rm.cells = ck) (hcs : slots + rm.slots = cs) (hc : ck ≤ R.cells) (hs : cs ≤ R.slots)
    (hd : decode bytes pc = .ok (.invokevirtual ix, 3)) (pc' : Nat) (hp : pc + 3 = pc')
    (K : ∀ w T' h', St p l e R s m args below meth c own bytes maxL ret nm Z EL nw us T' h' ck cs → Qv w h' → Goes p e below s Z EL nw Q kk nn (T'.setTop (mkF m pc' Ls (w :: rest)))) : Goes p e below s Z EL nw Q kk nn (T.setTop (mkF m pc Ls st)) :=
  g_callV X w1 w2 w3 w4 w5 w6 hnf hy Ex hM hus hpd hlen has hst hsize W hW hf hl hck hcs hc hs hd pc' hp (by
    intro v T' h' X' hq
    obtain ⟨w, rfl, hw⟩ := hq
    exact K w T' h' X' hw)
theorem g_callVn (X : St p l e R s m args below meth c own bytes maxL ret nm Z EL nw us T h cells slots) {C : String} {y z : MethodName} {cb : ByteArray} {cm : Nat} {cr : Option FieldType} {rm : Room} {as' : Array Value} {us' : List Addr} {Qn : Heap → Prop} {ix : Nat}
    (w1 : (Jvm.Cond.methodLink own ix y).before a0 Z = true) (w2 : (Jvm.Cond.declares y).before a0 Z = true) (w3 : (Jvm.Cond.selects C y z).before a0 Z = true) (w4 : (Jvm.Cond.instanceMethod z).before a0 Z = true) (w5 : (Jvm.Cond.initialized z.cls).before a0 Z = true) (w6 : (Jvm.Cond.code z cb cm cr).before a0 Z = true)
    (hnf : ∀ s' : State, Z.Warmed39 s'.vm → NotFace s' y) (hy : y.cls ≠ "java/lang/invoke/MethodHandle" ∧ y.cls ≠ "java/lang/invoke/VarHandle") {a : Addr} (Ex : Exa Z h a C) (hM : Ctr l Z EL nw z cb cm cr rm as' h us' (VoidQ Qn)) (hus : ∀ x ∈ us', x ∈ us)
    {argsL rest : List Value} {ps : List FieldType} {rt : Option FieldType} (hpd : parseMethodDescriptor y.desc = some ⟨ps, rt⟩) (hlen : argsL.length = ps.length) (has : (.ref a :: argsL).toArray = as') (hst : st = argsL.reverse ++ .ref a :: rest) (hsize : Ls.size = maxL)
    (W : Nat) (hW : (rest.map fun v => v.category).sum ≤ W) (hf : rm.frames + 1 ≤ R.frames) (hl : W + (cm + 11) + rm.locals ≤ R.locals) {ck cs : Nat} (hck : cells + rm.cells = ck) (hcs : slots + rm.slots = cs) (hc : ck ≤ R.cells) (hs : cs ≤ R.slots)
    (hd : decode bytes pc = .ok (.invokevirtual ix, 3)) (pc' : Nat) (hp : pc + 3 = pc')
    (K : ∀ T' h', St p l e R s m args below meth c own bytes maxL ret nm Z EL nw us T' h' ck cs → Qn h' → Goes p e below s Z EL nw Q kk nn (T'.setTop (mkF m pc' Ls rest))) : Goes p e below s Z EL nw Q kk nn (T.setTop (mkF m pc Ls st)) :=
  g_callV X w1 w2 w3 w4 w5 w6 hnf hy Ex hM hus hpd hlen has hst hsize W hW hf hl hck hcs hc hs hd pc' hp (by
    intro v T' h' X' hq
    obtain ⟨rfl, hw⟩ := hq
    exact K T' h' X' hw)
end CallOps
end Jvm.OwnKit
namespace Jvm.OwnKit
open Sem ClassFile Op Lib Jvm.Stand Jvm.Free Jvm.LawKit Jvm.RoadKit
section StartFacts
variable {args : Array Value} {s : State} {t X F : Term} {a y : Addr}
theorem own_eqr (hF : F.eval args s none [] s = some (.ref y)) (h : (Jvm.Cond.eq X F).value args s none s [] = some true) : X.eval args s none [] s = some (.ref y) := by
  obtain ⟨x, y', e1, e2, k1, k2⟩ := cmp_v (Or.inl h)
  cases hF.symm.trans e2
  have hx : x.isRef = true := by cases x <;> simp_all [Jvm.Cond.value, Value.isRef]
  have q := gotT (eq_R e1 hF hx rfl) h
  rw [e1, q]
theorem own_fldI {C n d : String} {v : Int32} (ht : t.eval args s none [] s = some (.ref a)) (h : (Jvm.Cond.eq (.field t C n d) (.int v)).value args s none s [] = some true) : Fld s s.heap a C n d (.int v) := by
  have e := eqv_i (Term.int_eval v) h
  rw [fld_at ht] at e
  exact Fld.start e
theorem own_fld0 {C n d : String} (ht : t.eval args s none [] s = some (.ref a)) (h : (Jvm.Cond.eq (.field t C n d) .null).value args s none s [] = some true) : Fld s s.heap a C n d .null := by
  have e := null_v h
  rw [fld_at ht] at e
  exact Fld.start e
theorem own_fldR {C n d : String} {F : Term} (ht : t.eval args s none [] s = some (.ref a)) (hF : F.eval args s none [] s = some (.ref y)) (h : (Jvm.Cond.eq (.field t C n d) F).value args s none s [] = some true) : Fld s s.heap a C n d (.ref y) := by
  have e := own_eqr hF h
  rw [fld_at ht] at e
  exact Fld.start e
theorem own_len {cl : Cell} {ty : FieldType} {z : Int32} (A : Arr s s.heap a cl ty) (ht : t.eval args s none [] s = some (.ref a)) (h : (Jvm.Cond.eq (.length t) (.int z)).value args s none s [] = some true) : cl.slots.size < 2 ^ 31 ∧ cl.slots.size.toInt32 = z := by
  have e := eqv_i (Term.int_eval z) h
  have ha := Arr.fin (U := s) (Vm.Alike.refl _) A
  have e2 : (Term.length t).eval args s none [] s = if cl.slots.size < 2 ^ 31 then some (.int cl.slots.size.toInt32) else none := by simp [Term.eval, ht, ha]
  rw [e2] at e
  by_cases q : cl.slots.size < 2 ^ 31
  · rw [if_pos q] at e
    exact ⟨q, Value.int.inj (Option.some.inj e)⟩
  · rw [if_neg q] at e; cases e
theorem own_elem {cl : Cell} {ty : FieldType} {j : Int32} {F : Term} (A : Arr s s.heap a cl ty) (ht : t.eval args s none [] s = some (.ref a)) (hF : F.eval args s none [] s = some (.ref y)) (h : (Jvm.Cond.eq (.elem t (.int j)) F).value args s none s [] = some true) : cl.slots[j.toNatClampNeg]? = some (.ref y) :=
  (elem_in (own_eqr hF h) ht (Term.int_eval j) A.1).2
end StartFacts
end Jvm.OwnKit
namespace Jvm.OwnKit
open Sem ClassFile Op Lib Jvm.Stand Jvm.Free Jvm.LawKit Jvm.RoadKit
/-- a String of the signs cs (each 0 to 255), apart from what is under construction -/
def Str (Z : State) (h : Heap) (us : List Addr) (a : Addr) (cs : List Int32) : Prop :=
  ∃ (t : Addr) (kb : ClassId), Exa Z h a "java/lang/String" ∧ Fld Z h a "java/lang/String" "coder" "B" (.int 0) ∧ Fld Z h a "java/lang/String" "value" "[B" (.ref t) ∧
    Arv Z h t kb .byte (Int32.ofNat cs.length) ((cs.map fun c => c.toInt8.toInt32).map Value.int) (.int 0) ∧ (∀ c ∈ cs, ¬ c < 0 ∧ ¬ (255 : Int32) < c) ∧ cs.length ≤ 4000 ∧ ∀ x ∈ us, x ≠ a ∧ x ≠ t
section StrFacts
variable {Z : State} {h h' : Heap} {us us' ws : List Addr} {a b : Addr} {cs : List Int32} {sl : Nat} {v : Value}
theorem Str.ext (F : Str Z h us a cs) (E : Ext h h') : Str Z h' us a cs := by
  obtain ⟨t, kb, h1, h2, h3, h4, h5, h6, h7⟩ := F
  exact ⟨t, kb, h1.ext E, h2.ext E, h3.ext E, h4.ext E, h5, h6, h7⟩
theorem Str.keep (F : Str Z h us a cs) (K : Keep h h' ws) (q : ∀ x ∈ ws, x ∈ us) : Str Z h' us a cs := by
  obtain ⟨t, kb, h1, h2, h3, h4, h5, h6, h7⟩ := F
  have na : a ∉ ws := fun r => (h7 a (q a r)).1 rfl
  have nt : t ∉ ws := fun r => (h7 t (q t r)).2 rfl
  exact ⟨t, kb, h1.keep K, h2.keep K na, h3.keep K na, h4.keep K nt, h5, h6, h7⟩
theorem Str.wr (F : Str Z h us a cs) (W : Wr h h' b sl v) (q : b ∈ us) : Str Z h' us a cs := F.keep (Keep.of_wr W) (fun x hx => by cases List.mem_singleton.mp hx; exact q)
theorem Str.sub (F : Str Z h us a cs) (q : ∀ x ∈ us', x ∈ us) : Str Z h us' a cs := by
  obtain ⟨t, kb, h1, h2, h3, h4, h5, h6, h7⟩ := F
  exact ⟨t, kb, h1, h2, h3, h4, h5, h6, fun x hx => h7 x (q x hx)⟩
theorem Str.grow (F : Str Z h us a cs) (E : Ext h h') (q : b = h.size) : Str Z h' (b :: us) a cs := by
  obtain ⟨t, kb, h1, h2, h3, h4, h5, h6, h7⟩ := F
  refine ⟨t, kb, h1.ext E, h2.ext E, h3.ext E, h4.ext E, h5, h6, fun x hx => ?_⟩
  rcases List.mem_cons.mp hx with rfl | hx
  · subst q; exact ⟨Nat.ne_of_gt h1.lt, Nat.ne_of_gt h4.lt⟩
  · exact h7 x hx
theorem Str.exa (F : Str Z h us a cs) : Exa Z h a "java/lang/String" := by obtain ⟨t, kb, h1, -⟩ := F; exact h1
theorem Str.lt (F : Str Z h us a cs) : a < h.size := F.exa.lt
theorem Str.ne (F : Str Z h us a cs) {x : Addr} (q : x ∈ us) : x ≠ a := by obtain ⟨t, kb, h1, h2, h3, h4, h5, h6, h7⟩ := F; exact (h7 x q).1
theorem str_of {h0 : Heap} (q : ∃ (t : Addr) (kb : ClassId), Exa Z h' a "java/lang/String" ∧ Fld Z h' a "java/lang/String" "coder" "B" (.int 0) ∧ Fld Z h' a "java/lang/String" "value" "[B" (.ref t) ∧ Arv Z h' t kb .byte (Int32.ofNat cs.length) ((cs.map fun c => c.toInt8.toInt32).map Value.int) (.int 0) ∧ (∀ c ∈ cs, ¬ c < 0 ∧ ¬ (255 : Int32) < c) ∧ cs.length ≤ 4000 ∧ h.size ≤ t)
    (hx : ∀ x ∈ us, x < h0.size) (h1 : h0.size ≤ a) (h2 : h0.size ≤ h.size) : Str Z h' us a cs := by
  obtain ⟨t, kb, e1, e2, e3, e4, e5, e6, e7⟩ := q
  exact ⟨t, kb, e1, e2, e3, e4, e5, e6, fun x q => ⟨Nat.ne_of_lt (Nat.lt_of_lt_of_le (hx x q) h1), Nat.ne_of_lt (Nat.lt_of_lt_of_le (hx x q) (Nat.le_trans h2 e7))⟩⟩
theorem and255 (x : Int32) : ¬ (x &&& 255) < 0 ∧ ¬ (255 : Int32) < (x &&& 255) := by
  have h := c_and x 255 (by decide)
  rw [Int32.lt_iff_toInt_lt, Int32.lt_iff_toInt_lt]
  have h2 : (255 : Int32).toInt = 255 := by decide
  have h3 : (0 : Int32).toInt = 0 := by decide
  omega
theorem nar255 {c : Int32} (h : ¬ c < 0 ∧ ¬ (255 : Int32) < c) : nar .char c = c := by
  obtain ⟨h1, h2⟩ := h
  have q := c_i2c c
  rw [Int32.lt_iff_toInt_lt] at h1 h2
  have e2 : (255 : Int32).toInt = 255 := by decide
  have e3 : (0 : Int32).toInt = 0 := by decide
  have : c.toUInt32.toUInt16.toUInt32.toInt32.toInt = c.toInt := by omega
  exact Int32.toInt_inj.mp this
/-- made since the heap h0: apart from whatever stood there -/
def StrN (Z : State) (h0 h : Heap) (a : Addr) (cs : List Int32) : Prop :=
  ∃ (t : Addr) (kb : ClassId), Exa Z h a "java/lang/String" ∧ Fld Z h a "java/lang/String" "coder" "B" (.int 0) ∧ Fld Z h a "java/lang/String" "value" "[B" (.ref t) ∧
    Arv Z h t kb .byte (Int32.ofNat cs.length) ((cs.map fun c => c.toInt8.toInt32).map Value.int) (.int 0) ∧ (∀ c ∈ cs, ¬ c < 0 ∧ ¬ (255 : Int32) < c) ∧ cs.length ≤ 4000 ∧ h0.size ≤ a ∧ h0.size ≤ t
theorem StrN.str {h0 : Heap} (F : StrN Z h0 h a cs) (q : ∀ x ∈ us, x < h0.size) : Str Z h us a cs := by
  obtain ⟨t, kb, h1, h2, h3, h4, h5, h6, h7, h8⟩ := F
  exact ⟨t, kb, h1, h2, h3, h4, h5, h6, fun x hx => ⟨Nat.ne_of_lt (Nat.lt_of_lt_of_le (q x hx) h7), Nat.ne_of_lt (Nat.lt_of_lt_of_le (q x hx) h8)⟩⟩
end StrFacts
section StrOps
variable {p : Program} {l : Launch} {e : Env} {R : Room} {s : State} {m : MethodId} {args : Array Value} {below : List Frame} {meth : Method} {c : Code}
  {own : String} {bytes : ByteArray} {maxL : Nat} {ret : Option FieldType} {nm : String} {Z : State} {EL : List (String × Nat)} {nw : Bool} {us : List Addr}
  {T : State} {h : Heap} {cells slots : Nat} {Q : Option Value → Heap → Prop} {kk nn : Nat} {a0 : Array Value} {pc : Nat} {Ls : Array Slot} {st : List Value}

theorem St.news (X : St p l e R s m args below meth c own bytes maxL ret nm Z EL nw us T h cells slots) : ∀ x ∈ us, x < h.size := fun x hx => (X.new hx).2
theorem lt_ofNat {n : Nat} (q : n ≤ 4000) : ¬ (Int32.ofNat n) < 0 ∧ (Int32.ofNat n).toNatClampNeg = n := by
  have h1 : (Int32.ofNat n).toInt = n := by rw [Int32.toInt_ofNat_of_lt]; omega
  exact ⟨by rw [Int32.lt_iff_toInt_lt, h1]; simp, by simp [Int32.toNatClampNeg, h1]⟩
/-- ldc of a String constant -/
theorem g_ldcS (X : St p l e R s m args below meth c own bytes maxL ret nm Z EL nw us T h cells slots) {ix : Nat} {text : String} {cs : List Int32} (hnw : nw = false) (w : (Jvm.Cond.stringLink own ix text).before a0 Z = true) (wS : ∀ a ∈ Bundle.stringAtoms, a.before a0 Z = true) (hmem : (own, ix) ∈ EL)
    (ht : (∀ c ∈ text.toList, c.toNat < 256) ∧ text.toList.map (fun c => Value.int (Jvm.Lit.byteI c.toNat.toUInt16)) = (cs.map fun c => c.toInt8.toInt32).map Value.int) (hcs : ∀ c ∈ cs, ¬ c < 0 ∧ ¬ (255 : Int32) < c) (hlen : cs.length ≤ 4000)
    (hd : decode bytes pc = .ok (.ldc ix, 2)) (n : Nat) (hn : 4 * text.toList.length ≤ n) (hbig : n ≤ 536870912) {ck cs' : Nat} (hck : cells + 2 = ck) (hcs' : slots + (n + 4) = cs') (hc : ck ≤ R.cells) (hl : cs' ≤ R.slots) (pc' : Nat) (hp : pc + 2 = pc')
    (K : ∀ a T' h', St p l e R s m args below meth c own bytes maxL ret nm Z EL nw us T' h' ck cs' → Ext h h' → Str Z h' us a cs → Goes p e below s Z EL nw Q kk nn (T'.setTop (mkF m pc' Ls (.ref a :: st)))) : Goes p e below s Z EL nw Q kk nn (T.setTop (mkF m pc Ls st)) := by
  subst hp hck hcs'
  obtain ⟨cx, vm0, locs, Y, N, eT, hS, hZ, hown, hE, hC, hU, hW⟩ := X
  obtain ⟨a1, hEL⟩ := cx.2.2.2.2.2.2
  have hl32 : ¬ (Int32.ofNat cs.length) < 0 ∧ (Int32.ofNat cs.length).toNatClampNeg = ((cs.map fun c => c.toInt8.toInt32).map Value.int).length := by
    have := lt_ofNat hlen; simpa using this
  obtain ⟨a, T', h', k1, b, k, Y', e', E, hS2, hk1, hZ', hown', q1, q2, q3, q4, q5, q6, hC', -, hsafe, stp⟩ := ldcCH Y cx.1 hZ hown w wS eT hS (Nat.le_refl _) hEL hmem hC.1 ht hl32.1 hl32.2 (g := mkF m pc Ls st) rfl (hb cx.2.1 hd) hn hbig hc hl
  have hU' : ∀ x ∈ us, Z.heap.size ≤ x ∧ x < h'.size ∧ Safe Z EL T'.vm h' x := fun x hx => ⟨(hU x hx).1, Nat.lt_of_lt_of_le (hU x hx).2.1 E.1, hC'.safe (hU x hx).2.1 (hU x hx).2.2⟩
  exact (K a T' h' ⟨cx, T'.vm, locs, Y', N, e', ⟨hS2.1, hS2.2.mono hk1⟩, hZ', hown', hE.trans E, hC.trans hC', hU', fun q => by rw [hnw] at q; cases q⟩ E ⟨b, k, q1, q2, q3, q4, hcs, hlen, fun x hx => hsafe x (hU' x hx).2.2⟩).step stp
end StrOps
end Jvm.OwnKit
namespace Jvm.OwnKit
open Sem ClassFile Op Lib Jvm.Stand Jvm.Free Jvm.LawKit Jvm.RoadKit
section Bytes
abbrev lo (c : Int32) : Int32 := c.toInt8.toInt32
abbrev bys (cs : List Int32) : List Value := (cs.map fun c => c.toInt8.toInt32).map Value.int
theorem i0 : (0 : Int32).toInt = 0 := by decide
theorem i255 : (255 : Int32).toInt = 255 := by decide
theorem lo_mask {c : Int32} (h : ¬ c < 0 ∧ ¬ (255 : Int32) < c) : lo c &&& 255 = c := by
  obtain ⟨h1, h2⟩ := h
  rw [Int32.lt_iff_toInt_lt, i0] at h1
  rw [Int32.lt_iff_toInt_lt, i255] at h2
  have q := c_i2b c
  have r := c_mask (lo c) 255 8 (by decide) (by decide)
  apply Int32.toInt_inj.mp
  rw [r]
  have e : ((2 ^ 8 : Nat) : Int) = 256 := by decide
  rw [e]; simp only [lo]; omega
theorem lo_inj {c d : Int32} (h : ¬ c < 0 ∧ ¬ (255 : Int32) < c) (h' : ¬ d < 0 ∧ ¬ (255 : Int32) < d) (e : lo c = lo d) : c = d := by rw [← lo_mask h, ← lo_mask h', e]
theorem of_toInt {n : Nat} (h : n ≤ 4000) : (Int32.ofNat n).toInt = n := by rw [Int32.toInt_ofNat_of_lt]; omega
theorem of_nat {n : Nat} (h : n ≤ 4000) : (Int32.ofNat n).toNatClampNeg = n := by simp [Int32.toNatClampNeg, of_toInt h]
theorem of_nn {n : Nat} (h : n ≤ 4000) : ¬ Int32.ofNat n < 0 := by rw [Int32.lt_iff_toInt_lt, of_toInt h, i0]; omega
theorem of_lt {i n : Nat} (h : i < n) (hn : n ≤ 4000) : Int32.ofNat i < Int32.ofNat n := by rw [Int32.lt_iff_toInt_lt, of_toInt hn, of_toInt (by omega)]; omega
theorem of_le {i n : Nat} (h : n ≤ i) (hn : i ≤ 4000) : ¬ Int32.ofNat i < Int32.ofNat n := by rw [Int32.lt_iff_toInt_lt, of_toInt hn, of_toInt (by omega)]; omega
theorem of_succ (i : Nat) : Int32.ofNat i + 1 = Int32.ofNat (i + 1) := by simp [Int32.ofNat_add]
theorem of_eq {i n : Nat} (hi : i ≤ 4000) (hn : n ≤ 4000) (e : Int32.ofNat i = Int32.ofNat n) : i = n := by
  have := congrArg Int32.toInt e; rw [of_toInt hi, of_toInt hn] at this; omega
theorem bys_at (cs : List Int32) (i : Nat) (h : i ≤ 4000) : (bys cs).getD (Int32.ofNat i).toNatClampNeg (.int 0) = .int (lo (cs.getD i 0)) := by
  rw [of_nat h]
  by_cases q : i < cs.length
  · simp [List.getD, q]
  · have e : cs.getD i 0 = 0 := by simp [List.getD, q]
    rw [e]
    simp [List.getD, q]
    decide
theorem shr0 (x : Int32) : x >>> ((0 : Int32) &&& 31) = x := by
  apply Int32.toInt_inj.mp
  rw [c_ishr x 0 0 (by decide)]
  simp
theorem take_eq {cs ds : List Int32} (hl : cs.length = ds.length) (h : cs.take cs.length = ds.take cs.length) : cs = ds := by
  rw [List.take_length] at h; rw [hl, List.take_length] at h; exact h
theorem take_more {cs ds : List Int32} {i : Nat} (hi : i < cs.length) (hj : i < ds.length) (h : cs.take i = ds.take i) (e : cs.getD i 0 = ds.getD i 0) : cs.take (i + 1) = ds.take (i + 1) := by
  simp only [List.getD, List.getElem?_eq_getElem hi, List.getElem?_eq_getElem hj, Option.getD_some] at e
  rw [List.take_succ_eq_append_getElem hi, List.take_succ_eq_append_getElem hj, h, e]
theorem mem_at {cs : List Int32} {i : Nat} (hi : i < cs.length) : cs.getD i 0 ∈ cs := by
  simp [List.getD, List.getElem?_eq_getElem hi]
theorem str_inj {Z : State} {h : Heap} {us us' : List Addr} {a b : Addr} {cs ds : List Int32} (F : Str Z h us a cs) (G : Str Z h us' b ds) (q : a = b) : cs = ds := by
  subst q
  obtain ⟨t, kb, -, -, f3, f4, f5, f6, -⟩ := F
  obtain ⟨u, kb', -, -, g3, g4, g5, g6, -⟩ := G
  have e : t = u := Classical.byContradiction fun n => (Fld.ne f3 g3 (fun r => n (Value.ref.inj r))) rfl
  subst e
  have hl : cs.length = ds.length := Classical.byContradiction fun n => (arv_ne f4 g4 (Or.inl (by rw [of_nat f6, of_nat g6]; exact n))) rfl
  refine List.ext_getElem hl fun i hi hj => ?_
  have e2 : (bys cs).getD i (.int 0) = (bys ds).getD i (.int 0) := Classical.byContradiction fun n => (arv_ne f4 g4 (Or.inr ⟨i, by rw [of_nat f6]; exact hi, n⟩)) rfl
  simp [List.getD, hi, hj] at e2
  exact lo_inj (f5 _ (List.getElem_mem hi)) (g5 _ (List.getElem_mem hj)) e2
end Bytes
end Jvm.OwnKit
namespace Jvm.Pilot.@@N@@
open Jvm Jvm.ClassFile Sem Op Lib Jvm.Free Jvm.Stand Jvm.LawKit Jvm.RoadKit Bundle Jvm.OwnKit Jvm.Pilot.@@N@@.Jvm.D
def EL : List (String × Nat) := consts_1
abbrev nw : Bool := false
/-- what holds of the tables and of the JDK's statics at the start -/
def Gl (Z : State) (a0 : Array Value) : Prop := (∀ d ∈ tables_1, d.before a0 Z = true) ∧ EW Z a0 EL ∧ (∀ a ∈ Bundle.stringAtoms, a.before a0 Z = true) ∧
  (∃ zc : Int32, Sta Z Z.heap "java/lang/String" "COMPACT_STRINGS" "Z" (.int zc) ∧ ¬ zc = 0) ∧
  (∃ fm : Value, Sta Z Z.heap "jdk/internal/util/Preconditions" "SIOOBE_FORMATTER" "Ljava/util/function/BiFunction;" fm ∧ fm.isRef = true)
theorem pd_0 : parseMethodDescriptor "(I)Lcom/example/thalwil/thalwil/KeyEquality;" = some ⟨[.int], (some (.object "com/example/thalwil/thalwil/KeyEquality"))⟩ := by decide +kernel
theorem pd_1 : parseMethodDescriptor "(Ljava/lang/Object;)Ljava/lang/Object;" = some ⟨[(.object "java/lang/Object")], (some (.object "java/lang/Object"))⟩ := by decide +kernel
theorem pd_2 : parseMethodDescriptor "(II)Ljava/lang/String;" = some ⟨[.int, .int], (some (.object "java/lang/String"))⟩ := by decide +kernel
theorem pd_3 : parseMethodDescriptor "(III)V" = some ⟨[.int, .int, .int], none⟩ := by decide +kernel
theorem pd_4 : parseMethodDescriptor "(IIILjava/util/function/BiFunction;)I" = some ⟨[.int, .int, .int, (.object "java/util/function/BiFunction")], (some .int)⟩ := by decide +kernel
theorem pd_5 : parseMethodDescriptor "()Z" = some ⟨[], (some .boolean)⟩ := by decide +kernel
theorem pd_6 : parseMethodDescriptor "()B" = some ⟨[], (some .byte)⟩ := by decide +kernel
theorem pd_7 : parseMethodDescriptor "([BII)Ljava/lang/String;" = some ⟨[(.array .byte), .int, .int], (some (.object "java/lang/String"))⟩ := by decide +kernel
theorem pd_8 : parseMethodDescriptor "([BII)[B" = some ⟨[(.array .byte), .int, .int], (some (.array .byte))⟩ := by decide +kernel
theorem pd_9 : parseMethodDescriptor "(II)V" = some ⟨[.int, .int], none⟩ := by decide +kernel
theorem pd_10 : parseMethodDescriptor "(II)I" = some ⟨[.int, .int], (some .int)⟩ := by decide +kernel
theorem pd_11 : parseMethodDescriptor "([BB)V" = some ⟨[(.array .byte), .byte], none⟩ := by decide +kernel
theorem pd_12 : parseMethodDescriptor "()I" = some ⟨[], (some .int)⟩ := by decide +kernel
theorem pd_13 : parseMethodDescriptor "(I)C" = some ⟨[.int], (some .char)⟩ := by decide +kernel
theorem pd_14 : parseMethodDescriptor "([BI)C" = some ⟨[(.array .byte), .int], (some .char)⟩ := by decide +kernel
theorem pd_15 : parseMethodDescriptor "(IILjava/util/function/BiFunction;)I" = some ⟨[.int, .int, (.object "java/util/function/BiFunction")], (some .int)⟩ := by decide +kernel
theorem pd_16 : parseMethodDescriptor "(Ljava/lang/Object;)Z" = some ⟨[(.object "java/lang/Object")], (some .boolean)⟩ := by decide +kernel
theorem pd_17 : parseMethodDescriptor "([B[B)Z" = some ⟨[(.array .byte), (.array .byte)], (some .boolean)⟩ := by decide +kernel
theorem d4_0 : decode jdk_42_method_152_code 0 = .ok (.getstatic 38, 3) := by decide +kernel
theorem d4_3 : decode jdk_42_method_152_code 3 = .ok (.ifCond .eq 10, 3) := by decide +kernel
theorem d4_6 : decode jdk_42_method_152_code 6 = .ok (.aload_n 0, 1) := by decide +kernel
theorem d4_7 : decode jdk_42_method_152_code 7 = .ok (.getfield 15, 3) := by decide +kernel
theorem d4_10 : decode jdk_42_method_152_code 10 = .ok (.goto 4, 3) := by decide +kernel
theorem d4_13 : decode jdk_42_method_152_code 13 = .ok (.iconst 1, 1) := by decide +kernel
theorem d4_14 : decode jdk_42_method_152_code 14 = .ok (.ireturn, 1) := by decide +kernel
theorem pn_0 : plainName "java/lang/String" = true := by first | (simp [plainName, overriddenIn]; done) | decide +kernel
set_option maxRecDepth 65536 in
set_option maxHeartbeats 40000000 in
theorem c_cod (l : Launch) (Z : State) (a0 : Array Value) (G : Gl Z a0) (a : Addr) (h : Heap) (C : Fld Z h a "java/lang/String" "coder" "B" (.int (0 : Int32))) :
    Ctr l Z EL nw (⟨"java/lang/String", "coder", "()B"⟩ : MethodName) jdk_42_method_152_code 1 (Option.some Jvm.ClassFile.FieldType.byte) ({ frames := 0, cells := 0, slots := 0, locals := 0 } : Room) #[.ref a] h [] (PureQ h fun w => w = .int 0) := by
  obtain ⟨hw, hEL, hSA, ⟨zc, SC, hz⟩, ⟨fm, SF, hfm⟩⟩ := id G
  refine Ctr.enter (own := "java/lang/String") (nm := "coder") rfl rfl hEL (plainFor_of_name pn_0) #[.val (.ref a)] (fun m => by first | rfl | (simp [entryFrame, mkF, argsToLocals, Value.category, maxLocals]; done)) ?_
  intro p e s m below meth c T X
  refine g_getS X (Or.inl (hw _ (List.mem_of_getElem? (i := 35) rfl))) (host := "") Via.refl (SC.ext X.old) d4_0 3 rfl ?_
  intro T1 X2
  refine g_ifNo X2 d4_3 (XT.ii_eq_f hz) 6 rfl ?_
  refine g_aloadN X2 d4_6 rfl rfl 7 rfl ?_
  refine g_getF X2 (Or.inl (hw _ (List.mem_of_getElem? (i := 36) rfl))) (host := "") Via.refl C d4_7 10 rfl ?_
  intro T3 X4
  refine g_goto X4 d4_10 14 (by decide) (by decide) ?_
  exact g_retN X4 (t := .byte) rfl (by simp) d4_14 _ rfl (by decide) (by decide) ⟨rfl, _, rfl, rfl⟩
theorem d6_0 : decode jdk_42_method_154_code 0 = .ok (.getstatic 38, 3) := by decide +kernel
theorem d6_3 : decode jdk_42_method_154_code 3 = .ok (.ifCond .eq 14, 3) := by decide +kernel
theorem d6_6 : decode jdk_42_method_154_code 6 = .ok (.aload_n 0, 1) := by decide +kernel
theorem d6_7 : decode jdk_42_method_154_code 7 = .ok (.getfield 15, 3) := by decide +kernel
theorem d6_10 : decode jdk_42_method_154_code 10 = .ok (.ifCond .ne 7, 3) := by decide +kernel
theorem d6_13 : decode jdk_42_method_154_code 13 = .ok (.iconst 1, 1) := by decide +kernel
theorem d6_14 : decode jdk_42_method_154_code 14 = .ok (.goto 4, 3) := by decide +kernel
theorem d6_17 : decode jdk_42_method_154_code 17 = .ok (.iconst 0, 1) := by decide +kernel
theorem d6_18 : decode jdk_42_method_154_code 18 = .ok (.ireturn, 1) := by decide +kernel
set_option maxRecDepth 65536 in
set_option maxHeartbeats 40000000 in
theorem c_isl (l : Launch) (Z : State) (a0 : Array Value) (G : Gl Z a0) (a : Addr) (h : Heap) (C : Fld Z h a "java/lang/String" "coder" "B" (.int (0 : Int32))) :
    Ctr l Z EL nw (⟨"java/lang/String", "isLatin1", "()Z"⟩ : MethodName) jdk_42_method_154_code 1 (Option.some Jvm.ClassFile.FieldType.boolean) ({ frames := 0, cells := 0, slots := 0, locals := 0 } : Room) #[.ref a] h [] (PureQ h fun w => w = .int 1) := by
  obtain ⟨hw, hEL, hSA, ⟨zc, SC, hz⟩, ⟨fm, SF, hfm⟩⟩ := id G
  refine Ctr.enter (own := "java/lang/String") (nm := "isLatin1") rfl rfl hEL (plainFor_of_name pn_0) #[.val (.ref a)] (fun m => by first | rfl | (simp [entryFrame, mkF, argsToLocals, Value.category, maxLocals]; done)) ?_
  intro p e s m below meth c T X
  refine g_getS X (Or.inl (hw _ (List.mem_of_getElem? (i := 35) rfl))) (host := "") Via.refl (SC.ext X.old) d6_0 3 rfl ?_
  intro T1 X2
  refine g_ifNo X2 d6_3 (XT.ii_eq_f hz) 6 rfl ?_
  refine g_aloadN X2 d6_6 rfl rfl 7 rfl ?_
  refine g_getF X2 (Or.inl (hw _ (List.mem_of_getElem? (i := 36) rfl))) (host := "") Via.refl C d6_7 10 rfl ?_
  intro T3 X4
  refine g_ifNo X4 d6_10 (XT.ii_ne_f (by decide)) 13 rfl ?_
  refine g_iconst X4 (1 : Int32) d6_13 (by decide) 14 rfl ?_
  refine g_goto X4 d6_14 18 (by decide) (by decide) ?_
  exact g_retN X4 (t := .boolean) rfl (by simp) d6_18 _ rfl (by decide) (by decide) ⟨rfl, _, rfl, rfl⟩
theorem d3_0 : decode jdk_42_method_54_code 0 = .ok (.aload_n 0, 1) := by decide +kernel
theorem d3_1 : decode jdk_42_method_54_code 1 = .ok (.getfield 9, 3) := by decide +kernel
theorem d3_4 : decode jdk_42_method_54_code 4 = .ok (.arraylength, 1) := by decide +kernel
theorem d3_5 : decode jdk_42_method_54_code 5 = .ok (.aload_n 0, 1) := by decide +kernel
theorem d3_6 : decode jdk_42_method_54_code 6 = .ok (.invokevirtual 335, 3) := by decide +kernel
theorem d3_9 : decode jdk_42_method_54_code 9 = .ok (.ishr, 1) := by decide +kernel
theorem d3_10 : decode jdk_42_method_54_code 10 = .ok (.ireturn, 1) := by decide +kernel
set_option maxRecDepth 65536 in
set_option maxHeartbeats 40000000 in
theorem c_len (l : Launch) (Z : State) (a0 : Array Value) (G : Gl Z a0) (a t : Addr) (kb : ClassId) (cs : List Int32) (h : Heap) (E : Exa Z h a "java/lang/String") (C : Fld Z h a "java/lang/String" "coder" "B" (.int (0 : Int32))) (V : Fld Z h a "java/lang/String" "value" "[B" (.ref t)) (A : Arv Z h t kb .byte (Int32.ofNat cs.length) (bys cs) (.int (0 : Int32))) (hcs : ∀ c ∈ cs, ¬ c < 0 ∧ ¬ (255 : Int32) < c) (hlen : cs.length ≤ 4000) :
    Ctr l Z EL nw (⟨"java/lang/String", "length", "()I"⟩ : MethodName) jdk_42_method_54_code 1 (Option.some Jvm.ClassFile.FieldType.int) ({ frames := 1, cells := 0, slots := 0, locals := 13 } : Room) #[.ref a] h [] (PureQ h fun w => w = .int (Int32.ofNat cs.length)) := by
  obtain ⟨hw, hEL, hSA, ⟨zc, SC, hz⟩, ⟨fm, SF, hfm⟩⟩ := id G
  refine Ctr.enter (own := "java/lang/String") (nm := "length") rfl rfl hEL (plainFor_of_name pn_0) #[.val (.ref a)] (fun m => by first | rfl | (simp [entryFrame, mkF, argsToLocals, Value.category, maxLocals]; done)) ?_
  intro p e s m below meth c T X
  refine g_aloadN X d3_0 rfl rfl 1 rfl ?_
  refine g_getF X (Or.inl (hw _ (List.mem_of_getElem? (i := 29) rfl))) (host := "") Via.refl V d3_1 4 rfl ?_
  intro T1 X2
  refine g_arrlen X2 A d3_4 5 rfl ?_
  refine g_aloadN X2 d3_5 rfl rfl 6 rfl ?_
  refine g_callVp X2 (hw _ (List.mem_of_getElem? (i := 30) rfl)) (hw _ (List.mem_of_getElem? (i := 31) rfl)) (hw _ (List.mem_of_getElem? (i := 33) rfl)) (hw _ (List.mem_of_getElem? (i := 32) rfl)) (hw _ (List.mem_of_getElem? (i := 8) rfl)) (hw _ (List.mem_of_getElem? (i := 34) rfl)) (nfSel (hw _ (List.mem_of_getElem? (i := 33) rfl))) (by decide) E (c_cod l Z a0 G a h C) (by simp) (argsL := []) (rest := [.int (Int32.ofNat cs.length)]) pd_6 rfl rfl rfl rfl 1 (Nat.le_of_eq rfl) (by decide) (by decide) (ck := 0) rfl (cs := 0) rfl (by decide) (by decide) d3_6 9 rfl ?_
  intro w5 T3 X4 hq6
  subst hq6
  refine g_ishr X4 d3_9 (Int32.ofNat cs.length) (shr0 _) 10 rfl ?_
  exact g_retI X4 rfl d3_10 (by decide) (by decide) ⟨rfl, _, rfl, rfl⟩
theorem d9_0 : decode jdk_41_method_11_code 0 = .ok (.iload_n 0, 1) := by decide +kernel
theorem d9_1 : decode jdk_41_method_11_code 1 = .ok (.ifCond .lt 8, 3) := by decide +kernel
theorem d9_4 : decode jdk_41_method_11_code 4 = .ok (.iload_n 0, 1) := by decide +kernel
theorem d9_5 : decode jdk_41_method_11_code 5 = .ok (.iload_n 1, 1) := by decide +kernel
theorem d9_6 : decode jdk_41_method_11_code 6 = .ok (.if_icmp .lt 10, 3) := by decide +kernel
theorem d9_9 : decode jdk_41_method_11_code 9 = .ok (.aload_n 2, 1) := by decide +kernel
theorem d9_10 : decode jdk_41_method_11_code 10 = .ok (.iload_n 0, 1) := by decide +kernel
theorem d9_11 : decode jdk_41_method_11_code 11 = .ok (.iload_n 1, 1) := by decide +kernel
theorem d9_12 : decode jdk_41_method_11_code 12 = .ok (.invokestatic 95, 3) := by decide +kernel
theorem d9_15 : decode jdk_41_method_11_code 15 = .ok (.athrow, 1) := by decide +kernel
theorem d9_16 : decode jdk_41_method_11_code 16 = .ok (.iload_n 0, 1) := by decide +kernel
theorem d9_17 : decode jdk_41_method_11_code 17 = .ok (.ireturn, 1) := by decide +kernel
theorem pn_1 : plainName "jdk/internal/util/Preconditions" = true := by first | (simp [plainName, overriddenIn]; done) | decide +kernel
set_option maxRecDepth 65536 in
set_option maxHeartbeats 40000000 in
theorem c_pci (l : Launch) (Z : State) (a0 : Array Value) (G : Gl Z a0) (i n : Int32) (v : Value) (h : Heap) (hv : v.isRef = true) (h0 : ¬ i < (0 : Int32)) (h1 : i < n) :
    Ctr l Z EL nw (⟨"jdk/internal/util/Preconditions", "checkIndex", "(IILjava/util/function/BiFunction;)I"⟩ : MethodName) jdk_41_method_11_code 3 (Option.some Jvm.ClassFile.FieldType.int) ({ frames := 0, cells := 0, slots := 0, locals := 0 } : Room) #[.int i, .int n, v] h [] (PureQ h fun w => w = .int i) := by
  obtain ⟨hw, hEL, hSA, ⟨zc, SC, hz⟩, ⟨fm, SF, hfm⟩⟩ := id G
  refine Ctr.enter (own := "jdk/internal/util/Preconditions") (nm := "checkIndex") rfl rfl hEL (plainFor_of_name pn_1) #[.val (.int i), .val (.int n), .val (v)] (fun m => by rcases ref_cases hv with rfl | ⟨r, rfl⟩ <;> rfl) ?_
  intro p e s m below meth c T X
  refine g_iloadN X d9_0 rfl 1 rfl ?_
  refine g_ifNo X d9_1 (XT.ii_lt_f h0) 4 rfl ?_
  refine g_iloadN X d9_4 rfl 5 rfl ?_
  refine g_iloadN X d9_5 rfl 6 rfl ?_
  refine g_icmpYes X d9_6 (XT.ii_lt_t h1) 16 (by decide) (by decide) ?_
  refine g_iloadN X d9_16 rfl 17 rfl ?_
  exact g_retI X rfl d9_17 (by decide) (by decide) ⟨rfl, _, rfl, rfl⟩
theorem d8_0 : decode jdk_42_method_155_code 0 = .ok (.iload_n 0, 1) := by decide +kernel
theorem d8_1 : decode jdk_42_method_155_code 1 = .ok (.iload_n 1, 1) := by decide +kernel
theorem d8_2 : decode jdk_42_method_155_code 2 = .ok (.getstatic 1053, 3) := by decide +kernel
theorem d8_5 : decode jdk_42_method_155_code 5 = .ok (.invokestatic 1059, 3) := by decide +kernel
theorem d8_8 : decode jdk_42_method_155_code 8 = .ok (.pop, 1) := by decide +kernel
theorem d8_9 : decode jdk_42_method_155_code 9 = .ok (.return_, 1) := by decide +kernel
set_option maxRecDepth 65536 in
set_option maxHeartbeats 40000000 in
theorem c_ci (l : Launch) (Z : State) (a0 : Array Value) (G : Gl Z a0) (i n : Int32) (h : Heap) (h0 : ¬ i < (0 : Int32)) (h1 : i < n) :
    Ctr l Z EL nw (⟨"java/lang/String", "checkIndex", "(II)V"⟩ : MethodName) jdk_42_method_155_code 2 (Option.none : Option Jvm.ClassFile.FieldType) ({ frames := 1, cells := 0, slots := 0, locals := 14 } : Room) #[.int i, .int n] h [] (VoidQ fun h' => h = h') := by
  obtain ⟨hw, hEL, hSA, ⟨zc, SC, hz⟩, ⟨fm, SF, hfm⟩⟩ := id G
  refine Ctr.enter (own := "java/lang/String") (nm := "checkIndex") rfl rfl hEL (plainFor_of_name pn_0) #[.val (.int i), .val (.int n)] (fun m => by first | rfl | (simp [entryFrame, mkF, argsToLocals, Value.category, maxLocals]; done)) ?_
  intro p e s m below meth c T X
  refine g_iloadN X d8_0 rfl 1 rfl ?_
  refine g_iloadN X d8_1 rfl 2 rfl ?_
  refine g_getS X (Or.inl (hw _ (List.mem_of_getElem? (i := 54) rfl))) (host := "") Via.refl (SF.ext X.old) d8_2 5 rfl ?_
  intro T1 X2
  refine g_callSp X2 (hw _ (List.mem_of_getElem? (i := 56) rfl)) (hw _ (List.mem_of_getElem? (i := 57) rfl)) (hw _ (List.mem_of_getElem? (i := 55) rfl)) (hw _ (List.mem_of_getElem? (i := 58) rfl)) (by decide) (c_pci l Z a0 G i n fm h hfm h0 h1) (by simp) (argsL := [.int i, .int n, fm]) (rest := []) pd_15 rfl rfl rfl rfl 0 (Nat.le_of_eq rfl) (by decide) (by decide) (ck := 0) rfl (cs := 0) rfl (by decide) (by decide) d8_5 8 rfl ?_
  intro w5 T3 X4 hq6
  subst hq6
  refine g_pop X4 d8_8 rfl 9 rfl ?_
  exact g_ret X4 rfl d8_9 (by decide) (by decide) ⟨rfl, rfl⟩
theorem d7_0 : decode jdk_43_method_2_code 0 = .ok (.iload_n 1, 1) := by decide +kernel
theorem d7_1 : decode jdk_43_method_2_code 1 = .ok (.aload_n 0, 1) := by decide +kernel
theorem d7_2 : decode jdk_43_method_2_code 2 = .ok (.arraylength, 1) := by decide +kernel
theorem d7_3 : decode jdk_43_method_2_code 3 = .ok (.invokestatic 9, 3) := by decide +kernel
theorem d7_6 : decode jdk_43_method_2_code 6 = .ok (.aload_n 0, 1) := by decide +kernel
theorem d7_7 : decode jdk_43_method_2_code 7 = .ok (.iload_n 1, 1) := by decide +kernel
theorem d7_8 : decode jdk_43_method_2_code 8 = .ok (.baload, 1) := by decide +kernel
theorem d7_9 : decode jdk_43_method_2_code 9 = .ok (.sipush 255, 3) := by decide +kernel
theorem d7_12 : decode jdk_43_method_2_code 12 = .ok (.iand, 1) := by decide +kernel
theorem d7_13 : decode jdk_43_method_2_code 13 = .ok (.i2c, 1) := by decide +kernel
theorem d7_14 : decode jdk_43_method_2_code 14 = .ok (.ireturn, 1) := by decide +kernel
theorem pn_2 : plainName "java/lang/StringLatin1" = true := by first | (simp [plainName, overriddenIn]; done) | decide +kernel
set_option maxRecDepth 65536 in
set_option maxHeartbeats 40000000 in
theorem c_lch (l : Launch) (Z : State) (a0 : Array Value) (G : Gl Z a0) (t : Addr) (kb : ClassId) (cs : List Int32) (i : Nat) (h : Heap) (A : Arv Z h t kb .byte (Int32.ofNat cs.length) (bys cs) (.int (0 : Int32))) (hcs : ∀ c ∈ cs, ¬ c < 0 ∧ ¬ (255 : Int32) < c) (hlen : cs.length ≤ 4000) (hi : i < cs.length) :
    Ctr l Z EL nw (⟨"java/lang/StringLatin1", "charAt", "([BI)C"⟩ : MethodName) jdk_43_method_2_code 2 (Option.some Jvm.ClassFile.FieldType.char) ({ frames := 2, cells := 0, slots := 0, locals := 27 } : Room) #[.ref t, .int (Int32.ofNat i)] h [] (PureQ h fun w => w = .int (cs.getD i 0)) := by
  obtain ⟨hw, hEL, hSA, ⟨zc, SC, hz⟩, ⟨fm, SF, hfm⟩⟩ := id G
  refine Ctr.enter (own := "java/lang/StringLatin1") (nm := "charAt") rfl rfl hEL (plainFor_of_name pn_2) #[.val (.ref t), .val (.int (Int32.ofNat i))] (fun m => by first | rfl | (simp [entryFrame, mkF, argsToLocals, Value.category, maxLocals]; done)) ?_
  intro p e s m below meth c T X
  refine g_iloadN X d7_0 rfl 1 rfl ?_
  refine g_aloadN X d7_1 rfl rfl 2 rfl ?_
  refine g_arrlen X A d7_2 3 rfl ?_
  refine g_callSn X (hw _ (List.mem_of_getElem? (i := 51) rfl)) (hw _ (List.mem_of_getElem? (i := 52) rfl)) (hw _ (List.mem_of_getElem? (i := 8) rfl)) (hw _ (List.mem_of_getElem? (i := 53) rfl)) (by decide) (c_ci l Z a0 G _ _ h (of_nn (by omega)) (of_lt hi hlen)) (by simp) (argsL := [.int (Int32.ofNat i), .int (Int32.ofNat cs.length)]) (rest := []) pd_9 rfl rfl rfl rfl 0 (Nat.le_of_eq rfl) (by decide) (by decide) (ck := 0) rfl (cs := 0) rfl (by decide) (by decide) d7_3 6 rfl ?_
  intro T1 h4 X2 hq3
  subst hq3
  refine g_aloadN X2 d7_6 rfl rfl 7 rfl ?_
  refine g_iloadN X2 d7_7 rfl 8 rfl ?_
  refine g_baload X2 A (of_nn (by omega)) (of_lt hi hlen) _ (bys_at cs i (by omega)) d7_8 9 rfl ?_
  refine g_sipush X2 (255 : Int32) d7_9 (by decide) 12 rfl ?_
  refine g_iand X2 d7_12 (cs.getD i 0) (lo_mask (hcs _ (mem_at hi))) 13 rfl ?_
  refine g_i2c X2 d7_13 (cs.getD i 0) (nar255 (hcs _ (mem_at hi))) 14 rfl ?_
  exact g_retN X2 (t := .char) rfl (by simp) d7_14 _ (nar255 (hcs _ (mem_at hi))) (by decide) (by decide) ⟨rfl, _, rfl, rfl⟩
theorem d5_0 : decode jdk_42_method_56_code 0 = .ok (.aload_n 0, 1) := by decide +kernel
theorem d5_1 : decode jdk_42_method_56_code 1 = .ok (.invokevirtual 492, 3) := by decide +kernel
theorem d5_4 : decode jdk_42_method_56_code 4 = .ok (.ifCond .eq 12, 3) := by decide +kernel
theorem d5_7 : decode jdk_42_method_56_code 7 = .ok (.aload_n 0, 1) := by decide +kernel
theorem d5_8 : decode jdk_42_method_56_code 8 = .ok (.getfield 9, 3) := by decide +kernel
theorem d5_11 : decode jdk_42_method_56_code 11 = .ok (.iload_n 1, 1) := by decide +kernel
theorem d5_12 : decode jdk_42_method_56_code 12 = .ok (.invokestatic 495, 3) := by decide +kernel
theorem d5_15 : decode jdk_42_method_56_code 15 = .ok (.ireturn, 1) := by decide +kernel
theorem d5_16 : decode jdk_42_method_56_code 16 = .ok (.aload_n 0, 1) := by decide +kernel
theorem d5_17 : decode jdk_42_method_56_code 17 = .ok (.getfield 9, 3) := by decide +kernel
theorem d5_20 : decode jdk_42_method_56_code 20 = .ok (.iload_n 1, 1) := by decide +kernel
theorem d5_21 : decode jdk_42_method_56_code 21 = .ok (.invokestatic 498, 3) := by decide +kernel
theorem d5_24 : decode jdk_42_method_56_code 24 = .ok (.ireturn, 1) := by decide +kernel
set_option maxRecDepth 65536 in
set_option maxHeartbeats 40000000 in
theorem c_cha (l : Launch) (Z : State) (a0 : Array Value) (G : Gl Z a0) (a t : Addr) (kb : ClassId) (cs : List Int32) (i : Nat) (h : Heap) (E : Exa Z h a "java/lang/String") (C : Fld Z h a "java/lang/String" "coder" "B" (.int (0 : Int32))) (V : Fld Z h a "java/lang/String" "value" "[B" (.ref t)) (A : Arv Z h t kb .byte (Int32.ofNat cs.length) (bys cs) (.int (0 : Int32))) (hcs : ∀ c ∈ cs, ¬ c < 0 ∧ ¬ (255 : Int32) < c) (hlen : cs.length ≤ 4000) (hi : i < cs.length) :
    Ctr l Z EL nw (⟨"java/lang/String", "charAt", "(I)C"⟩ : MethodName) jdk_42_method_56_code 2 (Option.some Jvm.ClassFile.FieldType.char) ({ frames := 3, cells := 0, slots := 0, locals := 40 } : Room) #[.ref a, .int (Int32.ofNat i)] h [] (PureQ h fun w => w = .int (cs.getD i 0)) := by
  obtain ⟨hw, hEL, hSA, ⟨zc, SC, hz⟩, ⟨fm, SF, hfm⟩⟩ := id G
  refine Ctr.enter (own := "java/lang/String") (nm := "charAt") rfl rfl hEL (plainFor_of_name pn_0) #[.val (.ref a), .val (.int (Int32.ofNat i))] (fun m => by first | rfl | (simp [entryFrame, mkF, argsToLocals, Value.category, maxLocals]; done)) ?_
  intro p e s m below meth c T X
  refine g_aloadN X d5_0 rfl rfl 1 rfl ?_
  refine g_callVp X (hw _ (List.mem_of_getElem? (i := 42) rfl)) (hw _ (List.mem_of_getElem? (i := 43) rfl)) (hw _ (List.mem_of_getElem? (i := 45) rfl)) (hw _ (List.mem_of_getElem? (i := 44) rfl)) (hw _ (List.mem_of_getElem? (i := 8) rfl)) (hw _ (List.mem_of_getElem? (i := 46) rfl)) (nfSel (hw _ (List.mem_of_getElem? (i := 45) rfl))) (by decide) E (c_isl l Z a0 G a h C) (by simp) (argsL := []) (rest := []) pd_5 rfl rfl rfl rfl 0 (Nat.le_of_eq rfl) (by decide) (by decide) (ck := 0) rfl (cs := 0) rfl (by decide) (by decide) d5_1 4 rfl ?_
  intro w3 T1 X2 hq4
  subst hq4
  refine g_ifNo X2 d5_4 (XT.ii_eq_f (by decide)) 7 rfl ?_
  refine g_aloadN X2 d5_7 rfl rfl 8 rfl ?_
  refine g_getF X2 (Or.inl (hw _ (List.mem_of_getElem? (i := 29) rfl))) (host := "") Via.refl V d5_8 11 rfl ?_
  intro T5 X6
  refine g_iloadN X6 d5_11 rfl 12 rfl ?_
  refine g_callSp X6 (hw _ (List.mem_of_getElem? (i := 47) rfl)) (hw _ (List.mem_of_getElem? (i := 48) rfl)) (hw _ (List.mem_of_getElem? (i := 49) rfl)) (hw _ (List.mem_of_getElem? (i := 50) rfl)) (by decide) (c_lch l Z a0 G t kb cs i h A hcs hlen hi) (by simp) (argsL := [.ref t, .int (Int32.ofNat i)]) (rest := []) pd_14 rfl rfl rfl rfl 0 (Nat.le_of_eq rfl) (by decide) (by decide) (ck := 0) rfl (cs := 0) rfl (by decide) (by decide) d5_12 15 rfl ?_
  intro w9 T7 X8 hq10
  subst hq10
  exact g_retN X8 (t := .char) rfl (by simp) d5_15 _ (nar255 (hcs _ (mem_at hi))) (by decide) (by decide) ⟨rfl, _, rfl, rfl⟩
theorem d21_0 : decode jdk_43_method_13_code 0 = .ok (.aload_n 0, 1) := by decide +kernel
theorem d21_1 : decode jdk_43_method_13_code 1 = .ok (.arraylength, 1) := by decide +kernel
theorem d21_2 : decode jdk_43_method_13_code 2 = .ok (.aload_n 1, 1) := by decide +kernel
theorem d21_3 : decode jdk_43_method_13_code 3 = .ok (.arraylength, 1) := by decide +kernel
theorem d21_4 : decode jdk_43_method_13_code 4 = .ok (.if_icmp .ne 30, 3) := by decide +kernel
theorem d21_7 : decode jdk_43_method_13_code 7 = .ok (.iconst 0, 1) := by decide +kernel
theorem d21_8 : decode jdk_43_method_13_code 8 = .ok (.istore_n 2, 1) := by decide +kernel
theorem d21_9 : decode jdk_43_method_13_code 9 = .ok (.iload_n 2, 1) := by decide +kernel
theorem d21_10 : decode jdk_43_method_13_code 10 = .ok (.aload_n 0, 1) := by decide +kernel
theorem d21_11 : decode jdk_43_method_13_code 11 = .ok (.arraylength, 1) := by decide +kernel
theorem d21_12 : decode jdk_43_method_13_code 12 = .ok (.if_icmp .ge 20, 3) := by decide +kernel
theorem d21_15 : decode jdk_43_method_13_code 15 = .ok (.aload_n 0, 1) := by decide +kernel
theorem d21_16 : decode jdk_43_method_13_code 16 = .ok (.iload_n 2, 1) := by decide +kernel
theorem d21_17 : decode jdk_43_method_13_code 17 = .ok (.baload, 1) := by decide +kernel
theorem d21_18 : decode jdk_43_method_13_code 18 = .ok (.aload_n 1, 1) := by decide +kernel
theorem d21_19 : decode jdk_43_method_13_code 19 = .ok (.iload_n 2, 1) := by decide +kernel
theorem d21_20 : decode jdk_43_method_13_code 20 = .ok (.baload, 1) := by decide +kernel
theorem d21_21 : decode jdk_43_method_13_code 21 = .ok (.if_icmp .eq 5, 3) := by decide +kernel
theorem d21_24 : decode jdk_43_method_13_code 24 = .ok (.iconst 0, 1) := by decide +kernel
theorem d21_25 : decode jdk_43_method_13_code 25 = .ok (.ireturn, 1) := by decide +kernel
theorem d21_26 : decode jdk_43_method_13_code 26 = .ok (.iinc 2 1, 3) := by decide +kernel
theorem d21_29 : decode jdk_43_method_13_code 29 = .ok (.goto (-20), 3) := by decide +kernel
theorem d21_32 : decode jdk_43_method_13_code 32 = .ok (.iconst 1, 1) := by decide +kernel
theorem d21_33 : decode jdk_43_method_13_code 33 = .ok (.ireturn, 1) := by decide +kernel
theorem d21_34 : decode jdk_43_method_13_code 34 = .ok (.iconst 0, 1) := by decide +kernel
theorem d21_35 : decode jdk_43_method_13_code 35 = .ok (.ireturn, 1) := by decide +kernel
set_option maxRecDepth 65536 in
set_option maxHeartbeats 40000000 in
theorem c_leq (l : Launch) (Z : State) (a0 : Array Value) (G : Gl Z a0) (t u : Addr) (kb kb' : ClassId) (cs ds : List Int32) (h : Heap) (A : Arv Z h t kb .byte (Int32.ofNat cs.length) (bys cs) (.int (0 : Int32))) (B : Arv Z h u kb' .byte (Int32.ofNat ds.length) (bys ds) (.int (0 : Int32))) (hcs : ∀ c ∈ cs, ¬ c < 0 ∧ ¬ (255 : Int32) < c) (hds : ∀ c ∈ ds, ¬ c < 0 ∧ ¬ (255 : Int32) < c) (hlen : cs.length ≤ 4000) (hlen' : ds.length ≤ 4000) :
    Ctr l Z EL nw (⟨"java/lang/StringLatin1", "equals", "([B[B)Z"⟩ : MethodName) jdk_43_method_13_code 3 (Option.some Jvm.ClassFile.FieldType.boolean) ({ frames := 0, cells := 0, slots := 0, locals := 0 } : Room) #[.ref t, .ref u] h [] (PureQ h fun w => w = .int (if cs = ds then 1 else 0)) := by
  obtain ⟨hw, hEL, hSA, ⟨zc, SC, hz⟩, ⟨fm, SF, hfm⟩⟩ := id G
  refine Ctr.enter (own := "java/lang/StringLatin1") (nm := "equals") rfl rfl hEL (plainFor_of_name pn_2) #[.val (.ref t), .val (.ref u), .unset] (fun m => by first | rfl | (simp [entryFrame, mkF, argsToLocals, Value.category, maxLocals]; done)) ?_
  intro p e s m below meth c T X
  refine g_aloadN X d21_0 rfl rfl 1 rfl ?_
  refine g_arrlen X A d21_1 2 rfl ?_
  refine g_aloadN X d21_2 rfl rfl 3 rfl ?_
  refine g_arrlen X B d21_3 4 rfl ?_
  by_cases hl : cs.length = ds.length
  · refine g_icmpNo X d21_4 (XT.ii_ne_f (by rw [hl])) 7 rfl ?_
    refine g_iconst X (0 : Int32) d21_7 (by decide) 8 rfl ?_
    refine g_istoreN X d21_8 (Ls' := #[.val (.ref t), .val (.ref u), .val (.int (0 : Int32))]) rfl 9 rfl ?_
    have loop : ∀ (k i : Nat) (T : State), St p l e ({ frames := 0, cells := 0, slots := 0, locals := 0 } : Room) s m #[.ref t, .ref u] below meth c "java/lang/StringLatin1" jdk_43_method_13_code 3 ((Option.some Jvm.ClassFile.FieldType.boolean)) "equals" Z EL nw [] T h 0 0 → i + k = cs.length → cs.take i = ds.take i → OwnKit.Goes p e below s Z EL nw (PureQ h fun w => w = .int (if cs = ds then 1 else 0)) (({ frames := 0, cells := 0, slots := 0, locals := 0 } : Room)).cells (({ frames := 0, cells := 0, slots := 0, locals := 0 } : Room)).slots (T.setTop (mkF m 9 #[.val (.ref t), .val (.ref u), .val (.int (Int32.ofNat i))] [])) := by
      intro k
      induction k with
      | zero =>
        intro i T' X' hk ht
        have e1 : cs.take cs.length = ds.take cs.length := by rw [← hk]; exact ht
        refine g_iloadN X' d21_9 rfl 10 rfl ?_
        refine g_aloadN X' d21_10 rfl rfl 11 rfl ?_
        refine g_arrlen X' A d21_11 12 rfl ?_
        refine g_icmpYes X' d21_12 (XT.ii_ge_t (of_le (by omega) (by omega))) 32 (by decide) (by decide) ?_
        refine g_iconst X' (1 : Int32) d21_32 (by decide) 33 rfl ?_
        exact g_retN X' (t := .boolean) rfl (by simp) d21_33 _ rfl (by decide) (by decide) ⟨rfl, _, rfl, (by rw [if_pos (take_eq hl e1)]; rfl)⟩
      | succ k ih =>
        intro i T' X' hk ht
        have hi : i < cs.length := by omega
        refine g_iloadN X' d21_9 rfl 10 rfl ?_
        refine g_aloadN X' d21_10 rfl rfl 11 rfl ?_
        refine g_arrlen X' A d21_11 12 rfl ?_
        refine g_icmpNo X' d21_12 (XT.ii_ge_f (of_lt hi hlen)) 15 rfl ?_
        refine g_aloadN X' d21_15 rfl rfl 16 rfl ?_
        refine g_iloadN X' d21_16 rfl 17 rfl ?_
        refine g_baload X' A (of_nn (by omega)) (of_lt (by omega) (by omega)) _ (bys_at cs i (by omega)) d21_17 18 rfl ?_
        refine g_aloadN X' d21_18 rfl rfl 19 rfl ?_
        refine g_iloadN X' d21_19 rfl 20 rfl ?_
        refine g_baload X' B (of_nn (by omega)) (of_lt (by omega) (by omega)) _ (bys_at ds i (by omega)) d21_20 21 rfl ?_
        by_cases hb21 : (lo (cs.getD i 0)) = (lo (ds.getD i 0))
        · refine g_icmpYes X' d21_21 (XT.ii_eq_t hb21) 26 (by decide) (by decide) ?_
          have heq : cs.getD i 0 = ds.getD i 0 := lo_inj (hcs _ (mem_at hi)) (hds _ (mem_at (by omega))) hb21
          refine g_iinc X' d21_26 rfl (Int32.ofNat (i + 1)) (of_succ i) (Ls' := #[.val (.ref t), .val (.ref u), .val (.int (Int32.ofNat (i + 1)))]) rfl 29 rfl ?_
          refine g_goto X' d21_29 9 (by decide) (by decide) ?_
          exact ih (i + 1) T' X' (by omega) (take_more (by omega) (by omega) ht heq)
        · refine g_icmpNo X' d21_21 (XT.ii_eq_f hb21) 24 rfl ?_
          refine g_iconst X' (0 : Int32) d21_24 (by decide) 25 rfl ?_
          exact g_retN X' (t := .boolean) rfl (by simp) d21_25 _ rfl (by decide) (by decide) ⟨rfl, _, rfl, (by rw [if_neg (fun q => hb21 (by rw [q]))]; rfl)⟩
    exact loop cs.length 0 T X (by omega) rfl
  · have hl0 := hl
    refine g_icmpYes X d21_4 (XT.ii_ne_t (fun q => hl (of_eq hlen hlen' q))) 34 (by decide) (by decide) ?_
    refine g_iconst X (0 : Int32) d21_34 (by decide) 35 rfl ?_
    exact g_retN X (t := .boolean) rfl (by simp) d21_35 _ rfl (by decide) (by decide) ⟨rfl, _, rfl, (by rw [if_neg (fun q => hl0 (by rw [q]))]; rfl)⟩
theorem d20_0 : decode jdk_42_method_66_code 0 = .ok (.aload_n 0, 1) := by decide +kernel
theorem d20_1 : decode jdk_42_method_66_code 1 = .ok (.aload_n 1, 1) := by decide +kernel
theorem d20_2 : decode jdk_42_method_66_code 2 = .ok (.if_acmp .ne 5, 3) := by decide +kernel
theorem d20_5 : decode jdk_42_method_66_code 5 = .ok (.iconst 1, 1) := by decide +kernel
theorem d20_6 : decode jdk_42_method_66_code 6 = .ok (.ireturn, 1) := by decide +kernel
theorem d20_7 : decode jdk_42_method_66_code 7 = .ok (.aload_n 1, 1) := by decide +kernel
theorem d20_8 : decode jdk_42_method_66_code 8 = .ok (.instanceof 10, 3) := by decide +kernel
theorem d20_11 : decode jdk_42_method_66_code 11 = .ok (.ifCond .eq 43, 3) := by decide +kernel
theorem d20_14 : decode jdk_42_method_66_code 14 = .ok (.aload_n 1, 1) := by decide +kernel
theorem d20_15 : decode jdk_42_method_66_code 15 = .ok (.checkcast 10, 3) := by decide +kernel
theorem d20_18 : decode jdk_42_method_66_code 18 = .ok (.astore_n 2, 1) := by decide +kernel
theorem d20_19 : decode jdk_42_method_66_code 19 = .ok (.getstatic 38, 3) := by decide +kernel
theorem d20_22 : decode jdk_42_method_66_code 22 = .ok (.ifCond .eq 14, 3) := by decide +kernel
theorem d20_25 : decode jdk_42_method_66_code 25 = .ok (.aload_n 0, 1) := by decide +kernel
theorem d20_26 : decode jdk_42_method_66_code 26 = .ok (.getfield 15, 3) := by decide +kernel
theorem d20_29 : decode jdk_42_method_66_code 29 = .ok (.aload_n 2, 1) := by decide +kernel
theorem d20_30 : decode jdk_42_method_66_code 30 = .ok (.getfield 15, 3) := by decide +kernel
theorem d20_33 : decode jdk_42_method_66_code 33 = .ok (.if_icmp .ne 21, 3) := by decide +kernel
theorem d20_36 : decode jdk_42_method_66_code 36 = .ok (.aload_n 0, 1) := by decide +kernel
theorem d20_37 : decode jdk_42_method_66_code 37 = .ok (.getfield 9, 3) := by decide +kernel
theorem d20_40 : decode jdk_42_method_66_code 40 = .ok (.aload_n 2, 1) := by decide +kernel
theorem d20_41 : decode jdk_42_method_66_code 41 = .ok (.getfield 9, 3) := by decide +kernel
theorem d20_44 : decode jdk_42_method_66_code 44 = .ok (.invokestatic 541, 3) := by decide +kernel
theorem d20_47 : decode jdk_42_method_66_code 47 = .ok (.ifCond .eq 7, 3) := by decide +kernel
theorem d20_50 : decode jdk_42_method_66_code 50 = .ok (.iconst 1, 1) := by decide +kernel
theorem d20_51 : decode jdk_42_method_66_code 51 = .ok (.goto 4, 3) := by decide +kernel
theorem d20_54 : decode jdk_42_method_66_code 54 = .ok (.iconst 0, 1) := by decide +kernel
theorem d20_55 : decode jdk_42_method_66_code 55 = .ok (.ireturn, 1) := by decide +kernel
set_option maxRecDepth 65536 in
set_option maxHeartbeats 40000000 in
theorem c_seq (l : Launch) (Z : State) (a0 : Array Value) (G : Gl Z a0) (a b t u : Addr) (kb kb' : ClassId) (cs ds : List Int32) (hab : a = b → cs = ds) (h : Heap) (E : Exa Z h a "java/lang/String") (C : Fld Z h a "java/lang/String" "coder" "B" (.int (0 : Int32))) (V : Fld Z h a "java/lang/String" "value" "[B" (.ref t)) (A : Arv Z h t kb .byte (Int32.ofNat cs.length) (bys cs) (.int (0 : Int32))) (hcs : ∀ c ∈ cs, ¬ c < 0 ∧ ¬ (255 : Int32) < c) (hlen : cs.length ≤ 4000) (E' : Exa Z h b "java/lang/String") (C' : Fld Z h b "java/lang/String" "coder" "B" (.int (0 : Int32))) (V' : Fld Z h b "java/lang/String" "value" "[B" (.ref u)) (A' : Arv Z h u kb' .byte (Int32.ofNat ds.length) (bys ds) (.int (0 : Int32))) (hds : ∀ c ∈ ds, ¬ c < 0 ∧ ¬ (255 : Int32) < c) (hlen' : ds.length ≤ 4000) :
    Ctr l Z EL nw (⟨"java/lang/String", "equals", "(Ljava/lang/Object;)Z"⟩ : MethodName) jdk_42_method_66_code 3 (Option.some Jvm.ClassFile.FieldType.boolean) ({ frames := 1, cells := 0, slots := 0, locals := 14 } : Room) #[.ref a, .ref b] h [] (PureQ h fun w => w = .int (if cs = ds then 1 else 0)) := by
  obtain ⟨hw, hEL, hSA, ⟨zc, SC, hz⟩, ⟨fm, SF, hfm⟩⟩ := id G
  refine Ctr.enter (own := "java/lang/String") (nm := "equals") rfl rfl hEL (plainFor_of_name pn_0) #[.val (.ref a), .val (.ref b), .unset] (fun m => by first | rfl | (simp [entryFrame, mkF, argsToLocals, Value.category, maxLocals]; done)) ?_
  intro p e s m below meth c T X
  refine g_aloadN X d20_0 rfl rfl 1 rfl ?_
  refine g_aloadN X d20_1 rfl rfl 2 rfl ?_
  by_cases hb2 : (.ref a : Value) = .ref b
  · refine g_acmpNo X d20_2 rfl rfl (XT.aa_ne_f hb2) 5 rfl ?_
    refine g_iconst X (1 : Int32) d20_5 (by decide) 6 rfl ?_
    exact g_retN X (t := .boolean) rfl (by simp) d20_6 _ rfl (by decide) (by decide) ⟨rfl, _, rfl, (by rw [if_pos (hab (Value.ref.inj hb2))]; rfl)⟩
  · refine g_acmpYes X d20_2 rfl rfl (XT.aa_ne_t hb2) 7 (by decide) (by decide) ?_
    refine g_aloadN X d20_7 rfl rfl 8 rfl ?_
    refine g_instY X (hw _ (List.mem_of_getElem? (i := 105) rfl)) (Ins.self E') d20_8 11 rfl ?_
    intro T1 X2
    refine g_ifNo X2 d20_11 (XT.ii_eq_f (by decide)) 14 rfl ?_
    refine g_aloadN X2 d20_14 rfl rfl 15 rfl ?_
    refine g_cast X2 (hw _ (List.mem_of_getElem? (i := 105) rfl)) (Ins.self E') d20_15 18 rfl ?_
    intro T3 X4
    refine g_astoreN X4 d20_18 rfl (Ls' := #[.val (.ref a), .val (.ref b), .val (.ref b)]) rfl 19 rfl ?_
    refine g_getS X4 (Or.inl (hw _ (List.mem_of_getElem? (i := 35) rfl))) (host := "") Via.refl (SC.ext X4.old) d20_19 22 rfl ?_
    intro T5 X6
    refine g_ifNo X6 d20_22 (XT.ii_eq_f hz) 25 rfl ?_
    refine g_aloadN X6 d20_25 rfl rfl 26 rfl ?_
    refine g_getF X6 (Or.inl (hw _ (List.mem_of_getElem? (i := 36) rfl))) (host := "") Via.refl C d20_26 29 rfl ?_
    intro T7 X8
    refine g_aloadN X8 d20_29 rfl rfl 30 rfl ?_
    refine g_getF X8 (Or.inl (hw _ (List.mem_of_getElem? (i := 36) rfl))) (host := "") Via.refl C' d20_30 33 rfl ?_
    intro T9 X10
    refine g_icmpNo X10 d20_33 (XT.ii_ne_f (by decide)) 36 rfl ?_
    refine g_aloadN X10 d20_36 rfl rfl 37 rfl ?_
    refine g_getF X10 (Or.inl (hw _ (List.mem_of_getElem? (i := 29) rfl))) (host := "") Via.refl V d20_37 40 rfl ?_
    intro T11 X12
    refine g_aloadN X12 d20_40 rfl rfl 41 rfl ?_
    refine g_getF X12 (Or.inl (hw _ (List.mem_of_getElem? (i := 29) rfl))) (host := "") Via.refl V' d20_41 44 rfl ?_
    intro T13 X14
    refine g_callSp X14 (hw _ (List.mem_of_getElem? (i := 106) rfl)) (hw _ (List.mem_of_getElem? (i := 107) rfl)) (hw _ (List.mem_of_getElem? (i := 49) rfl)) (hw _ (List.mem_of_getElem? (i := 108) rfl)) (by decide) (c_leq l Z a0 G t u kb kb' cs ds h A A' hcs hds hlen hlen') (by simp) (argsL := [.ref t, .ref u]) (rest := []) pd_17 rfl rfl rfl rfl 0 (Nat.le_of_eq rfl) (by decide) (by decide) (ck := 0) rfl (cs := 0) rfl (by decide) (by decide) d20_44 47 rfl ?_
    intro w17 T15 X16 hq18
    subst hq18
    by_cases hb47 : (if cs = ds then (1 : Int32) else 0) = (0 : Int32)
    · refine g_ifYes X16 d20_47 (XT.ii_eq_t hb47) 54 (by decide) (by decide) ?_
      refine g_iconst X16 (0 : Int32) d20_54 (by decide) 55 rfl ?_
      exact g_retN X16 (t := .boolean) rfl (by simp) d20_55 _ rfl (by decide) (by decide) ⟨rfl, _, rfl, (by by_cases q : cs = ds <;> simp [q] at hb47 ⊢ <;> rfl)⟩
    · refine g_ifNo X16 d20_47 (XT.ii_eq_f hb47) 50 rfl ?_
      refine g_iconst X16 (1 : Int32) d20_50 (by decide) 51 rfl ?_
      refine g_goto X16 d20_51 55 (by decide) (by decide) ?_
      exact g_retN X16 (t := .boolean) rfl (by simp) d20_55 _ rfl (by decide) (by decide) ⟨rfl, _, rfl, (by by_cases q : cs = ds <;> simp [q] at hb47 ⊢ <;> rfl)⟩
theorem d1_0 : decode prog_14_method_4_code 0 = .ok (.iload_n 0, 1) := by decide +kernel
theorem d1_1 : decode prog_14_method_4_code 1 = .ok (.iconst 1, 1) := by decide +kernel
theorem d1_2 : decode prog_14_method_4_code 2 = .ok (.if_icmp .eq 9, 3) := by decide +kernel
theorem d1_5 : decode prog_14_method_4_code 5 = .ok (.iload_n 0, 1) := by decide +kernel
theorem d1_6 : decode prog_14_method_4_code 6 = .ok (.bipush (-15), 2) := by decide +kernel
theorem d1_8 : decode prog_14_method_4_code 8 = .ok (.if_icmp .ne 9, 3) := by decide +kernel
theorem d1_11 : decode prog_14_method_4_code 11 = .ok (.getstatic 7, 3) := by decide +kernel
theorem d1_14 : decode prog_14_method_4_code 14 = .ok (.goto 6, 3) := by decide +kernel
theorem d1_17 : decode prog_14_method_4_code 17 = .ok (.getstatic 3, 3) := by decide +kernel
theorem d1_20 : decode prog_14_method_4_code 20 = .ok (.areturn, 1) := by decide +kernel
theorem pn_3 : plainName "com/example/thalwil/thalwil/KeyEquality" = true := by first | (simp [plainName, overriddenIn]; done) | decide +kernel
set_option maxRecDepth 65536 in
set_option maxHeartbeats 40000000 in
theorem c_ofP (l : Launch) (Z : State) (a0 : Array Value) (G : Gl Z a0) (n : Int32) (bP bE : Addr) (h : Heap) (hn : n = (1 : Int32) ∨ n = (-15 : Int32)) (SP : Sta Z Z.heap "com/example/thalwil/thalwil/KeyEquality" "PADDED" "Lcom/example/thalwil/thalwil/KeyEquality;" (.ref bP)) (EP : Exa Z Z.heap bP "com/example/thalwil/thalwil/KeyEquality") (SE : Sta Z Z.heap "com/example/thalwil/thalwil/KeyEquality" "EXACT" "Lcom/example/thalwil/thalwil/KeyEquality;" (.ref bE)) (EE : Exa Z Z.heap bE "com/example/thalwil/thalwil/KeyEquality") (nPE : ¬ bP = bE) :
    Ctr l Z EL nw (⟨"com/example/thalwil/thalwil/KeyEquality", "of", "(I)Lcom/example/thalwil/thalwil/KeyEquality;"⟩ : MethodName) prog_14_method_4_code 1 (Option.some (Jvm.ClassFile.FieldType.object "com/example/thalwil/thalwil/KeyEquality")) ({ frames := 0, cells := 0, slots := 0, locals := 0 } : Room) #[.int n] h [] (PureQ h fun v => v = .ref bP) := by
  obtain ⟨hw, hEL, hSA, ⟨zc, SC, hz⟩, ⟨fm, SF, hfm⟩⟩ := id G
  refine Ctr.enter (own := "com/example/thalwil/thalwil/KeyEquality") (nm := "of") rfl rfl hEL (plainFor_of_name pn_3) #[.val (.int n)] (fun m => by first | rfl | (simp [entryFrame, mkF, argsToLocals, Value.category, maxLocals]; done)) ?_
  intro p e s m below meth c T X
  refine g_iloadN X d1_0 rfl 1 rfl ?_
  refine g_iconst X (1 : Int32) d1_1 (by decide) 2 rfl ?_
  by_cases hb2 : n = (1 : Int32)
  · refine g_icmpYes X d1_2 (XT.ii_eq_t hb2) 11 (by decide) (by decide) ?_
    refine g_getS X (Or.inl (hw _ (List.mem_of_getElem? (i := 4) rfl))) (host := "") Via.refl (SP.ext X.old) d1_11 14 rfl ?_
    intro T1 X2
    refine g_goto X2 d1_14 20 (by decide) (by decide) ?_
    exact g_retA X2 rfl rfl rfl d1_20 (by decide) (by decide) ⟨rfl, _, rfl, rfl⟩
  · refine g_icmpNo X d1_2 (XT.ii_eq_f hb2) 5 rfl ?_
    refine g_iloadN X d1_5 rfl 6 rfl ?_
    refine g_bipush X (-15 : Int32) d1_6 (by decide) 8 rfl ?_
    refine g_icmpNo X d1_8 (XT.ii_ne_f (hn.resolve_left hb2)) 11 rfl ?_
    refine g_getS X (Or.inl (hw _ (List.mem_of_getElem? (i := 4) rfl))) (host := "") Via.refl (SP.ext X.old) d1_11 14 rfl ?_
    intro T3 X4
    refine g_goto X4 d1_14 20 (by decide) (by decide) ?_
    exact g_retA X4 rfl rfl rfl d1_20 (by decide) (by decide) ⟨rfl, _, rfl, rfl⟩
set_option maxRecDepth 65536 in
set_option maxHeartbeats 40000000 in
theorem c_ofE (l : Launch) (Z : State) (a0 : Array Value) (G : Gl Z a0) (n : Int32) (bP bE : Addr) (h : Heap) (h1 : ¬ n = (1 : Int32)) (h2 : ¬ n = (-15 : Int32)) (SP : Sta Z Z.heap "com/example/thalwil/thalwil/KeyEquality" "PADDED" "Lcom/example/thalwil/thalwil/KeyEquality;" (.ref bP)) (EP : Exa Z Z.heap bP "com/example/thalwil/thalwil/KeyEquality") (SE : Sta Z Z.heap "com/example/thalwil/thalwil/KeyEquality" "EXACT" "Lcom/example/thalwil/thalwil/KeyEquality;" (.ref bE)) (EE : Exa Z Z.heap bE "com/example/thalwil/thalwil/KeyEquality") (nPE : ¬ bP = bE) :
    Ctr l Z EL nw (⟨"com/example/thalwil/thalwil/KeyEquality", "of", "(I)Lcom/example/thalwil/thalwil/KeyEquality;"⟩ : MethodName) prog_14_method_4_code 1 (Option.some (Jvm.ClassFile.FieldType.object "com/example/thalwil/thalwil/KeyEquality")) ({ frames := 0, cells := 0, slots := 0, locals := 0 } : Room) #[.int n] h [] (PureQ h fun v => v = .ref bE) := by
  obtain ⟨hw, hEL, hSA, ⟨zc, SC, hz⟩, ⟨fm, SF, hfm⟩⟩ := id G
  refine Ctr.enter (own := "com/example/thalwil/thalwil/KeyEquality") (nm := "of") rfl rfl hEL (plainFor_of_name pn_3) #[.val (.int n)] (fun m => by first | rfl | (simp [entryFrame, mkF, argsToLocals, Value.category, maxLocals]; done)) ?_
  intro p e s m below meth c T X
  refine g_iloadN X d1_0 rfl 1 rfl ?_
  refine g_iconst X (1 : Int32) d1_1 (by decide) 2 rfl ?_
  refine g_icmpNo X d1_2 (XT.ii_eq_f h1) 5 rfl ?_
  refine g_iloadN X d1_5 rfl 6 rfl ?_
  refine g_bipush X (-15 : Int32) d1_6 (by decide) 8 rfl ?_
  refine g_icmpYes X d1_8 (XT.ii_ne_t h2) 17 (by decide) (by decide) ?_
  refine g_getS X (Or.inl (hw _ (List.mem_of_getElem? (i := 20) rfl))) (host := "") Via.refl (SE.ext X.old) d1_17 20 rfl ?_
  intro T1 X2
  exact g_retA X2 rfl rfl rfl d1_20 (by decide) (by decide) ⟨rfl, _, rfl, rfl⟩
theorem d2_0 : decode prog_14_method_5_code 0 = .ok (.aload_n 0, 1) := by decide +kernel
theorem d2_1 : decode prog_14_method_5_code 1 = .ok (.getstatic 3, 3) := by decide +kernel
theorem d2_4 : decode prog_14_method_5_code 4 = .ok (.if_acmp .eq 10, 3) := by decide +kernel
theorem d2_7 : decode prog_14_method_5_code 7 = .ok (.aload_n 1, 1) := by decide +kernel
theorem d2_8 : decode prog_14_method_5_code 8 = .ok (.instanceof 31, 3) := by decide +kernel
theorem d2_11 : decode prog_14_method_5_code 11 = .ok (.ifCond .ne 5, 3) := by decide +kernel
theorem d2_14 : decode prog_14_method_5_code 14 = .ok (.aload_n 1, 1) := by decide +kernel
theorem d2_15 : decode prog_14_method_5_code 15 = .ok (.areturn, 1) := by decide +kernel
theorem d2_16 : decode prog_14_method_5_code 16 = .ok (.aload_n 1, 1) := by decide +kernel
theorem d2_17 : decode prog_14_method_5_code 17 = .ok (.checkcast 31, 3) := by decide +kernel
theorem d2_20 : decode prog_14_method_5_code 20 = .ok (.astore_n 2, 1) := by decide +kernel
theorem d2_21 : decode prog_14_method_5_code 21 = .ok (.aload_n 2, 1) := by decide +kernel
theorem d2_22 : decode prog_14_method_5_code 22 = .ok (.invokevirtual 33, 3) := by decide +kernel
theorem d2_25 : decode prog_14_method_5_code 25 = .ok (.istore_n 3, 1) := by decide +kernel
theorem d2_26 : decode prog_14_method_5_code 26 = .ok (.iload_n 3, 1) := by decide +kernel
theorem d2_27 : decode prog_14_method_5_code 27 = .ok (.ifCond .le 21, 3) := by decide +kernel
theorem d2_30 : decode prog_14_method_5_code 30 = .ok (.aload_n 2, 1) := by decide +kernel
theorem d2_31 : decode prog_14_method_5_code 31 = .ok (.iload_n 3, 1) := by decide +kernel
theorem d2_32 : decode prog_14_method_5_code 32 = .ok (.iconst 1, 1) := by decide +kernel
theorem d2_33 : decode prog_14_method_5_code 33 = .ok (.isub, 1) := by decide +kernel
theorem d2_34 : decode prog_14_method_5_code 34 = .ok (.invokevirtual 37, 3) := by decide +kernel
theorem d2_37 : decode prog_14_method_5_code 37 = .ok (.bipush 32, 2) := by decide +kernel
theorem d2_39 : decode prog_14_method_5_code 39 = .ok (.if_icmp .ne 9, 3) := by decide +kernel
theorem d2_42 : decode prog_14_method_5_code 42 = .ok (.iinc 3 (-1), 3) := by decide +kernel
theorem d2_45 : decode prog_14_method_5_code 45 = .ok (.goto (-19), 3) := by decide +kernel
theorem d2_48 : decode prog_14_method_5_code 48 = .ok (.aload_n 2, 1) := by decide +kernel
theorem d2_49 : decode prog_14_method_5_code 49 = .ok (.iconst 0, 1) := by decide +kernel
theorem d2_50 : decode prog_14_method_5_code 50 = .ok (.iload_n 3, 1) := by decide +kernel
theorem d2_51 : decode prog_14_method_5_code 51 = .ok (.invokevirtual 41, 3) := by decide +kernel
theorem d2_54 : decode prog_14_method_5_code 54 = .ok (.areturn, 1) := by decide +kernel
set_option maxRecDepth 65536 in
set_option maxHeartbeats 40000000 in
theorem c_idE (l : Launch) (Z : State) (a0 : Array Value) (G : Gl Z a0) (a bP bE : Addr) (h : Heap) (SP : Sta Z Z.heap "com/example/thalwil/thalwil/KeyEquality" "PADDED" "Lcom/example/thalwil/thalwil/KeyEquality;" (.ref bP)) (EP : Exa Z Z.heap bP "com/example/thalwil/thalwil/KeyEquality") (SE : Sta Z Z.heap "com/example/thalwil/thalwil/KeyEquality" "EXACT" "Lcom/example/thalwil/thalwil/KeyEquality;" (.ref bE)) (EE : Exa Z Z.heap bE "com/example/thalwil/thalwil/KeyEquality") (nPE : ¬ bP = bE) :
    Ctr l Z EL nw (⟨"com/example/thalwil/thalwil/KeyEquality", "identity", "(Ljava/lang/Object;)Ljava/lang/Object;"⟩ : MethodName) prog_14_method_5_code 4 (Option.some (Jvm.ClassFile.FieldType.object "java/lang/Object")) ({ frames := 0, cells := 0, slots := 0, locals := 0 } : Room) #[.ref bE, .ref a] h [] (PureQ h fun v => v = .ref a) := by
  obtain ⟨hw, hEL, hSA, ⟨zc, SC, hz⟩, ⟨fm, SF, hfm⟩⟩ := id G
  refine Ctr.enter (own := "com/example/thalwil/thalwil/KeyEquality") (nm := "identity") rfl rfl hEL (plainFor_of_name pn_3) #[.val (.ref bE), .val (.ref a), .unset, .unset] (fun m => by first | rfl | (simp [entryFrame, mkF, argsToLocals, Value.category, maxLocals]; done)) ?_
  intro p e s m below meth c T X
  refine g_aloadN X d2_0 rfl rfl 1 rfl ?_
  refine g_getS X (Or.inl (hw _ (List.mem_of_getElem? (i := 20) rfl))) (host := "") Via.refl (SE.ext X.old) d2_1 4 rfl ?_
  intro T1 X2
  refine g_acmpYes X2 d2_4 rfl rfl (XT.aa_eq_t rfl) 14 (by decide) (by decide) ?_
  refine g_aloadN X2 d2_14 rfl rfl 15 rfl ?_
  exact g_retA X2 rfl rfl rfl d2_15 (by decide) (by decide) ⟨rfl, _, rfl, rfl⟩
theorem d12_0 : decode jdk_41_method_12_code 0 = .ok (.iload_n 0, 1) := by decide +kernel
theorem d12_1 : decode jdk_41_method_12_code 1 = .ok (.ifCond .lt 13, 3) := by decide +kernel
theorem d12_4 : decode jdk_41_method_12_code 4 = .ok (.iload_n 0, 1) := by decide +kernel
theorem d12_5 : decode jdk_41_method_12_code 5 = .ok (.iload_n 1, 1) := by decide +kernel
theorem d12_6 : decode jdk_41_method_12_code 6 = .ok (.if_icmp .gt 8, 3) := by decide +kernel
theorem d12_9 : decode jdk_41_method_12_code 9 = .ok (.iload_n 1, 1) := by decide +kernel
theorem d12_10 : decode jdk_41_method_12_code 10 = .ok (.iload_n 2, 1) := by decide +kernel
theorem d12_11 : decode jdk_41_method_12_code 11 = .ok (.if_icmp .le 11, 3) := by decide +kernel
theorem d12_14 : decode jdk_41_method_12_code 14 = .ok (.aload_n 3, 1) := by decide +kernel
theorem d12_15 : decode jdk_41_method_12_code 15 = .ok (.iload_n 0, 1) := by decide +kernel
theorem d12_16 : decode jdk_41_method_12_code 16 = .ok (.iload_n 1, 1) := by decide +kernel
theorem d12_17 : decode jdk_41_method_12_code 17 = .ok (.iload_n 2, 1) := by decide +kernel
theorem d12_18 : decode jdk_41_method_12_code 18 = .ok (.invokestatic 99, 3) := by decide +kernel
theorem d12_21 : decode jdk_41_method_12_code 21 = .ok (.athrow, 1) := by decide +kernel
theorem d12_22 : decode jdk_41_method_12_code 22 = .ok (.iload_n 0, 1) := by decide +kernel
theorem d12_23 : decode jdk_41_method_12_code 23 = .ok (.ireturn, 1) := by decide +kernel
set_option maxRecDepth 65536 in
set_option maxHeartbeats 40000000 in
theorem c_cft (l : Launch) (Z : State) (a0 : Array Value) (G : Gl Z a0) (v : Value) (h : Heap) (hv : v.isRef = true) :
    Ctr l Z EL nw (⟨"jdk/internal/util/Preconditions", "checkFromToIndex", "(IIILjava/util/function/BiFunction;)I"⟩ : MethodName) jdk_41_method_12_code 4 (Option.some Jvm.ClassFile.FieldType.int) ({ frames := 0, cells := 0, slots := 0, locals := 0 } : Room) #[.int (0 : Int32), .int (2 : Int32), .int (4 : Int32), v] h [] (PureQ h fun w => w = .int 0) := by
  obtain ⟨hw, hEL, hSA, ⟨zc, SC, hz⟩, ⟨fm, SF, hfm⟩⟩ := id G
  refine Ctr.enter (own := "jdk/internal/util/Preconditions") (nm := "checkFromToIndex") rfl rfl hEL (plainFor_of_name pn_1) #[.val (.int (0 : Int32)), .val (.int (2 : Int32)), .val (.int (4 : Int32)), .val (v)] (fun m => by rcases ref_cases hv with rfl | ⟨r, rfl⟩ <;> rfl) ?_
  intro p e s m below meth c T X
  refine g_iloadN X d12_0 rfl 1 rfl ?_
  refine g_ifNo X d12_1 (XT.ii_lt_f (by decide)) 4 rfl ?_
  refine g_iloadN X d12_4 rfl 5 rfl ?_
  refine g_iloadN X d12_5 rfl 6 rfl ?_
  refine g_icmpNo X d12_6 (XT.ii_gt_f (by decide)) 9 rfl ?_
  refine g_iloadN X d12_9 rfl 10 rfl ?_
  refine g_iloadN X d12_10 rfl 11 rfl ?_
  refine g_icmpYes X d12_11 (XT.ii_le_t (by decide)) 22 (by decide) (by decide) ?_
  refine g_iloadN X d12_22 rfl 23 rfl ?_
  exact g_retI X rfl d12_23 (by decide) (by decide) ⟨rfl, _, rfl, rfl⟩
theorem d11_0 : decode jdk_42_method_158_code 0 = .ok (.iload_n 0, 1) := by decide +kernel
theorem d11_1 : decode jdk_42_method_158_code 1 = .ok (.iload_n 1, 1) := by decide +kernel
theorem d11_2 : decode jdk_42_method_158_code 2 = .ok (.iload_n 2, 1) := by decide +kernel
theorem d11_3 : decode jdk_42_method_158_code 3 = .ok (.getstatic 1053, 3) := by decide +kernel
theorem d11_6 : decode jdk_42_method_158_code 6 = .ok (.invokestatic 1062, 3) := by decide +kernel
theorem d11_9 : decode jdk_42_method_158_code 9 = .ok (.pop, 1) := by decide +kernel
theorem d11_10 : decode jdk_42_method_158_code 10 = .ok (.return_, 1) := by decide +kernel
set_option maxRecDepth 65536 in
set_option maxHeartbeats 40000000 in
theorem c_cbe (l : Launch) (Z : State) (a0 : Array Value) (G : Gl Z a0)  (h : Heap)  :
    Ctr l Z EL nw (⟨"java/lang/String", "checkBoundsBeginEnd", "(III)V"⟩ : MethodName) jdk_42_method_158_code 3 (Option.none : Option Jvm.ClassFile.FieldType) ({ frames := 1, cells := 0, slots := 0, locals := 15 } : Room) #[.int (0 : Int32), .int (2 : Int32), .int (4 : Int32)] h [] (VoidQ fun h' => h = h') := by
  obtain ⟨hw, hEL, hSA, ⟨zc, SC, hz⟩, ⟨fm, SF, hfm⟩⟩ := id G
  refine Ctr.enter (own := "java/lang/String") (nm := "checkBoundsBeginEnd") rfl rfl hEL (plainFor_of_name pn_0) #[.val (.int (0 : Int32)), .val (.int (2 : Int32)), .val (.int (4 : Int32))] (fun m => by first | rfl | (simp [entryFrame, mkF, argsToLocals, Value.category, maxLocals]; done)) ?_
  intro p e s m below meth c T X
  refine g_iloadN X d11_0 rfl 1 rfl ?_
  refine g_iloadN X d11_1 rfl 2 rfl ?_
  refine g_iloadN X d11_2 rfl 3 rfl ?_
  refine g_getS X (Or.inl (hw _ (List.mem_of_getElem? (i := 54) rfl))) (host := "") Via.refl (SF.ext X.old) d11_3 6 rfl ?_
  intro T1 X2
  refine g_callSp X2 (hw _ (List.mem_of_getElem? (i := 68) rfl)) (hw _ (List.mem_of_getElem? (i := 69) rfl)) (hw _ (List.mem_of_getElem? (i := 55) rfl)) (hw _ (List.mem_of_getElem? (i := 70) rfl)) (by decide) (c_cft l Z a0 G fm h hfm) (by simp) (argsL := [.int (0 : Int32), .int (2 : Int32), .int (4 : Int32), fm]) (rest := []) pd_4 rfl rfl rfl rfl 0 (Nat.le_of_eq rfl) (by decide) (by decide) (ck := 0) rfl (cs := 0) rfl (by decide) (by decide) d11_6 9 rfl ?_
  intro w5 T3 X4 hq6
  subst hq6
  refine g_pop X4 d11_9 rfl 10 rfl ?_
  exact g_ret X4 rfl d11_10 (by decide) (by decide) ⟨rfl, rfl⟩
theorem d16_0 : decode jdk_65_method_131_code 0 = .ok (.iload_n 1, 1) := by decide +kernel
theorem d16_1 : decode jdk_65_method_131_code 1 = .ok (.iload_n 0, 1) := by decide +kernel
theorem d16_2 : decode jdk_65_method_131_code 2 = .ok (.if_icmp .ge 35, 3) := by decide +kernel
theorem d16_5 : decode jdk_65_method_131_code 5 = .ok (.new 43, 3) := by decide +kernel
theorem d16_8 : decode jdk_65_method_131_code 8 = .ok (.dup, 1) := by decide +kernel
theorem d16_9 : decode jdk_65_method_131_code 9 = .ok (.new 45, 3) := by decide +kernel
theorem d16_12 : decode jdk_65_method_131_code 12 = .ok (.dup, 1) := by decide +kernel
theorem d16_13 : decode jdk_65_method_131_code 13 = .ok (.invokespecial 47, 3) := by decide +kernel
theorem d16_16 : decode jdk_65_method_131_code 16 = .ok (.iload_n 0, 1) := by decide +kernel
theorem d16_17 : decode jdk_65_method_131_code 17 = .ok (.invokevirtual 54, 3) := by decide +kernel
theorem d16_20 : decode jdk_65_method_131_code 20 = .ok (.ldc_w 337, 3) := by decide +kernel
theorem d16_23 : decode jdk_65_method_131_code 23 = .ok (.invokevirtual 50, 3) := by decide +kernel
theorem d16_26 : decode jdk_65_method_131_code 26 = .ok (.iload_n 1, 1) := by decide +kernel
theorem d16_27 : decode jdk_65_method_131_code 27 = .ok (.invokevirtual 54, 3) := by decide +kernel
theorem d16_30 : decode jdk_65_method_131_code 30 = .ok (.invokevirtual 61, 3) := by decide +kernel
theorem d16_33 : decode jdk_65_method_131_code 33 = .ok (.invokespecial 65, 3) := by decide +kernel
theorem d16_36 : decode jdk_65_method_131_code 36 = .ok (.athrow, 1) := by decide +kernel
theorem d16_37 : decode jdk_65_method_131_code 37 = .ok (.return_, 1) := by decide +kernel
theorem pn_4 : plainName "java/util/Arrays" = true := by first | (simp [plainName, overriddenIn]; done) | decide +kernel
set_option maxRecDepth 65536 in
set_option maxHeartbeats 40000000 in
theorem c_cl (l : Launch) (Z : State) (a0 : Array Value) (G : Gl Z a0)  (h : Heap)  :
    Ctr l Z EL nw (⟨"java/util/Arrays", "checkLength", "(II)V"⟩ : MethodName) jdk_65_method_131_code 2 (Option.none : Option Jvm.ClassFile.FieldType) ({ frames := 0, cells := 0, slots := 0, locals := 0 } : Room) #[.int (0 : Int32), .int (2 : Int32)] h [] (VoidQ fun h' => h = h') := by
  obtain ⟨hw, hEL, hSA, ⟨zc, SC, hz⟩, ⟨fm, SF, hfm⟩⟩ := id G
  refine Ctr.enter (own := "java/util/Arrays") (nm := "checkLength") rfl rfl hEL (plainFor_of_name pn_4) #[.val (.int (0 : Int32)), .val (.int (2 : Int32))] (fun m => by first | rfl | (simp [entryFrame, mkF, argsToLocals, Value.category, maxLocals]; done)) ?_
  intro p e s m below meth c T X
  refine g_iloadN X d16_0 rfl 1 rfl ?_
  refine g_iloadN X d16_1 rfl 2 rfl ?_
  refine g_icmpYes X d16_2 (XT.ii_ge_t (by decide)) 37 (by decide) (by decide) ?_
  exact g_ret X rfl d16_37 (by decide) (by decide) ⟨rfl, rfl⟩
theorem d17_0 : decode jdk_29_method_69_code 0 = .ok (.iload_n 0, 1) := by decide +kernel
theorem d17_1 : decode jdk_29_method_69_code 1 = .ok (.iload_n 1, 1) := by decide +kernel
theorem d17_2 : decode jdk_29_method_69_code 2 = .ok (.if_icmp .gt 7, 3) := by decide +kernel
theorem d17_5 : decode jdk_29_method_69_code 5 = .ok (.iload_n 0, 1) := by decide +kernel
theorem d17_6 : decode jdk_29_method_69_code 6 = .ok (.goto 4, 3) := by decide +kernel
theorem d17_9 : decode jdk_29_method_69_code 9 = .ok (.iload_n 1, 1) := by decide +kernel
theorem d17_10 : decode jdk_29_method_69_code 10 = .ok (.ireturn, 1) := by decide +kernel
set_option maxRecDepth 65536 in
set_option maxHeartbeats 40000000 in
theorem c_min (l : Launch) (Z : State) (a0 : Array Value) (G : Gl Z a0)  (h : Heap)  :
    Ctr l Z EL nw (⟨"java/lang/Math", "min", "(II)I"⟩ : MethodName) jdk_29_method_69_code 2 (Option.some Jvm.ClassFile.FieldType.int) ({ frames := 0, cells := 0, slots := 0, locals := 0 } : Room) #[.int (4 : Int32), .int (2 : Int32)] h [] (PureQ h fun w => w = .int 2) := by
  obtain ⟨hw, hEL, hSA, ⟨zc, SC, hz⟩, ⟨fm, SF, hfm⟩⟩ := id G
  refine Ctr.enter (own := "java/lang/Math") (nm := "min") rfl rfl hEL (by decide +kernel) #[.val (.int (4 : Int32)), .val (.int (2 : Int32))] (fun m => by first | rfl | (simp [entryFrame, mkF, argsToLocals, Value.category, maxLocals]; done)) ?_
  intro p e s m below meth c T X
  refine g_iloadN X d17_0 rfl 1 rfl ?_
  refine g_iloadN X d17_1 rfl 2 rfl ?_
  refine g_icmpYes X d17_2 (XT.ii_gt_t (by decide)) 9 (by decide) (by decide) ?_
  refine g_iloadN X d17_9 rfl 10 rfl ?_
  exact g_retI X rfl d17_10 (by decide) (by decide) ⟨rfl, _, rfl, rfl⟩
theorem d15_0 : decode jdk_65_method_133_code 0 = .ok (.iload_n 1, 1) := by decide +kernel
theorem d15_1 : decode jdk_65_method_133_code 1 = .ok (.iload_n 2, 1) := by decide +kernel
theorem d15_2 : decode jdk_65_method_133_code 2 = .ok (.invokestatic 343, 3) := by decide +kernel
theorem d15_5 : decode jdk_65_method_133_code 5 = .ok (.iload_n 2, 1) := by decide +kernel
theorem d15_6 : decode jdk_65_method_133_code 6 = .ok (.iload_n 1, 1) := by decide +kernel
theorem d15_7 : decode jdk_65_method_133_code 7 = .ok (.isub, 1) := by decide +kernel
theorem d15_8 : decode jdk_65_method_133_code 8 = .ok (.istore_n 3, 1) := by decide +kernel
theorem d15_9 : decode jdk_65_method_133_code 9 = .ok (.iload_n 3, 1) := by decide +kernel
theorem d15_10 : decode jdk_65_method_133_code 10 = .ok (.newarray .byte, 2) := by decide +kernel
theorem d15_12 : decode jdk_65_method_133_code 12 = .ok (.astore 4, 2) := by decide +kernel
theorem d15_14 : decode jdk_65_method_133_code 14 = .ok (.aload_n 0, 1) := by decide +kernel
theorem d15_15 : decode jdk_65_method_133_code 15 = .ok (.iload_n 1, 1) := by decide +kernel
theorem d15_16 : decode jdk_65_method_133_code 16 = .ok (.aload 4, 2) := by decide +kernel
theorem d15_18 : decode jdk_65_method_133_code 18 = .ok (.iconst 0, 1) := by decide +kernel
theorem d15_19 : decode jdk_65_method_133_code 19 = .ok (.aload_n 0, 1) := by decide +kernel
theorem d15_20 : decode jdk_65_method_133_code 20 = .ok (.arraylength, 1) := by decide +kernel
theorem d15_21 : decode jdk_65_method_133_code 21 = .ok (.iload_n 1, 1) := by decide +kernel
theorem d15_22 : decode jdk_65_method_133_code 22 = .ok (.isub, 1) := by decide +kernel
theorem d15_23 : decode jdk_65_method_133_code 23 = .ok (.iload_n 3, 1) := by decide +kernel
theorem d15_24 : decode jdk_65_method_133_code 24 = .ok (.invokestatic 304, 3) := by decide +kernel
theorem d15_27 : decode jdk_65_method_133_code 27 = .ok (.invokestatic 150, 3) := by decide +kernel
theorem d15_30 : decode jdk_65_method_133_code 30 = .ok (.aload 4, 2) := by decide +kernel
theorem d15_32 : decode jdk_65_method_133_code 32 = .ok (.areturn, 1) := by decide +kernel
set_option maxRecDepth 65536 in
set_option maxHeartbeats 40000000 in
theorem c_crb (l : Launch) (Z : State) (a0 : Array Value) (G : Gl Z a0) (b : Addr) (kb : ClassId) (h : Heap) (A : Arv Z h b kb .byte (4 : Int32) [.int (97 : Int32), .int (98 : Int32), .int (32 : Int32), .int (32 : Int32)] (.int (0 : Int32))) :
    Ctr l Z EL nw (⟨"java/util/Arrays", "copyOfRangeByte", "([BII)[B"⟩ : MethodName) jdk_65_method_133_code 5 (Option.some (Jvm.ClassFile.FieldType.array Jvm.ClassFile.FieldType.byte)) ({ frames := 1, cells := 1, slots := 2, locals := 40 } : Room) #[.ref b, .int (0 : Int32), .int (2 : Int32)] h [] (ValQ fun w h' => ∃ r k, w = .ref r ∧ Ext h h' ∧ h.size ≤ r ∧ Arv Z h' r k .byte (2 : Int32) [.int (97 : Int32), .int (98 : Int32)] (.int (0 : Int32))) := by
  obtain ⟨hw, hEL, hSA, ⟨zc, SC, hz⟩, ⟨fm, SF, hfm⟩⟩ := id G
  refine Ctr.enter (own := "java/util/Arrays") (nm := "copyOfRangeByte") rfl rfl hEL (plainFor_of_name pn_4) #[.val (.ref b), .val (.int (0 : Int32)), .val (.int (2 : Int32)), .unset, .unset] (fun m => by first | rfl | (simp [entryFrame, mkF, argsToLocals, Value.category, maxLocals]; done)) ?_
  intro p e s m below meth c T X
  refine g_iloadN X d15_0 rfl 1 rfl ?_
  refine g_iloadN X d15_1 rfl 2 rfl ?_
  refine g_callSn X (hw _ (List.mem_of_getElem? (i := 82) rfl)) (hw _ (List.mem_of_getElem? (i := 83) rfl)) (hw _ (List.mem_of_getElem? (i := 77) rfl)) (hw _ (List.mem_of_getElem? (i := 84) rfl)) (by decide) (c_cl l Z a0 G h) (by simp) (argsL := [.int (0 : Int32), .int (2 : Int32)]) (rest := []) pd_9 rfl rfl rfl rfl 0 (Nat.le_of_eq rfl) (by decide) (by decide) (ck := 0) rfl (cs := 0) rfl (by decide) (by decide) d15_2 5 rfl ?_
  intro T1 h4 X2 hq3
  subst hq3
  refine g_iloadN X2 d15_5 rfl 6 rfl ?_
  refine g_iloadN X2 d15_6 rfl 7 rfl ?_
  refine g_isub X2 d15_7 (2 : Int32) (by decide) 8 rfl ?_
  refine g_istoreN X2 d15_8 (Ls' := #[.val (.ref b), .val (.int (0 : Int32)), .val (.int (2 : Int32)), .val (.int (2 : Int32)), .unset]) rfl 9 rfl ?_
  refine g_iloadN X2 d15_9 rfl 10 rfl ?_
  refine g_newP X2 (hw _ (List.mem_of_getElem? (i := 10) rfl)) d15_10 (by decide) 2 (by decide) (by decide) (ck := 1) rfl (cs := 2) rfl (by decide) (by decide) 12 rfl ?_
  intro a5 T6 h7 k8 ea9 X10 E11 A12
  have A13 : Arv Z h7 a5 k8 .byte (2 : Int32) [.int (0 : Int32), .int (0 : Int32)] (.int (0 : Int32)) := A12.pad (fun i => by rcases i with _ | _ | _ | _ | _ | i <;> rfl)
  have le_a5 : h.size ≤ a5 := by rw [ea9]; exact (Ext.refl h).1
  have ne_b_a5 : b ≠ a5 := by rw [ea9]; exact Nat.ne_of_lt A.lt
  refine g_astore X10 d15_12 rfl (Ls' := #[.val (.ref b), .val (.int (0 : Int32)), .val (.int (2 : Int32)), .val (.int (2 : Int32)), .val (.ref a5)]) rfl 14 rfl ?_
  refine g_aloadN X10 d15_14 rfl rfl 15 rfl ?_
  refine g_iloadN X10 d15_15 rfl 16 rfl ?_
  refine g_aload X10 d15_16 rfl rfl 18 rfl ?_
  refine g_iconst X10 (0 : Int32) d15_18 (by decide) 19 rfl ?_
  refine g_aloadN X10 d15_19 rfl rfl 20 rfl ?_
  refine g_arrlen X10 (A.ext E11) d15_20 21 rfl ?_
  refine g_iloadN X10 d15_21 rfl 22 rfl ?_
  refine g_isub X10 d15_22 (4 : Int32) (by decide) 23 rfl ?_
  refine g_iloadN X10 d15_23 rfl 24 rfl ?_
  refine g_callSp X10 (hw _ (List.mem_of_getElem? (i := 85) rfl)) (hw _ (List.mem_of_getElem? (i := 86) rfl)) (hw _ (List.mem_of_getElem? (i := 87) rfl)) (hw _ (List.mem_of_getElem? (i := 88) rfl)) (by decide) (c_min l Z a0 G h7) (by simp) (argsL := [.int (4 : Int32), .int (2 : Int32)]) (rest := [.int (0 : Int32), .ref a5, .int (0 : Int32), .ref b]) pd_10 rfl rfl rfl rfl 4 (Nat.le_of_eq rfl) (by decide) (by decide) (ck := 1) rfl (cs := 2) rfl (by decide) (by decide) d15_24 27 rfl ?_
  intro w16 T14 X15 hq17
  subst hq17
  refine g_arrcopy X15 (hw _ (List.mem_of_getElem? (i := 89) rfl)) (hw _ (List.mem_of_getElem? (i := 92) rfl)) (hw _ (List.mem_of_getElem? (i := 90) rfl)) (hw _ (List.mem_of_getElem? (i := 91) rfl)) (A.ext E11) A13 rfl (by decide) (by decide) (by decide) (by decide) (by decide) (by decide) [.int (97 : Int32), .int (98 : Int32)] rfl (by simp) rfl d15_27 (by decide) 0 (Nat.le_of_eq rfl) (by decide) 30 rfl ?_
  intro T18 h19 X20 K21 A22
  refine g_aload X20 d15_30 rfl rfl 32 rfl ?_
  exact g_retA X20 rfl rfl rfl d15_32 (by decide) (by decide) ⟨_, rfl, ⟨a5, _, rfl, (ext_keep ((Ext.refl h).trans E11) K21 (fun x hx => by cases List.mem_singleton.mp hx; exact le_a5)), le_a5, A22⟩⟩
theorem d14_0 : decode jdk_65_method_132_code 0 = .ok (.iload_n 1, 1) := by decide +kernel
theorem d14_1 : decode jdk_65_method_132_code 1 = .ok (.ifCond .ne 9, 3) := by decide +kernel
theorem d14_4 : decode jdk_65_method_132_code 4 = .ok (.iload_n 2, 1) := by decide +kernel
theorem d14_5 : decode jdk_65_method_132_code 5 = .ok (.aload_n 0, 1) := by decide +kernel
theorem d14_6 : decode jdk_65_method_132_code 6 = .ok (.arraylength, 1) := by decide +kernel
theorem d14_7 : decode jdk_65_method_132_code 7 = .ok (.if_icmp .eq 10, 3) := by decide +kernel
theorem d14_10 : decode jdk_65_method_132_code 10 = .ok (.aload_n 0, 1) := by decide +kernel
theorem d14_11 : decode jdk_65_method_132_code 11 = .ok (.iload_n 1, 1) := by decide +kernel
theorem d14_12 : decode jdk_65_method_132_code 12 = .ok (.iload_n 2, 1) := by decide +kernel
theorem d14_13 : decode jdk_65_method_132_code 13 = .ok (.invokestatic 339, 3) := by decide +kernel
theorem d14_16 : decode jdk_65_method_132_code 16 = .ok (.areturn, 1) := by decide +kernel
theorem d14_17 : decode jdk_65_method_132_code 17 = .ok (.aload_n 0, 1) := by decide +kernel
theorem d14_18 : decode jdk_65_method_132_code 18 = .ok (.invokevirtual 310, 3) := by decide +kernel
theorem d14_21 : decode jdk_65_method_132_code 21 = .ok (.checkcast 311, 3) := by decide +kernel
theorem d14_24 : decode jdk_65_method_132_code 24 = .ok (.areturn, 1) := by decide +kernel
set_option maxRecDepth 65536 in
set_option maxHeartbeats 40000000 in
theorem c_cr (l : Launch) (Z : State) (a0 : Array Value) (G : Gl Z a0) (b : Addr) (kb : ClassId) (h : Heap) (A : Arv Z h b kb .byte (4 : Int32) [.int (97 : Int32), .int (98 : Int32), .int (32 : Int32), .int (32 : Int32)] (.int (0 : Int32))) :
    Ctr l Z EL nw (⟨"java/util/Arrays", "copyOfRange", "([BII)[B"⟩ : MethodName) jdk_65_method_132_code 3 (Option.some (Jvm.ClassFile.FieldType.array Jvm.ClassFile.FieldType.byte)) ({ frames := 2, cells := 1, slots := 2, locals := 56 } : Room) #[.ref b, .int (0 : Int32), .int (2 : Int32)] h [] (ValQ fun w h' => ∃ r k, w = .ref r ∧ Ext h h' ∧ h.size ≤ r ∧ Arv Z h' r k .byte (2 : Int32) [.int (97 : Int32), .int (98 : Int32)] (.int (0 : Int32))) := by
  obtain ⟨hw, hEL, hSA, ⟨zc, SC, hz⟩, ⟨fm, SF, hfm⟩⟩ := id G
  refine Ctr.enter (own := "java/util/Arrays") (nm := "copyOfRange") rfl rfl hEL (plainFor_of_name pn_4) #[.val (.ref b), .val (.int (0 : Int32)), .val (.int (2 : Int32))] (fun m => by first | rfl | (simp [entryFrame, mkF, argsToLocals, Value.category, maxLocals]; done)) ?_
  intro p e s m below meth c T X
  refine g_iloadN X d14_0 rfl 1 rfl ?_
  refine g_ifNo X d14_1 (XT.ii_ne_f (by decide)) 4 rfl ?_
  refine g_iloadN X d14_4 rfl 5 rfl ?_
  refine g_aloadN X d14_5 rfl rfl 6 rfl ?_
  refine g_arrlen X A d14_6 7 rfl ?_
  refine g_icmpNo X d14_7 (XT.ii_eq_f (by decide)) 10 rfl ?_
  refine g_aloadN X d14_10 rfl rfl 11 rfl ?_
  refine g_iloadN X d14_11 rfl 12 rfl ?_
  refine g_iloadN X d14_12 rfl 13 rfl ?_
  refine g_callSv X (hw _ (List.mem_of_getElem? (i := 79) rfl)) (hw _ (List.mem_of_getElem? (i := 80) rfl)) (hw _ (List.mem_of_getElem? (i := 77) rfl)) (hw _ (List.mem_of_getElem? (i := 81) rfl)) (by decide) (c_crb l Z a0 G b kb h A) (by simp) (argsL := [.ref b, .int (0 : Int32), .int (2 : Int32)]) (rest := []) pd_8 rfl rfl rfl rfl 0 (Nat.le_of_eq rfl) (by decide) (by decide) (ck := 1) rfl (cs := 2) rfl (by decide) (by decide) d14_13 16 rfl ?_
  intro w3 T1 h5 X2 hq4
  obtain ⟨r6, k7, rfl, E8, le9, A10⟩ := hq4
  have le_r6 : h.size ≤ r6 := Nat.le_trans (Ext.refl h).1 le9
  exact g_retA X2 rfl rfl rfl d14_16 (by decide) (by decide) ⟨_, rfl, ⟨r6, _, rfl, ((Ext.refl h).trans E8), le_r6, A10⟩⟩
theorem d18_0 : decode jdk_42_method_151_code 0 = .ok (.aload_n 0, 1) := by decide +kernel
theorem d18_1 : decode jdk_42_method_151_code 1 = .ok (.invokespecial 1, 3) := by decide +kernel
theorem d18_4 : decode jdk_42_method_151_code 4 = .ok (.aload_n 0, 1) := by decide +kernel
theorem d18_5 : decode jdk_42_method_151_code 5 = .ok (.aload_n 1, 1) := by decide +kernel
theorem d18_6 : decode jdk_42_method_151_code 6 = .ok (.putfield 9, 3) := by decide +kernel
theorem d18_9 : decode jdk_42_method_151_code 9 = .ok (.aload_n 0, 1) := by decide +kernel
theorem d18_10 : decode jdk_42_method_151_code 10 = .ok (.iload_n 2, 1) := by decide +kernel
theorem d18_11 : decode jdk_42_method_151_code 11 = .ok (.putfield 15, 3) := by decide +kernel
theorem d18_14 : decode jdk_42_method_151_code 14 = .ok (.return_, 1) := by decide +kernel
set_option maxRecDepth 65536 in
set_option maxHeartbeats 40000000 in
theorem c_sbb (l : Launch) (Z : State) (a0 : Array Value) (G : Gl Z a0) (a b : Addr) (h : Heap) (E : Exa Z h a "java/lang/String") (V : Fld Z h a "java/lang/String" "value" "[B" .null) (C : Fld Z h a "java/lang/String" "coder" "B" (.int (0 : Int32))) :
    Ctr l Z EL nw (⟨"java/lang/String", "<init>", "([BB)V"⟩ : MethodName) jdk_42_method_151_code 3 (Option.none : Option Jvm.ClassFile.FieldType) ({ frames := 1, cells := 0, slots := 0, locals := 12 } : Room) #[.ref a, .ref b, .int (0 : Int32)] h [a] (VoidQ fun h' => Keep h h' [a] ∧ Exa Z h' a "java/lang/String" ∧ Fld Z h' a "java/lang/String" "coder" "B" (.int (0 : Int32)) ∧ Fld Z h' a "java/lang/String" "value" "[B" (.ref b)) := by
  obtain ⟨hw, hEL, hSA, ⟨zc, SC, hz⟩, ⟨fm, SF, hfm⟩⟩ := id G
  refine Ctr.enter (own := "java/lang/String") (nm := "<init>") rfl rfl hEL (plainFor_of_name pn_0) #[.val (.ref a), .val (.ref b), .val (.int (0 : Int32))] (fun m => by first | rfl | (simp [entryFrame, mkF, argsToLocals, Value.category, maxLocals]; done)) ?_
  intro p e s m below meth c T X
  refine g_aloadN X d18_0 rfl rfl 1 rfl ?_
  refine g_initO X (hw _ (List.mem_of_getElem? (i := 96) rfl)) (hw _ (List.mem_of_getElem? (i := 97) rfl)) (hw _ (List.mem_of_getElem? (i := 98) rfl)) rfl d18_1 (by decide) 0 (Nat.le_of_eq rfl) (by decide) 4 rfl ?_
  intro T1 X2
  refine g_aloadN X2 d18_4 rfl rfl 5 rfl ?_
  refine g_aloadN X2 d18_5 rfl rfl 6 rfl ?_
  refine g_putF X2 (Or.inl (hw _ (List.mem_of_getElem? (i := 29) rfl))) (host := "") Via.refl V E (Or.inr ⟨(hw _ (List.mem_of_getElem? (i := 11) rfl)), rfl, rfl⟩) (hw _ (List.mem_of_getElem? (i := 9) rfl)) (ty := (.array .byte)) (by rfl) rfl rfl (by simp) d18_6 9 rfl ?_
  intro T3 h4 X5 W6 F7 E8
  refine g_aloadN X5 d18_9 rfl rfl 10 rfl ?_
  refine g_iloadN X5 d18_10 rfl 11 rfl ?_
  refine g_putF X5 (Or.inl (hw _ (List.mem_of_getElem? (i := 36) rfl))) (host := "") Via.refl (C.other W6 (Or.inr (slot_ne (Or.inr (hw _ (List.mem_of_getElem? (i := 12) rfl))) (Or.inr (hw _ (List.mem_of_getElem? (i := 11) rfl))) (by decide) (by rfl) (by rfl)))) E8 (Or.inr ⟨(hw _ (List.mem_of_getElem? (i := 12) rfl)), rfl, rfl⟩) (hw _ (List.mem_of_getElem? (i := 9) rfl)) (ty := .byte) (by rfl) rfl rfl (by simp) d18_11 14 rfl ?_
  intro T9 h10 X11 W12 F13 E14
  exact g_ret X11 rfl d18_14 (by decide) (by decide) ⟨rfl, ⟨(((Keep.refl h [a]).wr W6 (Or.inl (by simp))).wr W12 (Or.inl (by simp))), E14, F13, (F7.other W12 (Or.inr (slot_ne (Or.inr (hw _ (List.mem_of_getElem? (i := 11) rfl))) (Or.inr (hw _ (List.mem_of_getElem? (i := 12) rfl))) (by decide) (by rfl) (by rfl))))⟩⟩
theorem d13_0 : decode jdk_43_method_47_code 0 = .ok (.iload_n 2, 1) := by decide +kernel
theorem d13_1 : decode jdk_43_method_47_code 1 = .ok (.ifCond .ne 6, 3) := by decide +kernel
theorem d13_4 : decode jdk_43_method_47_code 4 = .ok (.ldc 151, 2) := by decide +kernel
theorem d13_6 : decode jdk_43_method_47_code 6 = .ok (.areturn, 1) := by decide +kernel
theorem d13_7 : decode jdk_43_method_47_code 7 = .ok (.new 1, 3) := by decide +kernel
theorem d13_10 : decode jdk_43_method_47_code 10 = .ok (.dup, 1) := by decide +kernel
theorem d13_11 : decode jdk_43_method_47_code 11 = .ok (.aload_n 0, 1) := by decide +kernel
theorem d13_12 : decode jdk_43_method_47_code 12 = .ok (.iload_n 1, 1) := by decide +kernel
theorem d13_13 : decode jdk_43_method_47_code 13 = .ok (.iload_n 1, 1) := by decide +kernel
theorem d13_14 : decode jdk_43_method_47_code 14 = .ok (.iload_n 2, 1) := by decide +kernel
theorem d13_15 : decode jdk_43_method_47_code 15 = .ok (.iadd, 1) := by decide +kernel
theorem d13_16 : decode jdk_43_method_47_code 16 = .ok (.invokestatic 232, 3) := by decide +kernel
theorem d13_19 : decode jdk_43_method_47_code 19 = .ok (.iconst 0, 1) := by decide +kernel
theorem d13_20 : decode jdk_43_method_47_code 20 = .ok (.invokespecial 112, 3) := by decide +kernel
theorem d13_23 : decode jdk_43_method_47_code 23 = .ok (.areturn, 1) := by decide +kernel
set_option maxRecDepth 65536 in
set_option maxHeartbeats 40000000 in
theorem c_ns (l : Launch) (Z : State) (a0 : Array Value) (G : Gl Z a0) (b : Addr) (kb : ClassId) (us : List Addr) (h : Heap) (A : Arv Z h b kb .byte (4 : Int32) [.int (97 : Int32), .int (98 : Int32), .int (32 : Int32), .int (32 : Int32)] (.int (0 : Int32))) :
    Ctr l Z EL nw (⟨"java/lang/StringLatin1", "newString", "([BII)Ljava/lang/String;"⟩ : MethodName) jdk_43_method_47_code 3 (Option.some (Jvm.ClassFile.FieldType.object "java/lang/String")) ({ frames := 3, cells := 2, slots := 6, locals := 72 } : Room) #[.ref b, .int (0 : Int32), .int (2 : Int32)] h us (ValQ fun w h' => ∃ r, w = .ref r ∧ Ext h h' ∧ Str Z h' us r [(97 : Int32), (98 : Int32)]) := by
  obtain ⟨hw, hEL, hSA, ⟨zc, SC, hz⟩, ⟨fm, SF, hfm⟩⟩ := id G
  refine Ctr.enter (own := "java/lang/StringLatin1") (nm := "newString") rfl rfl hEL (plainFor_of_name pn_2) #[.val (.ref b), .val (.int (0 : Int32)), .val (.int (2 : Int32))] (fun m => by first | rfl | (simp [entryFrame, mkF, argsToLocals, Value.category, maxLocals]; done)) ?_
  intro p e s m below meth c T X
  refine g_iloadN X d13_0 rfl 1 rfl ?_
  refine g_ifYes X d13_1 (XT.ii_ne_t (by decide)) 7 (by decide) (by decide) ?_
  refine g_new X (hw _ (List.mem_of_getElem? (i := 74) rfl)) (hw _ (List.mem_of_getElem? (i := 9) rfl)) (hw _ (List.mem_of_getElem? (i := 8) rfl)) d13_7 (ck := 1) rfl (cs := 4) rfl (by decide) (by decide) 10 rfl ?_
  intro a1 T2 h3 ea4 X5 E6 A7 D8
  have le_a1 : h.size ≤ a1 := by rw [ea4]; exact (Ext.refl h).1
  have ne_b_a1 : b ≠ a1 := by rw [ea4]; exact Nat.ne_of_lt A.lt
  have F9 : Fld Z h3 a1 "java/lang/String" "value" "[B" (.null) := D8 (Or.inr (hw _ (List.mem_of_getElem? (i := 11) rfl))) (ty := (.array .byte)) (by rfl)
  have F10 : Fld Z h3 a1 "java/lang/String" "coder" "B" (.int (0 : Int32)) := D8 (Or.inr (hw _ (List.mem_of_getElem? (i := 12) rfl))) (ty := .byte) (by rfl)
  refine g_dup X5 d13_10 rfl 11 rfl ?_
  refine g_aloadN X5 d13_11 rfl rfl 12 rfl ?_
  refine g_iloadN X5 d13_12 rfl 13 rfl ?_
  refine g_iloadN X5 d13_13 rfl 14 rfl ?_
  refine g_iloadN X5 d13_14 rfl 15 rfl ?_
  refine g_iadd X5 d13_15 (2 : Int32) (by decide) 16 rfl ?_
  refine g_callSv X5 (hw _ (List.mem_of_getElem? (i := 75) rfl)) (hw _ (List.mem_of_getElem? (i := 76) rfl)) (hw _ (List.mem_of_getElem? (i := 77) rfl)) (hw _ (List.mem_of_getElem? (i := 78) rfl)) (by decide) (c_cr l Z a0 G b kb h3 (A.ext E6)) (by simp) (argsL := [.ref b, .int (0 : Int32), .int (2 : Int32)]) (rest := [.ref a1, .ref a1]) pd_8 rfl rfl rfl rfl 2 (Nat.le_of_eq rfl) (by decide) (by decide) (ck := 2) rfl (cs := 6) rfl (by decide) (by decide) d13_16 19 rfl ?_
  intro w13 T11 h15 X12 hq14
  obtain ⟨r16, k17, rfl, E18, le19, A20⟩ := hq14
  have ne_a1_r16 : a1 ≠ r16 := Nat.ne_of_lt (Nat.lt_of_lt_of_le (X5.new (by simp)).2 le19)
  have le_r16 : h.size ≤ r16 := Nat.le_trans ((Ext.refl h).trans E6).1 le19
  refine g_iconst X12 (0 : Int32) d13_19 (by decide) 20 rfl ?_
  refine g_callIn X12 rfl (hw _ (List.mem_of_getElem? (i := 93) rfl)) (hw _ (List.mem_of_getElem? (i := 94) rfl)) (hw _ (List.mem_of_getElem? (i := 8) rfl)) (hw _ (List.mem_of_getElem? (i := 95) rfl)) (by decide) (c_sbb l Z a0 G a1 r16 h15 (A7.ext E18) (F9.ext E18) (F10.ext E18)) (by simp) (argsL := [.ref r16, .int (0 : Int32)]) (rest := [.ref a1]) pd_11 rfl rfl rfl rfl 1 (Nat.le_of_eq rfl) (by decide) (by decide) (ck := 2) rfl (cs := 6) rfl (by decide) (by decide) d13_20 23 rfl ?_
  intro T21 h24 X22 hq23
  obtain ⟨K25, E26, C27, V28⟩ := hq23
  exact g_retA X22 rfl rfl rfl d13_23 (by decide) (by decide) ⟨_, rfl, ⟨a1, rfl, (ext_keep (((Ext.refl h).trans E6).trans E18) K25 (fun x hx => by cases List.mem_singleton.mp hx; exact le_a1)), r16, k17, E26, C27, V28, (A20.keep K25 (ninS (Ne.symm ne_a1_r16) nin0)), by decide, by decide, fun x hx => ⟨Nat.ne_of_lt (Nat.lt_of_lt_of_le (X.news x hx) le_a1), Nat.ne_of_lt (Nat.lt_of_lt_of_le (X.news x hx) le_r16)⟩⟩⟩
theorem d10_0 : decode jdk_42_method_92_code 0 = .ok (.aload_n 0, 1) := by decide +kernel
theorem d10_1 : decode jdk_42_method_92_code 1 = .ok (.invokevirtual 505, 3) := by decide +kernel
theorem d10_4 : decode jdk_42_method_92_code 4 = .ok (.istore_n 3, 1) := by decide +kernel
theorem d10_5 : decode jdk_42_method_92_code 5 = .ok (.iload_n 1, 1) := by decide +kernel
theorem d10_6 : decode jdk_42_method_92_code 6 = .ok (.iload_n 2, 1) := by decide +kernel
theorem d10_7 : decode jdk_42_method_92_code 7 = .ok (.iload_n 3, 1) := by decide +kernel
theorem d10_8 : decode jdk_42_method_92_code 8 = .ok (.invokestatic 521, 3) := by decide +kernel
theorem d10_11 : decode jdk_42_method_92_code 11 = .ok (.iload_n 1, 1) := by decide +kernel
theorem d10_12 : decode jdk_42_method_92_code 12 = .ok (.ifCond .ne 10, 3) := by decide +kernel
theorem d10_15 : decode jdk_42_method_92_code 15 = .ok (.iload_n 2, 1) := by decide +kernel
theorem d10_16 : decode jdk_42_method_92_code 16 = .ok (.iload_n 3, 1) := by decide +kernel
theorem d10_17 : decode jdk_42_method_92_code 17 = .ok (.if_icmp .ne 5, 3) := by decide +kernel
theorem d10_20 : decode jdk_42_method_92_code 20 = .ok (.aload_n 0, 1) := by decide +kernel
theorem d10_21 : decode jdk_42_method_92_code 21 = .ok (.areturn, 1) := by decide +kernel
theorem d10_22 : decode jdk_42_method_92_code 22 = .ok (.iload_n 2, 1) := by decide +kernel
theorem d10_23 : decode jdk_42_method_92_code 23 = .ok (.iload_n 1, 1) := by decide +kernel
theorem d10_24 : decode jdk_42_method_92_code 24 = .ok (.isub, 1) := by decide +kernel
theorem d10_25 : decode jdk_42_method_92_code 25 = .ok (.istore 4, 2) := by decide +kernel
theorem d10_27 : decode jdk_42_method_92_code 27 = .ok (.aload_n 0, 1) := by decide +kernel
theorem d10_28 : decode jdk_42_method_92_code 28 = .ok (.invokevirtual 492, 3) := by decide +kernel
theorem d10_31 : decode jdk_42_method_92_code 31 = .ok (.ifCond .eq 16, 3) := by decide +kernel
theorem d10_34 : decode jdk_42_method_92_code 34 = .ok (.aload_n 0, 1) := by decide +kernel
theorem d10_35 : decode jdk_42_method_92_code 35 = .ok (.getfield 9, 3) := by decide +kernel
theorem d10_38 : decode jdk_42_method_92_code 38 = .ok (.iload_n 1, 1) := by decide +kernel
theorem d10_39 : decode jdk_42_method_92_code 39 = .ok (.iload 4, 2) := by decide +kernel
theorem d10_41 : decode jdk_42_method_92_code 41 = .ok (.invokestatic 685, 3) := by decide +kernel
theorem d10_44 : decode jdk_42_method_92_code 44 = .ok (.goto 13, 3) := by decide +kernel
theorem d10_47 : decode jdk_42_method_92_code 47 = .ok (.aload_n 0, 1) := by decide +kernel
theorem d10_48 : decode jdk_42_method_92_code 48 = .ok (.getfield 9, 3) := by decide +kernel
theorem d10_51 : decode jdk_42_method_92_code 51 = .ok (.iload_n 1, 1) := by decide +kernel
theorem d10_52 : decode jdk_42_method_92_code 52 = .ok (.iload 4, 2) := by decide +kernel
theorem d10_54 : decode jdk_42_method_92_code 54 = .ok (.invokestatic 689, 3) := by decide +kernel
theorem d10_57 : decode jdk_42_method_92_code 57 = .ok (.areturn, 1) := by decide +kernel
set_option maxRecDepth 65536 in
set_option maxHeartbeats 40000000 in
theorem c_ss (l : Launch) (Z : State) (a0 : Array Value) (G : Gl Z a0) (a : Addr) (us : List Addr) (h : Heap) (F : Str Z h us a [(97 : Int32), (98 : Int32), (32 : Int32), (32 : Int32)]) :
    Ctr l Z EL nw (⟨"java/lang/String", "substring", "(II)Ljava/lang/String;"⟩ : MethodName) jdk_42_method_92_code 5 (Option.some (Jvm.ClassFile.FieldType.object "java/lang/String")) ({ frames := 4, cells := 2, slots := 6, locals := 86 } : Room) #[.ref a, .int (0 : Int32), .int (2 : Int32)] h us (ValQ fun w h' => ∃ r, w = .ref r ∧ Ext h h' ∧ Str Z h' us r [(97 : Int32), (98 : Int32)]) := by
  obtain ⟨hw, hEL, hSA, ⟨zc, SC, hz⟩, ⟨fm, SF, hfm⟩⟩ := id G
  refine Ctr.enter (own := "java/lang/String") (nm := "substring") rfl rfl hEL (plainFor_of_name pn_0) #[.val (.ref a), .val (.int (0 : Int32)), .val (.int (2 : Int32)), .unset, .unset] (fun m => by first | rfl | (simp [entryFrame, mkF, argsToLocals, Value.category, maxLocals]; done)) ?_
  intro p e s m below meth c T X
  refine g_aloadN X d10_0 rfl rfl 1 rfl ?_
  obtain ⟨t1, kb2, e3, f4, f5, k6, b7, l8, n9⟩ := id F
  refine g_callVp X (hw _ (List.mem_of_getElem? (i := 64) rfl)) (hw _ (List.mem_of_getElem? (i := 25) rfl)) (hw _ (List.mem_of_getElem? (i := 27) rfl)) (hw _ (List.mem_of_getElem? (i := 26) rfl)) (hw _ (List.mem_of_getElem? (i := 8) rfl)) (hw _ (List.mem_of_getElem? (i := 28) rfl)) (nfSel (hw _ (List.mem_of_getElem? (i := 27) rfl))) (by decide) e3 (c_len l Z a0 G a t1 kb2 ([(97 : Int32), (98 : Int32), (32 : Int32), (32 : Int32)]) h e3 f4 f5 k6 b7 l8) (by simp) (argsL := []) (rest := []) pd_12 rfl rfl rfl rfl 0 (Nat.le_of_eq rfl) (by decide) (by decide) (ck := 0) rfl (cs := 0) rfl (by decide) (by decide) d10_1 4 rfl ?_
  intro w12 T10 X11 hq13
  obtain rfl : w12 = .int (4 : Int32) := hq13
  refine g_istoreN X11 d10_4 (Ls' := #[.val (.ref a), .val (.int (0 : Int32)), .val (.int (2 : Int32)), .val (.int (4 : Int32)), .unset]) rfl 5 rfl ?_
  refine g_iloadN X11 d10_5 rfl 6 rfl ?_
  refine g_iloadN X11 d10_6 rfl 7 rfl ?_
  refine g_iloadN X11 d10_7 rfl 8 rfl ?_
  refine g_callSn X11 (hw _ (List.mem_of_getElem? (i := 65) rfl)) (hw _ (List.mem_of_getElem? (i := 66) rfl)) (hw _ (List.mem_of_getElem? (i := 8) rfl)) (hw _ (List.mem_of_getElem? (i := 67) rfl)) (by decide) (c_cbe l Z a0 G h) (by simp) (argsL := [.int (0 : Int32), .int (2 : Int32), .int (4 : Int32)]) (rest := []) pd_3 rfl rfl rfl rfl 0 (Nat.le_of_eq rfl) (by decide) (by decide) (ck := 0) rfl (cs := 0) rfl (by decide) (by decide) d10_8 11 rfl ?_
  intro T14 h17 X15 hq16
  subst hq16
  refine g_iloadN X15 d10_11 rfl 12 rfl ?_
  refine g_ifNo X15 d10_12 (XT.ii_ne_f (by decide)) 15 rfl ?_
  refine g_iloadN X15 d10_15 rfl 16 rfl ?_
  refine g_iloadN X15 d10_16 rfl 17 rfl ?_
  refine g_icmpYes X15 d10_17 (XT.ii_ne_t (by decide)) 22 (by decide) (by decide) ?_
  refine g_iloadN X15 d10_22 rfl 23 rfl ?_
  refine g_iloadN X15 d10_23 rfl 24 rfl ?_
  refine g_isub X15 d10_24 (2 : Int32) (by decide) 25 rfl ?_
  refine g_istore X15 d10_25 (Ls' := #[.val (.ref a), .val (.int (0 : Int32)), .val (.int (2 : Int32)), .val (.int (4 : Int32)), .val (.int (2 : Int32))]) rfl 27 rfl ?_
  refine g_aloadN X15 d10_27 rfl rfl 28 rfl ?_
  refine g_callVp X15 (hw _ (List.mem_of_getElem? (i := 42) rfl)) (hw _ (List.mem_of_getElem? (i := 43) rfl)) (hw _ (List.mem_of_getElem? (i := 45) rfl)) (hw _ (List.mem_of_getElem? (i := 44) rfl)) (hw _ (List.mem_of_getElem? (i := 8) rfl)) (hw _ (List.mem_of_getElem? (i := 46) rfl)) (nfSel (hw _ (List.mem_of_getElem? (i := 45) rfl))) (by decide) e3 (c_isl l Z a0 G a h f4) (by simp) (argsL := []) (rest := []) pd_5 rfl rfl rfl rfl 0 (Nat.le_of_eq rfl) (by decide) (by decide) (ck := 0) rfl (cs := 0) rfl (by decide) (by decide) d10_28 31 rfl ?_
  intro w20 T18 X19 hq21
  subst hq21
  refine g_ifNo X19 d10_31 (XT.ii_eq_f (by decide)) 34 rfl ?_
  refine g_aloadN X19 d10_34 rfl rfl 35 rfl ?_
  refine g_getF X19 (Or.inl (hw _ (List.mem_of_getElem? (i := 29) rfl))) (host := "") Via.refl f5 d10_35 38 rfl ?_
  intro T22 X23
  refine g_iloadN X23 d10_38 rfl 39 rfl ?_
  refine g_iload X23 d10_39 rfl 41 rfl ?_
  refine g_callSv X23 (hw _ (List.mem_of_getElem? (i := 71) rfl)) (hw _ (List.mem_of_getElem? (i := 72) rfl)) (hw _ (List.mem_of_getElem? (i := 49) rfl)) (hw _ (List.mem_of_getElem? (i := 73) rfl)) (by decide) (c_ns l Z a0 G t1 kb2 us h k6) (fun _ q => q) (argsL := [.ref t1, .int (0 : Int32), .int (2 : Int32)]) (rest := []) pd_7 rfl rfl rfl rfl 0 (Nat.le_of_eq rfl) (by decide) (by decide) (ck := 2) rfl (cs := 6) rfl (by decide) (by decide) d10_41 44 rfl ?_
  intro w26 T24 h28 X25 hq27
  obtain ⟨r29, rfl, E30, S31⟩ := hq27
  refine g_goto X25 d10_44 57 (by decide) (by decide) ?_
  exact g_retA X25 rfl rfl rfl d10_57 (by decide) (by decide) ⟨_, rfl, ⟨r29, rfl, ((Ext.refl h).trans E30), S31⟩⟩
set_option maxRecDepth 65536 in
set_option maxHeartbeats 40000000 in
theorem c_idP (l : Launch) (Z : State) (a0 : Array Value) (G : Gl Z a0) (a bP bE : Addr) (us : List Addr) (h : Heap) (F : Str Z h us a [(97 : Int32), (98 : Int32), (32 : Int32), (32 : Int32)]) (SP : Sta Z Z.heap "com/example/thalwil/thalwil/KeyEquality" "PADDED" "Lcom/example/thalwil/thalwil/KeyEquality;" (.ref bP)) (EP : Exa Z Z.heap bP "com/example/thalwil/thalwil/KeyEquality") (SE : Sta Z Z.heap "com/example/thalwil/thalwil/KeyEquality" "EXACT" "Lcom/example/thalwil/thalwil/KeyEquality;" (.ref bE)) (EE : Exa Z Z.heap bE "com/example/thalwil/thalwil/KeyEquality") (nPE : ¬ bP = bE) :
    Ctr l Z EL nw (⟨"com/example/thalwil/thalwil/KeyEquality", "identity", "(Ljava/lang/Object;)Ljava/lang/Object;"⟩ : MethodName) prog_14_method_5_code 4 (Option.some (Jvm.ClassFile.FieldType.object "java/lang/Object")) ({ frames := 5, cells := 2, slots := 6, locals := 102 } : Room) #[.ref bP, .ref a] h us (ValQ fun w h' => ∃ r, w = .ref r ∧ Ext h h' ∧ Str Z h' us r [(97 : Int32), (98 : Int32)]) := by
  obtain ⟨hw, hEL, hSA, ⟨zc, SC, hz⟩, ⟨fm, SF, hfm⟩⟩ := id G
  refine Ctr.enter (own := "com/example/thalwil/thalwil/KeyEquality") (nm := "identity") rfl rfl hEL (plainFor_of_name pn_3) #[.val (.ref bP), .val (.ref a), .unset, .unset] (fun m => by first | rfl | (simp [entryFrame, mkF, argsToLocals, Value.category, maxLocals]; done)) ?_
  intro p e s m below meth c T X
  refine g_aloadN X d2_0 rfl rfl 1 rfl ?_
  refine g_getS X (Or.inl (hw _ (List.mem_of_getElem? (i := 20) rfl))) (host := "") Via.refl (SE.ext X.old) d2_1 4 rfl ?_
  intro T1 X2
  refine g_acmpNo X2 d2_4 rfl rfl (XT.aa_eq_f (fun q => nPE (Value.ref.inj q))) 7 rfl ?_
  refine g_aloadN X2 d2_7 rfl rfl 8 rfl ?_
  refine g_instY X2 (hw _ (List.mem_of_getElem? (i := 22) rfl)) (Ins.self F.exa) d2_8 11 rfl ?_
  intro T3 X4
  refine g_ifYes X4 d2_11 (XT.ii_ne_t (by decide)) 16 (by decide) (by decide) ?_
  refine g_aloadN X4 d2_16 rfl rfl 17 rfl ?_
  refine g_cast X4 (hw _ (List.mem_of_getElem? (i := 22) rfl)) (Ins.self F.exa) d2_17 20 rfl ?_
  intro T5 X6
  refine g_astoreN X6 d2_20 rfl (Ls' := #[.val (.ref bP), .val (.ref a), .val (.ref a), .unset]) rfl 21 rfl ?_
  refine g_aloadN X6 d2_21 rfl rfl 22 rfl ?_
  obtain ⟨t7, kb8, e9, f10, f11, k12, b13, l14, n15⟩ := id F
  refine g_callVp X6 (hw _ (List.mem_of_getElem? (i := 24) rfl)) (hw _ (List.mem_of_getElem? (i := 25) rfl)) (hw _ (List.mem_of_getElem? (i := 27) rfl)) (hw _ (List.mem_of_getElem? (i := 26) rfl)) (hw _ (List.mem_of_getElem? (i := 8) rfl)) (hw _ (List.mem_of_getElem? (i := 28) rfl)) (nfSel (hw _ (List.mem_of_getElem? (i := 27) rfl))) (by decide) e9 (c_len l Z a0 G a t7 kb8 ([(97 : Int32), (98 : Int32), (32 : Int32), (32 : Int32)]) h e9 f10 f11 k12 b13 l14) (by simp) (argsL := []) (rest := []) pd_12 rfl rfl rfl rfl 0 (Nat.le_of_eq rfl) (by decide) (by decide) (ck := 0) rfl (cs := 0) rfl (by decide) (by decide) d2_22 25 rfl ?_
  intro w18 T16 X17 hq19
  obtain rfl : w18 = .int (4 : Int32) := hq19
  refine g_istoreN X17 d2_25 (Ls' := #[.val (.ref bP), .val (.ref a), .val (.ref a), .val (.int (4 : Int32))]) rfl 26 rfl ?_
  refine g_iloadN X17 d2_26 rfl 27 rfl ?_
  refine g_ifNo X17 d2_27 (XT.ii_le_f (by decide)) 30 rfl ?_
  refine g_aloadN X17 d2_30 rfl rfl 31 rfl ?_
  refine g_iloadN X17 d2_31 rfl 32 rfl ?_
  refine g_iconst X17 (1 : Int32) d2_32 (by decide) 33 rfl ?_
  refine g_isub X17 d2_33 (3 : Int32) (by decide) 34 rfl ?_
  refine g_callVp X17 (hw _ (List.mem_of_getElem? (i := 37) rfl)) (hw _ (List.mem_of_getElem? (i := 38) rfl)) (hw _ (List.mem_of_getElem? (i := 40) rfl)) (hw _ (List.mem_of_getElem? (i := 39) rfl)) (hw _ (List.mem_of_getElem? (i := 8) rfl)) (hw _ (List.mem_of_getElem? (i := 41) rfl)) (nfSel (hw _ (List.mem_of_getElem? (i := 40) rfl))) (by decide) e9 (c_cha l Z a0 G a t7 kb8 ([(97 : Int32), (98 : Int32), (32 : Int32), (32 : Int32)]) 3 h e9 f10 f11 k12 b13 l14 (by decide)) (by simp) (argsL := [.int (3 : Int32)]) (rest := []) pd_13 rfl rfl rfl rfl 0 (Nat.le_of_eq rfl) (by decide) (by decide) (ck := 0) rfl (cs := 0) rfl (by decide) (by decide) d2_34 37 rfl ?_
  intro w22 T20 X21 hq23
  obtain rfl : w22 = .int (32 : Int32) := hq23
  refine g_bipush X21 (32 : Int32) d2_37 (by decide) 39 rfl ?_
  refine g_icmpNo X21 d2_39 (XT.ii_ne_f (by decide)) 42 rfl ?_
  refine g_iinc X21 d2_42 rfl (3 : Int32) (by decide) (Ls' := #[.val (.ref bP), .val (.ref a), .val (.ref a), .val (.int (3 : Int32))]) rfl 45 rfl ?_
  refine g_goto X21 d2_45 26 (by decide) (by decide) ?_
  refine g_iloadN X21 d2_26 rfl 27 rfl ?_
  refine g_ifNo X21 d2_27 (XT.ii_le_f (by decide)) 30 rfl ?_
  refine g_aloadN X21 d2_30 rfl rfl 31 rfl ?_
  refine g_iloadN X21 d2_31 rfl 32 rfl ?_
  refine g_iconst X21 (1 : Int32) d2_32 (by decide) 33 rfl ?_
  refine g_isub X21 d2_33 (2 : Int32) (by decide) 34 rfl ?_
  refine g_callVp X21 (hw _ (List.mem_of_getElem? (i := 37) rfl)) (hw _ (List.mem_of_getElem? (i := 38) rfl)) (hw _ (List.mem_of_getElem? (i := 40) rfl)) (hw _ (List.mem_of_getElem? (i := 39) rfl)) (hw _ (List.mem_of_getElem? (i := 8) rfl)) (hw _ (List.mem_of_getElem? (i := 41) rfl)) (nfSel (hw _ (List.mem_of_getElem? (i := 40) rfl))) (by decide) e9 (c_cha l Z a0 G a t7 kb8 ([(97 : Int32), (98 : Int32), (32 : Int32), (32 : Int32)]) 2 h e9 f10 f11 k12 b13 l14 (by decide)) (by simp) (argsL := [.int (2 : Int32)]) (rest := []) pd_13 rfl rfl rfl rfl 0 (Nat.le_of_eq rfl) (by decide) (by decide) (ck := 0) rfl (cs := 0) rfl (by decide) (by decide) d2_34 37 rfl ?_
  intro w26 T24 X25 hq27
  obtain rfl : w26 = .int (32 : Int32) := hq27
  refine g_bipush X25 (32 : Int32) d2_37 (by decide) 39 rfl ?_
  refine g_icmpNo X25 d2_39 (XT.ii_ne_f (by decide)) 42 rfl ?_
  refine g_iinc X25 d2_42 rfl (2 : Int32) (by decide) (Ls' := #[.val (.ref bP), .val (.ref a), .val (.ref a), .val (.int (2 : Int32))]) rfl 45 rfl ?_
  refine g_goto X25 d2_45 26 (by decide) (by decide) ?_
  refine g_iloadN X25 d2_26 rfl 27 rfl ?_
  refine g_ifNo X25 d2_27 (XT.ii_le_f (by decide)) 30 rfl ?_
  refine g_aloadN X25 d2_30 rfl rfl 31 rfl ?_
  refine g_iloadN X25 d2_31 rfl 32 rfl ?_
  refine g_iconst X25 (1 : Int32) d2_32 (by decide) 33 rfl ?_
  refine g_isub X25 d2_33 (1 : Int32) (by decide) 34 rfl ?_
  refine g_callVp X25 (hw _ (List.mem_of_getElem? (i := 37) rfl)) (hw _ (List.mem_of_getElem? (i := 38) rfl)) (hw _ (List.mem_of_getElem? (i := 40) rfl)) (hw _ (List.mem_of_getElem? (i := 39) rfl)) (hw _ (List.mem_of_getElem? (i := 8) rfl)) (hw _ (List.mem_of_getElem? (i := 41) rfl)) (nfSel (hw _ (List.mem_of_getElem? (i := 40) rfl))) (by decide) e9 (c_cha l Z a0 G a t7 kb8 ([(97 : Int32), (98 : Int32), (32 : Int32), (32 : Int32)]) 1 h e9 f10 f11 k12 b13 l14 (by decide)) (by simp) (argsL := [.int (1 : Int32)]) (rest := []) pd_13 rfl rfl rfl rfl 0 (Nat.le_of_eq rfl) (by decide) (by decide) (ck := 0) rfl (cs := 0) rfl (by decide) (by decide) d2_34 37 rfl ?_
  intro w30 T28 X29 hq31
  obtain rfl : w30 = .int (98 : Int32) := hq31
  refine g_bipush X29 (32 : Int32) d2_37 (by decide) 39 rfl ?_
  refine g_icmpYes X29 d2_39 (XT.ii_ne_t (by decide)) 48 (by decide) (by decide) ?_
  refine g_aloadN X29 d2_48 rfl rfl 49 rfl ?_
  refine g_iconst X29 (0 : Int32) d2_49 (by decide) 50 rfl ?_
  refine g_iloadN X29 d2_50 rfl 51 rfl ?_
  refine g_callVv X29 (hw _ (List.mem_of_getElem? (i := 59) rfl)) (hw _ (List.mem_of_getElem? (i := 60) rfl)) (hw _ (List.mem_of_getElem? (i := 62) rfl)) (hw _ (List.mem_of_getElem? (i := 61) rfl)) (hw _ (List.mem_of_getElem? (i := 8) rfl)) (hw _ (List.mem_of_getElem? (i := 63) rfl)) (nfSel (hw _ (List.mem_of_getElem? (i := 62) rfl))) (by decide) F.exa (c_ss l Z a0 G a us h F) (fun _ q => q) (argsL := [.int (0 : Int32), .int (2 : Int32)]) (rest := []) pd_2 rfl rfl rfl rfl 0 (Nat.le_of_eq rfl) (by decide) (by decide) (ck := 2) rfl (cs := 6) rfl (by decide) (by decide) d2_51 54 rfl ?_
  intro w34 T32 h36 X33 hq35
  obtain ⟨r37, rfl, E38, S39⟩ := hq35
  exact g_retA X33 rfl rfl rfl d2_54 (by decide) (by decide) ⟨_, rfl, ⟨r37, rfl, ((Ext.refl h).trans E38), S39⟩⟩
theorem pn_5 : plainName "com/example/thalwil/thalwil/KeyEqualityOfPinLaw" = true := by first | (simp [plainName, overriddenIn]; done) | decide +kernel
set_option maxRecDepth 65536 in
set_option maxHeartbeats 40000000 in
theorem c_law (l : Launch) (Z : State) (a0 : Array Value) (G : Gl Z a0) (k r : Int32) (bP bE : Addr) (h : Heap) (SP : Sta Z Z.heap "com/example/thalwil/thalwil/KeyEquality" "PADDED" "Lcom/example/thalwil/thalwil/KeyEquality;" (.ref bP)) (EP : Exa Z Z.heap bP "com/example/thalwil/thalwil/KeyEquality") (SE : Sta Z Z.heap "com/example/thalwil/thalwil/KeyEquality" "EXACT" "Lcom/example/thalwil/thalwil/KeyEquality;" (.ref bE)) (EE : Exa Z Z.heap bE "com/example/thalwil/thalwil/KeyEquality") (nPE : ¬ bP = bE) :
    Ctr l Z EL nw x code maxLocals ret room_1 #[.int k, .int r] h [] (fun v _ => v = some (.int 1)) := by
  obtain ⟨hw, hEL, hSA, ⟨zc, SC, hz⟩, ⟨fm, SF, hfm⟩⟩ := id G
  refine Ctr.enter (own := "com/example/thalwil/thalwil/KeyEqualityOfPinLaw") (nm := "law") rfl rfl hEL (plainFor_of_name pn_5) #[.val (.int k), .val (.int r), .unset, .unset, .unset, .unset, .unset, .unset, .unset] (fun m => by first | rfl | (simp [entryFrame, mkF, argsToLocals, Value.category, maxLocals]; done)) ?_
  intro p e s m below meth c T X
  refine g_iloadN X at_0 rfl 1 rfl ?_
  refine g_iconst X (3 : Int32) at_1 (by decide) 2 rfl ?_
  refine g_iand X at_2 _ rfl 3 rfl ?_
  refine g_istoreN X at_3 (Ls' := #[.val (.int k), .val (.int r), .val (.int (k &&& (3 : Int32))), .unset, .unset, .unset, .unset, .unset, .unset]) rfl 4 rfl ?_
  refine g_iloadN X at_4 rfl 5 rfl ?_
  by_cases hb5 : (k &&& (3 : Int32)) = (0 : Int32)
  · refine g_ifNo X at_5 (XT.ii_ne_f hb5) 8 rfl ?_
    refine g_iconst X (1 : Int32) at_8 (by decide) 9 rfl ?_
    refine g_istoreN X at_9 (Ls' := #[.val (.int k), .val (.int r), .val (.int (k &&& (3 : Int32))), .val (.int (1 : Int32)), .unset, .unset, .unset, .unset, .unset]) rfl 10 rfl ?_
    refine g_goto X at_10 42 (by decide) (by decide) ?_
    refine g_iloadN X at_42 rfl 43 rfl ?_
    refine g_iconst X (1 : Int32) at_43 (by decide) 44 rfl ?_
    refine g_icmpYes X at_44 (XT.ii_eq_t (by decide)) 53 (by decide) (by decide) ?_
    refine g_iconst X (1 : Int32) at_53 (by decide) 54 rfl ?_
    refine g_goto X at_54 58 (by decide) (by decide) ?_
    refine g_istore X at_58 (Ls' := #[.val (.int k), .val (.int r), .val (.int (k &&& (3 : Int32))), .val (.int (1 : Int32)), .val (.int (1 : Int32)), .unset, .unset, .unset, .unset]) rfl 60 rfl ?_
    refine g_iloadN X at_60 rfl 61 rfl ?_
    refine g_callSp X (hw _ (List.mem_of_getElem? (i := 0) rfl)) (hw _ (List.mem_of_getElem? (i := 1) rfl)) (hw _ (List.mem_of_getElem? (i := 2) rfl)) (hw _ (List.mem_of_getElem? (i := 3) rfl)) (by decide) (c_ofP l Z a0 G (1 : Int32) bP bE h (Or.inl rfl) SP EP SE EE nPE) (by simp) (argsL := [.int (1 : Int32)]) (rest := []) pd_0 rfl rfl rfl rfl 0 (Nat.le_of_eq rfl) (by decide) (by decide) (ck := 0) rfl (cs := 0) rfl (by decide) (by decide) at_61 64 rfl ?_
    intro w3 T1 X2 hq4
    subst hq4
    refine g_astore X2 at_64 rfl (Ls' := #[.val (.int k), .val (.int r), .val (.int (k &&& (3 : Int32))), .val (.int (1 : Int32)), .val (.int (1 : Int32)), .val (.ref bP), .unset, .unset, .unset]) rfl 66 rfl ?_
    refine g_aload X2 at_66 rfl rfl 68 rfl ?_
    refine g_ifnonnullYes X2 at_68 73 (by decide) (by decide) ?_
    refine g_iload X2 at_73 rfl 75 rfl ?_
    refine g_ifNo X2 at_75 (XT.ii_eq_f (by decide)) 78 rfl ?_
    refine g_aload X2 at_78 rfl rfl 80 rfl ?_
    refine g_getS X2 (Or.inl (hw _ (List.mem_of_getElem? (i := 6) rfl))) (host := "") Via.refl (SP.ext X2.old) at_80 83 rfl ?_
    intro T5 X6
    refine g_acmpNo X6 at_83 rfl rfl (XT.aa_ne_f rfl) 86 rfl ?_
    refine g_iconst X6 (1 : Int32) at_86 (by decide) 87 rfl ?_
    refine g_goto X6 at_87 107 (by decide) (by decide) ?_
    refine g_istore X6 at_107 (Ls' := #[.val (.int k), .val (.int r), .val (.int (k &&& (3 : Int32))), .val (.int (1 : Int32)), .val (.int (1 : Int32)), .val (.ref bP), .val (.int (1 : Int32)), .unset, .unset]) rfl 109 rfl ?_
    refine g_aload X6 at_109 rfl rfl 111 rfl ?_
    refine g_ldcS X6 (cs := [(97 : Int32), (98 : Int32), (32 : Int32), (32 : Int32)]) rfl (hw _ (List.mem_of_getElem? (i := 7) rfl)) hSA (by simp [EL, consts_1]) ⟨by decide, by decide⟩ (by decide) (by decide) at_111 16 (by decide) (by decide) (ck := 2) rfl (cs' := 20) rfl (by decide) (by decide) 113 rfl ?_
    intro s7 T8 h9 X10 E11 S12
    refine g_callVv X10 (hw _ (List.mem_of_getElem? (i := 15) rfl)) (hw _ (List.mem_of_getElem? (i := 16) rfl)) (hw _ (List.mem_of_getElem? (i := 18) rfl)) (hw _ (List.mem_of_getElem? (i := 17) rfl)) (hw _ (List.mem_of_getElem? (i := 2) rfl)) (hw _ (List.mem_of_getElem? (i := 19) rfl)) (nfSel (hw _ (List.mem_of_getElem? (i := 18) rfl))) (by decide) (EP.ext X10.old) (c_idP l Z a0 G s7 bP bE [] h9 S12 SP EP SE EE nPE) (by simp) (argsL := [.ref s7]) (rest := []) pd_1 rfl rfl rfl rfl 0 (Nat.le_of_eq rfl) (by decide) (by decide) (ck := 4) rfl (cs := 26) rfl (by decide) (by decide) at_113 116 rfl ?_
    intro w15 T13 h17 X14 hq16
    obtain ⟨r18, rfl, E19, S20⟩ := hq16
    refine g_astore X14 at_116 rfl (Ls' := #[.val (.int k), .val (.int r), .val (.int (k &&& (3 : Int32))), .val (.int (1 : Int32)), .val (.int (1 : Int32)), .val (.ref bP), .val (.int (1 : Int32)), .val (.ref r18), .unset]) rfl 118 rfl ?_
    refine g_iload X14 at_118 rfl 120 rfl ?_
    refine g_ifNo X14 at_120 (XT.ii_eq_f (by decide)) 123 rfl ?_
    refine g_ldcS X14 (cs := [(97 : Int32), (98 : Int32)]) rfl (hw _ (List.mem_of_getElem? (i := 99) rfl)) hSA (by simp [EL, consts_1]) ⟨by decide, by decide⟩ (by decide) (by decide) at_123 8 (by decide) (by decide) (ck := 6) rfl (cs' := 38) rfl (by decide) (by decide) 125 rfl ?_
    intro s21 T22 h23 X24 E25 S26
    refine g_aload X24 at_125 rfl rfl 127 rfl ?_
    obtain ⟨t27, kb28, e29, f30, f31, k32, b33, l34, n35⟩ := id S26
    obtain ⟨t36, kb37, e38, f39, f40, k41, b42, l43, n44⟩ := id (S20.ext E25)
    refine g_callVp X24 (hw _ (List.mem_of_getElem? (i := 100) rfl)) (hw _ (List.mem_of_getElem? (i := 101) rfl)) (hw _ (List.mem_of_getElem? (i := 103) rfl)) (hw _ (List.mem_of_getElem? (i := 102) rfl)) (hw _ (List.mem_of_getElem? (i := 8) rfl)) (hw _ (List.mem_of_getElem? (i := 104) rfl)) (nfSel (hw _ (List.mem_of_getElem? (i := 103) rfl))) (by decide) e29 (c_seq l Z a0 G s21 r18 t27 t36 kb28 kb37 ([(97 : Int32), (98 : Int32)]) ([(97 : Int32), (98 : Int32)]) (str_inj S26 (S20.ext E25)) h23 e29 f30 f31 k32 b33 l34 e38 f39 f40 k41 b42 l43) (by simp) (argsL := [.ref r18]) (rest := []) pd_16 rfl rfl rfl rfl 0 (Nat.le_of_eq rfl) (by decide) (by decide) (ck := 6) rfl (cs := 38) rfl (by decide) (by decide) at_127 130 rfl ?_
    intro w47 T45 X46 hq48
    obtain rfl : w47 = .int (1 : Int32) := hq48
    refine g_goto X46 at_130 140 (by decide) (by decide) ?_
    refine g_istore X46 at_140 (Ls' := #[.val (.int k), .val (.int r), .val (.int (k &&& (3 : Int32))), .val (.int (1 : Int32)), .val (.int (1 : Int32)), .val (.ref bP), .val (.int (1 : Int32)), .val (.ref r18), .val (.int (1 : Int32))]) rfl 142 rfl ?_
    refine g_iload X46 at_142 rfl 144 rfl ?_
    refine g_ifNo X46 at_144 (XT.ii_eq_f (by decide)) 147 rfl ?_
    refine g_iload X46 at_147 rfl 149 rfl ?_
    refine g_ifNo X46 at_149 (XT.ii_eq_f (by decide)) 152 rfl ?_
    refine g_iconst X46 (1 : Int32) at_152 (by decide) 153 rfl ?_
    refine g_goto X46 at_153 157 (by decide) (by decide) ?_
    exact g_retN X46 (t := .boolean) rfl (by simp) at_157 _ rfl (by decide) (by decide) rfl
  · refine g_ifYes X at_5 (XT.ii_ne_t hb5) 13 (by decide) (by decide) ?_
    refine g_iloadN X at_13 rfl 14 rfl ?_
    refine g_iconst X (1 : Int32) at_14 (by decide) 15 rfl ?_
    by_cases hb15 : (k &&& (3 : Int32)) = (1 : Int32)
    · refine g_icmpNo X at_15 (XT.ii_ne_f hb15) 18 rfl ?_
      refine g_bipush X (-15 : Int32) at_18 (by decide) 20 rfl ?_
      refine g_istoreN X at_20 (Ls' := #[.val (.int k), .val (.int r), .val (.int (k &&& (3 : Int32))), .val (.int (-15 : Int32)), .unset, .unset, .unset, .unset, .unset]) rfl 21 rfl ?_
      refine g_goto X at_21 42 (by decide) (by decide) ?_
      refine g_iloadN X at_42 rfl 43 rfl ?_
      refine g_iconst X (1 : Int32) at_43 (by decide) 44 rfl ?_
      refine g_icmpNo X at_44 (XT.ii_eq_f (by decide)) 47 rfl ?_
      refine g_iloadN X at_47 rfl 48 rfl ?_
      refine g_bipush X (-15 : Int32) at_48 (by decide) 50 rfl ?_
      refine g_icmpNo X at_50 (XT.ii_ne_f (by decide)) 53 rfl ?_
      refine g_iconst X (1 : Int32) at_53 (by decide) 54 rfl ?_
      refine g_goto X at_54 58 (by decide) (by decide) ?_
      refine g_istore X at_58 (Ls' := #[.val (.int k), .val (.int r), .val (.int (k &&& (3 : Int32))), .val (.int (-15 : Int32)), .val (.int (1 : Int32)), .unset, .unset, .unset, .unset]) rfl 60 rfl ?_
      refine g_iloadN X at_60 rfl 61 rfl ?_
      refine g_callSp X (hw _ (List.mem_of_getElem? (i := 0) rfl)) (hw _ (List.mem_of_getElem? (i := 1) rfl)) (hw _ (List.mem_of_getElem? (i := 2) rfl)) (hw _ (List.mem_of_getElem? (i := 3) rfl)) (by decide) (c_ofP l Z a0 G (-15 : Int32) bP bE h (Or.inr rfl) SP EP SE EE nPE) (by simp) (argsL := [.int (-15 : Int32)]) (rest := []) pd_0 rfl rfl rfl rfl 0 (Nat.le_of_eq rfl) (by decide) (by decide) (ck := 0) rfl (cs := 0) rfl (by decide) (by decide) at_61 64 rfl ?_
      intro w51 T49 X50 hq52
      subst hq52
      refine g_astore X50 at_64 rfl (Ls' := #[.val (.int k), .val (.int r), .val (.int (k &&& (3 : Int32))), .val (.int (-15 : Int32)), .val (.int (1 : Int32)), .val (.ref bP), .unset, .unset, .unset]) rfl 66 rfl ?_
      refine g_aload X50 at_66 rfl rfl 68 rfl ?_
      refine g_ifnonnullYes X50 at_68 73 (by decide) (by decide) ?_
      refine g_iload X50 at_73 rfl 75 rfl ?_
      refine g_ifNo X50 at_75 (XT.ii_eq_f (by decide)) 78 rfl ?_
      refine g_aload X50 at_78 rfl rfl 80 rfl ?_
      refine g_getS X50 (Or.inl (hw _ (List.mem_of_getElem? (i := 6) rfl))) (host := "") Via.refl (SP.ext X50.old) at_80 83 rfl ?_
      intro T53 X54
      refine g_acmpNo X54 at_83 rfl rfl (XT.aa_ne_f rfl) 86 rfl ?_
      refine g_iconst X54 (1 : Int32) at_86 (by decide) 87 rfl ?_
      refine g_goto X54 at_87 107 (by decide) (by decide) ?_
      refine g_istore X54 at_107 (Ls' := #[.val (.int k), .val (.int r), .val (.int (k &&& (3 : Int32))), .val (.int (-15 : Int32)), .val (.int (1 : Int32)), .val (.ref bP), .val (.int (1 : Int32)), .unset, .unset]) rfl 109 rfl ?_
      refine g_aload X54 at_109 rfl rfl 111 rfl ?_
      refine g_ldcS X54 (cs := [(97 : Int32), (98 : Int32), (32 : Int32), (32 : Int32)]) rfl (hw _ (List.mem_of_getElem? (i := 7) rfl)) hSA (by simp [EL, consts_1]) ⟨by decide, by decide⟩ (by decide) (by decide) at_111 16 (by decide) (by decide) (ck := 2) rfl (cs' := 20) rfl (by decide) (by decide) 113 rfl ?_
      intro s55 T56 h57 X58 E59 S60
      refine g_callVv X58 (hw _ (List.mem_of_getElem? (i := 15) rfl)) (hw _ (List.mem_of_getElem? (i := 16) rfl)) (hw _ (List.mem_of_getElem? (i := 18) rfl)) (hw _ (List.mem_of_getElem? (i := 17) rfl)) (hw _ (List.mem_of_getElem? (i := 2) rfl)) (hw _ (List.mem_of_getElem? (i := 19) rfl)) (nfSel (hw _ (List.mem_of_getElem? (i := 18) rfl))) (by decide) (EP.ext X58.old) (c_idP l Z a0 G s55 bP bE [] h57 S60 SP EP SE EE nPE) (by simp) (argsL := [.ref s55]) (rest := []) pd_1 rfl rfl rfl rfl 0 (Nat.le_of_eq rfl) (by decide) (by decide) (ck := 4) rfl (cs := 26) rfl (by decide) (by decide) at_113 116 rfl ?_
      intro w63 T61 h65 X62 hq64
      obtain ⟨r66, rfl, E67, S68⟩ := hq64
      refine g_astore X62 at_116 rfl (Ls' := #[.val (.int k), .val (.int r), .val (.int (k &&& (3 : Int32))), .val (.int (-15 : Int32)), .val (.int (1 : Int32)), .val (.ref bP), .val (.int (1 : Int32)), .val (.ref r66), .unset]) rfl 118 rfl ?_
      refine g_iload X62 at_118 rfl 120 rfl ?_
      refine g_ifNo X62 at_120 (XT.ii_eq_f (by decide)) 123 rfl ?_
      refine g_ldcS X62 (cs := [(97 : Int32), (98 : Int32)]) rfl (hw _ (List.mem_of_getElem? (i := 99) rfl)) hSA (by simp [EL, consts_1]) ⟨by decide, by decide⟩ (by decide) (by decide) at_123 8 (by decide) (by decide) (ck := 6) rfl (cs' := 38) rfl (by decide) (by decide) 125 rfl ?_
      intro s69 T70 h71 X72 E73 S74
      refine g_aload X72 at_125 rfl rfl 127 rfl ?_
      obtain ⟨t75, kb76, e77, f78, f79, k80, b81, l82, n83⟩ := id S74
      obtain ⟨t84, kb85, e86, f87, f88, k89, b90, l91, n92⟩ := id (S68.ext E73)
      refine g_callVp X72 (hw _ (List.mem_of_getElem? (i := 100) rfl)) (hw _ (List.mem_of_getElem? (i := 101) rfl)) (hw _ (List.mem_of_getElem? (i := 103) rfl)) (hw _ (List.mem_of_getElem? (i := 102) rfl)) (hw _ (List.mem_of_getElem? (i := 8) rfl)) (hw _ (List.mem_of_getElem? (i := 104) rfl)) (nfSel (hw _ (List.mem_of_getElem? (i := 103) rfl))) (by decide) e77 (c_seq l Z a0 G s69 r66 t75 t84 kb76 kb85 ([(97 : Int32), (98 : Int32)]) ([(97 : Int32), (98 : Int32)]) (str_inj S74 (S68.ext E73)) h71 e77 f78 f79 k80 b81 l82 e86 f87 f88 k89 b90 l91) (by simp) (argsL := [.ref r66]) (rest := []) pd_16 rfl rfl rfl rfl 0 (Nat.le_of_eq rfl) (by decide) (by decide) (ck := 6) rfl (cs := 38) rfl (by decide) (by decide) at_127 130 rfl ?_
      intro w95 T93 X94 hq96
      obtain rfl : w95 = .int (1 : Int32) := hq96
      refine g_goto X94 at_130 140 (by decide) (by decide) ?_
      refine g_istore X94 at_140 (Ls' := #[.val (.int k), .val (.int r), .val (.int (k &&& (3 : Int32))), .val (.int (-15 : Int32)), .val (.int (1 : Int32)), .val (.ref bP), .val (.int (1 : Int32)), .val (.ref r66), .val (.int (1 : Int32))]) rfl 142 rfl ?_
      refine g_iload X94 at_142 rfl 144 rfl ?_
      refine g_ifNo X94 at_144 (XT.ii_eq_f (by decide)) 147 rfl ?_
      refine g_iload X94 at_147 rfl 149 rfl ?_
      refine g_ifNo X94 at_149 (XT.ii_eq_f (by decide)) 152 rfl ?_
      refine g_iconst X94 (1 : Int32) at_152 (by decide) 153 rfl ?_
      refine g_goto X94 at_153 157 (by decide) (by decide) ?_
      exact g_retN X94 (t := .boolean) rfl (by simp) at_157 _ rfl (by decide) (by decide) rfl
    · refine g_icmpYes X at_15 (XT.ii_ne_t hb15) 24 (by decide) (by decide) ?_
      refine g_iloadN X at_24 rfl 25 rfl ?_
      refine g_iconst X (2 : Int32) at_25 (by decide) 26 rfl ?_
      by_cases hb26 : (k &&& (3 : Int32)) = (2 : Int32)
      · refine g_icmpNo X at_26 (XT.ii_ne_f hb26) 29 rfl ?_
        refine g_iloadN X at_29 rfl 30 rfl ?_
        refine g_bipush X (31 : Int32) at_30 (by decide) 32 rfl ?_
        refine g_iand X at_32 _ rfl 33 rfl ?_
        refine g_bipush X (16 : Int32) at_33 (by decide) 35 rfl ?_
        refine g_isub X at_35 _ rfl 36 rfl ?_
        refine g_istoreN X at_36 (Ls' := #[.val (.int k), .val (.int r), .val (.int (k &&& (3 : Int32))), .val (.int ((r &&& (31 : Int32)) - (16 : Int32))), .unset, .unset, .unset, .unset, .unset]) rfl 37 rfl ?_
        refine g_goto X at_37 42 (by decide) (by decide) ?_
        refine g_iloadN X at_42 rfl 43 rfl ?_
        refine g_iconst X (1 : Int32) at_43 (by decide) 44 rfl ?_
        by_cases hb44 : ((r &&& (31 : Int32)) - (16 : Int32)) = (1 : Int32)
        · refine g_icmpYes X at_44 (XT.ii_eq_t hb44) 53 (by decide) (by decide) ?_
          refine g_iconst X (1 : Int32) at_53 (by decide) 54 rfl ?_
          refine g_goto X at_54 58 (by decide) (by decide) ?_
          refine g_istore X at_58 (Ls' := #[.val (.int k), .val (.int r), .val (.int (k &&& (3 : Int32))), .val (.int ((r &&& (31 : Int32)) - (16 : Int32))), .val (.int (1 : Int32)), .unset, .unset, .unset, .unset]) rfl 60 rfl ?_
          refine g_iloadN X at_60 rfl 61 rfl ?_
          refine g_callSp X (hw _ (List.mem_of_getElem? (i := 0) rfl)) (hw _ (List.mem_of_getElem? (i := 1) rfl)) (hw _ (List.mem_of_getElem? (i := 2) rfl)) (hw _ (List.mem_of_getElem? (i := 3) rfl)) (by decide) (c_ofP l Z a0 G ((r &&& (31 : Int32)) - (16 : Int32)) bP bE h (Or.inl hb44) SP EP SE EE nPE) (by simp) (argsL := [.int ((r &&& (31 : Int32)) - (16 : Int32))]) (rest := []) pd_0 rfl rfl rfl rfl 0 (Nat.le_of_eq rfl) (by decide) (by decide) (ck := 0) rfl (cs := 0) rfl (by decide) (by decide) at_61 64 rfl ?_
          intro w99 T97 X98 hq100
          subst hq100
          refine g_astore X98 at_64 rfl (Ls' := #[.val (.int k), .val (.int r), .val (.int (k &&& (3 : Int32))), .val (.int ((r &&& (31 : Int32)) - (16 : Int32))), .val (.int (1 : Int32)), .val (.ref bP), .unset, .unset, .unset]) rfl 66 rfl ?_
          refine g_aload X98 at_66 rfl rfl 68 rfl ?_
          refine g_ifnonnullYes X98 at_68 73 (by decide) (by decide) ?_
          refine g_iload X98 at_73 rfl 75 rfl ?_
          refine g_ifNo X98 at_75 (XT.ii_eq_f (by decide)) 78 rfl ?_
          refine g_aload X98 at_78 rfl rfl 80 rfl ?_
          refine g_getS X98 (Or.inl (hw _ (List.mem_of_getElem? (i := 6) rfl))) (host := "") Via.refl (SP.ext X98.old) at_80 83 rfl ?_
          intro T101 X102
          refine g_acmpNo X102 at_83 rfl rfl (XT.aa_ne_f rfl) 86 rfl ?_
          refine g_iconst X102 (1 : Int32) at_86 (by decide) 87 rfl ?_
          refine g_goto X102 at_87 107 (by decide) (by decide) ?_
          refine g_istore X102 at_107 (Ls' := #[.val (.int k), .val (.int r), .val (.int (k &&& (3 : Int32))), .val (.int ((r &&& (31 : Int32)) - (16 : Int32))), .val (.int (1 : Int32)), .val (.ref bP), .val (.int (1 : Int32)), .unset, .unset]) rfl 109 rfl ?_
          refine g_aload X102 at_109 rfl rfl 111 rfl ?_
          refine g_ldcS X102 (cs := [(97 : Int32), (98 : Int32), (32 : Int32), (32 : Int32)]) rfl (hw _ (List.mem_of_getElem? (i := 7) rfl)) hSA (by simp [EL, consts_1]) ⟨by decide, by decide⟩ (by decide) (by decide) at_111 16 (by decide) (by decide) (ck := 2) rfl (cs' := 20) rfl (by decide) (by decide) 113 rfl ?_
          intro s103 T104 h105 X106 E107 S108
          refine g_callVv X106 (hw _ (List.mem_of_getElem? (i := 15) rfl)) (hw _ (List.mem_of_getElem? (i := 16) rfl)) (hw _ (List.mem_of_getElem? (i := 18) rfl)) (hw _ (List.mem_of_getElem? (i := 17) rfl)) (hw _ (List.mem_of_getElem? (i := 2) rfl)) (hw _ (List.mem_of_getElem? (i := 19) rfl)) (nfSel (hw _ (List.mem_of_getElem? (i := 18) rfl))) (by decide) (EP.ext X106.old) (c_idP l Z a0 G s103 bP bE [] h105 S108 SP EP SE EE nPE) (by simp) (argsL := [.ref s103]) (rest := []) pd_1 rfl rfl rfl rfl 0 (Nat.le_of_eq rfl) (by decide) (by decide) (ck := 4) rfl (cs := 26) rfl (by decide) (by decide) at_113 116 rfl ?_
          intro w111 T109 h113 X110 hq112
          obtain ⟨r114, rfl, E115, S116⟩ := hq112
          refine g_astore X110 at_116 rfl (Ls' := #[.val (.int k), .val (.int r), .val (.int (k &&& (3 : Int32))), .val (.int ((r &&& (31 : Int32)) - (16 : Int32))), .val (.int (1 : Int32)), .val (.ref bP), .val (.int (1 : Int32)), .val (.ref r114), .unset]) rfl 118 rfl ?_
          refine g_iload X110 at_118 rfl 120 rfl ?_
          refine g_ifNo X110 at_120 (XT.ii_eq_f (by decide)) 123 rfl ?_
          refine g_ldcS X110 (cs := [(97 : Int32), (98 : Int32)]) rfl (hw _ (List.mem_of_getElem? (i := 99) rfl)) hSA (by simp [EL, consts_1]) ⟨by decide, by decide⟩ (by decide) (by decide) at_123 8 (by decide) (by decide) (ck := 6) rfl (cs' := 38) rfl (by decide) (by decide) 125 rfl ?_
          intro s117 T118 h119 X120 E121 S122
          refine g_aload X120 at_125 rfl rfl 127 rfl ?_
          obtain ⟨t123, kb124, e125, f126, f127, k128, b129, l130, n131⟩ := id S122
          obtain ⟨t132, kb133, e134, f135, f136, k137, b138, l139, n140⟩ := id (S116.ext E121)
          refine g_callVp X120 (hw _ (List.mem_of_getElem? (i := 100) rfl)) (hw _ (List.mem_of_getElem? (i := 101) rfl)) (hw _ (List.mem_of_getElem? (i := 103) rfl)) (hw _ (List.mem_of_getElem? (i := 102) rfl)) (hw _ (List.mem_of_getElem? (i := 8) rfl)) (hw _ (List.mem_of_getElem? (i := 104) rfl)) (nfSel (hw _ (List.mem_of_getElem? (i := 103) rfl))) (by decide) e125 (c_seq l Z a0 G s117 r114 t123 t132 kb124 kb133 ([(97 : Int32), (98 : Int32)]) ([(97 : Int32), (98 : Int32)]) (str_inj S122 (S116.ext E121)) h119 e125 f126 f127 k128 b129 l130 e134 f135 f136 k137 b138 l139) (by simp) (argsL := [.ref r114]) (rest := []) pd_16 rfl rfl rfl rfl 0 (Nat.le_of_eq rfl) (by decide) (by decide) (ck := 6) rfl (cs := 38) rfl (by decide) (by decide) at_127 130 rfl ?_
          intro w143 T141 X142 hq144
          obtain rfl : w143 = .int (1 : Int32) := hq144
          refine g_goto X142 at_130 140 (by decide) (by decide) ?_
          refine g_istore X142 at_140 (Ls' := #[.val (.int k), .val (.int r), .val (.int (k &&& (3 : Int32))), .val (.int ((r &&& (31 : Int32)) - (16 : Int32))), .val (.int (1 : Int32)), .val (.ref bP), .val (.int (1 : Int32)), .val (.ref r114), .val (.int (1 : Int32))]) rfl 142 rfl ?_
          refine g_iload X142 at_142 rfl 144 rfl ?_
          refine g_ifNo X142 at_144 (XT.ii_eq_f (by decide)) 147 rfl ?_
          refine g_iload X142 at_147 rfl 149 rfl ?_
          refine g_ifNo X142 at_149 (XT.ii_eq_f (by decide)) 152 rfl ?_
          refine g_iconst X142 (1 : Int32) at_152 (by decide) 153 rfl ?_
          refine g_goto X142 at_153 157 (by decide) (by decide) ?_
          exact g_retN X142 (t := .boolean) rfl (by simp) at_157 _ rfl (by decide) (by decide) rfl
        · refine g_icmpNo X at_44 (XT.ii_eq_f hb44) 47 rfl ?_
          refine g_iloadN X at_47 rfl 48 rfl ?_
          refine g_bipush X (-15 : Int32) at_48 (by decide) 50 rfl ?_
          by_cases hb50 : ((r &&& (31 : Int32)) - (16 : Int32)) = (-15 : Int32)
          · refine g_icmpNo X at_50 (XT.ii_ne_f hb50) 53 rfl ?_
            refine g_iconst X (1 : Int32) at_53 (by decide) 54 rfl ?_
            refine g_goto X at_54 58 (by decide) (by decide) ?_
            refine g_istore X at_58 (Ls' := #[.val (.int k), .val (.int r), .val (.int (k &&& (3 : Int32))), .val (.int ((r &&& (31 : Int32)) - (16 : Int32))), .val (.int (1 : Int32)), .unset, .unset, .unset, .unset]) rfl 60 rfl ?_
            refine g_iloadN X at_60 rfl 61 rfl ?_
            refine g_callSp X (hw _ (List.mem_of_getElem? (i := 0) rfl)) (hw _ (List.mem_of_getElem? (i := 1) rfl)) (hw _ (List.mem_of_getElem? (i := 2) rfl)) (hw _ (List.mem_of_getElem? (i := 3) rfl)) (by decide) (c_ofP l Z a0 G ((r &&& (31 : Int32)) - (16 : Int32)) bP bE h (Or.inr hb50) SP EP SE EE nPE) (by simp) (argsL := [.int ((r &&& (31 : Int32)) - (16 : Int32))]) (rest := []) pd_0 rfl rfl rfl rfl 0 (Nat.le_of_eq rfl) (by decide) (by decide) (ck := 0) rfl (cs := 0) rfl (by decide) (by decide) at_61 64 rfl ?_
            intro w147 T145 X146 hq148
            subst hq148
            refine g_astore X146 at_64 rfl (Ls' := #[.val (.int k), .val (.int r), .val (.int (k &&& (3 : Int32))), .val (.int ((r &&& (31 : Int32)) - (16 : Int32))), .val (.int (1 : Int32)), .val (.ref bP), .unset, .unset, .unset]) rfl 66 rfl ?_
            refine g_aload X146 at_66 rfl rfl 68 rfl ?_
            refine g_ifnonnullYes X146 at_68 73 (by decide) (by decide) ?_
            refine g_iload X146 at_73 rfl 75 rfl ?_
            refine g_ifNo X146 at_75 (XT.ii_eq_f (by decide)) 78 rfl ?_
            refine g_aload X146 at_78 rfl rfl 80 rfl ?_
            refine g_getS X146 (Or.inl (hw _ (List.mem_of_getElem? (i := 6) rfl))) (host := "") Via.refl (SP.ext X146.old) at_80 83 rfl ?_
            intro T149 X150
            refine g_acmpNo X150 at_83 rfl rfl (XT.aa_ne_f rfl) 86 rfl ?_
            refine g_iconst X150 (1 : Int32) at_86 (by decide) 87 rfl ?_
            refine g_goto X150 at_87 107 (by decide) (by decide) ?_
            refine g_istore X150 at_107 (Ls' := #[.val (.int k), .val (.int r), .val (.int (k &&& (3 : Int32))), .val (.int ((r &&& (31 : Int32)) - (16 : Int32))), .val (.int (1 : Int32)), .val (.ref bP), .val (.int (1 : Int32)), .unset, .unset]) rfl 109 rfl ?_
            refine g_aload X150 at_109 rfl rfl 111 rfl ?_
            refine g_ldcS X150 (cs := [(97 : Int32), (98 : Int32), (32 : Int32), (32 : Int32)]) rfl (hw _ (List.mem_of_getElem? (i := 7) rfl)) hSA (by simp [EL, consts_1]) ⟨by decide, by decide⟩ (by decide) (by decide) at_111 16 (by decide) (by decide) (ck := 2) rfl (cs' := 20) rfl (by decide) (by decide) 113 rfl ?_
            intro s151 T152 h153 X154 E155 S156
            refine g_callVv X154 (hw _ (List.mem_of_getElem? (i := 15) rfl)) (hw _ (List.mem_of_getElem? (i := 16) rfl)) (hw _ (List.mem_of_getElem? (i := 18) rfl)) (hw _ (List.mem_of_getElem? (i := 17) rfl)) (hw _ (List.mem_of_getElem? (i := 2) rfl)) (hw _ (List.mem_of_getElem? (i := 19) rfl)) (nfSel (hw _ (List.mem_of_getElem? (i := 18) rfl))) (by decide) (EP.ext X154.old) (c_idP l Z a0 G s151 bP bE [] h153 S156 SP EP SE EE nPE) (by simp) (argsL := [.ref s151]) (rest := []) pd_1 rfl rfl rfl rfl 0 (Nat.le_of_eq rfl) (by decide) (by decide) (ck := 4) rfl (cs := 26) rfl (by decide) (by decide) at_113 116 rfl ?_
            intro w159 T157 h161 X158 hq160
            obtain ⟨r162, rfl, E163, S164⟩ := hq160
            refine g_astore X158 at_116 rfl (Ls' := #[.val (.int k), .val (.int r), .val (.int (k &&& (3 : Int32))), .val (.int ((r &&& (31 : Int32)) - (16 : Int32))), .val (.int (1 : Int32)), .val (.ref bP), .val (.int (1 : Int32)), .val (.ref r162), .unset]) rfl 118 rfl ?_
            refine g_iload X158 at_118 rfl 120 rfl ?_
            refine g_ifNo X158 at_120 (XT.ii_eq_f (by decide)) 123 rfl ?_
            refine g_ldcS X158 (cs := [(97 : Int32), (98 : Int32)]) rfl (hw _ (List.mem_of_getElem? (i := 99) rfl)) hSA (by simp [EL, consts_1]) ⟨by decide, by decide⟩ (by decide) (by decide) at_123 8 (by decide) (by decide) (ck := 6) rfl (cs' := 38) rfl (by decide) (by decide) 125 rfl ?_
            intro s165 T166 h167 X168 E169 S170
            refine g_aload X168 at_125 rfl rfl 127 rfl ?_
            obtain ⟨t171, kb172, e173, f174, f175, k176, b177, l178, n179⟩ := id S170
            obtain ⟨t180, kb181, e182, f183, f184, k185, b186, l187, n188⟩ := id (S164.ext E169)
            refine g_callVp X168 (hw _ (List.mem_of_getElem? (i := 100) rfl)) (hw _ (List.mem_of_getElem? (i := 101) rfl)) (hw _ (List.mem_of_getElem? (i := 103) rfl)) (hw _ (List.mem_of_getElem? (i := 102) rfl)) (hw _ (List.mem_of_getElem? (i := 8) rfl)) (hw _ (List.mem_of_getElem? (i := 104) rfl)) (nfSel (hw _ (List.mem_of_getElem? (i := 103) rfl))) (by decide) e173 (c_seq l Z a0 G s165 r162 t171 t180 kb172 kb181 ([(97 : Int32), (98 : Int32)]) ([(97 : Int32), (98 : Int32)]) (str_inj S170 (S164.ext E169)) h167 e173 f174 f175 k176 b177 l178 e182 f183 f184 k185 b186 l187) (by simp) (argsL := [.ref r162]) (rest := []) pd_16 rfl rfl rfl rfl 0 (Nat.le_of_eq rfl) (by decide) (by decide) (ck := 6) rfl (cs := 38) rfl (by decide) (by decide) at_127 130 rfl ?_
            intro w191 T189 X190 hq192
            obtain rfl : w191 = .int (1 : Int32) := hq192
            refine g_goto X190 at_130 140 (by decide) (by decide) ?_
            refine g_istore X190 at_140 (Ls' := #[.val (.int k), .val (.int r), .val (.int (k &&& (3 : Int32))), .val (.int ((r &&& (31 : Int32)) - (16 : Int32))), .val (.int (1 : Int32)), .val (.ref bP), .val (.int (1 : Int32)), .val (.ref r162), .val (.int (1 : Int32))]) rfl 142 rfl ?_
            refine g_iload X190 at_142 rfl 144 rfl ?_
            refine g_ifNo X190 at_144 (XT.ii_eq_f (by decide)) 147 rfl ?_
            refine g_iload X190 at_147 rfl 149 rfl ?_
            refine g_ifNo X190 at_149 (XT.ii_eq_f (by decide)) 152 rfl ?_
            refine g_iconst X190 (1 : Int32) at_152 (by decide) 153 rfl ?_
            refine g_goto X190 at_153 157 (by decide) (by decide) ?_
            exact g_retN X190 (t := .boolean) rfl (by simp) at_157 _ rfl (by decide) (by decide) rfl
          · refine g_icmpYes X at_50 (XT.ii_ne_t hb50) 57 (by decide) (by decide) ?_
            refine g_iconst X (0 : Int32) at_57 (by decide) 58 rfl ?_
            refine g_istore X at_58 (Ls' := #[.val (.int k), .val (.int r), .val (.int (k &&& (3 : Int32))), .val (.int ((r &&& (31 : Int32)) - (16 : Int32))), .val (.int (0 : Int32)), .unset, .unset, .unset, .unset]) rfl 60 rfl ?_
            refine g_iloadN X at_60 rfl 61 rfl ?_
            refine g_callSp X (hw _ (List.mem_of_getElem? (i := 0) rfl)) (hw _ (List.mem_of_getElem? (i := 1) rfl)) (hw _ (List.mem_of_getElem? (i := 2) rfl)) (hw _ (List.mem_of_getElem? (i := 3) rfl)) (by decide) (c_ofE l Z a0 G ((r &&& (31 : Int32)) - (16 : Int32)) bP bE h hb44 hb50 SP EP SE EE nPE) (by simp) (argsL := [.int ((r &&& (31 : Int32)) - (16 : Int32))]) (rest := []) pd_0 rfl rfl rfl rfl 0 (Nat.le_of_eq rfl) (by decide) (by decide) (ck := 0) rfl (cs := 0) rfl (by decide) (by decide) at_61 64 rfl ?_
            intro w195 T193 X194 hq196
            subst hq196
            refine g_astore X194 at_64 rfl (Ls' := #[.val (.int k), .val (.int r), .val (.int (k &&& (3 : Int32))), .val (.int ((r &&& (31 : Int32)) - (16 : Int32))), .val (.int (0 : Int32)), .val (.ref bE), .unset, .unset, .unset]) rfl 66 rfl ?_
            refine g_aload X194 at_66 rfl rfl 68 rfl ?_
            refine g_ifnonnullYes X194 at_68 73 (by decide) (by decide) ?_
            refine g_iload X194 at_73 rfl 75 rfl ?_
            refine g_ifYes X194 at_75 (XT.ii_eq_t (by decide)) 94 (by decide) (by decide) ?_
            refine g_aload X194 at_94 rfl rfl 96 rfl ?_
            refine g_getS X194 (Or.inl (hw _ (List.mem_of_getElem? (i := 109) rfl))) (host := "") Via.refl (SE.ext X194.old) at_96 99 rfl ?_
            intro T197 X198
            refine g_acmpNo X198 at_99 rfl rfl (XT.aa_ne_f rfl) 102 rfl ?_
            refine g_iconst X198 (1 : Int32) at_102 (by decide) 103 rfl ?_
            refine g_goto X198 at_103 107 (by decide) (by decide) ?_
            refine g_istore X198 at_107 (Ls' := #[.val (.int k), .val (.int r), .val (.int (k &&& (3 : Int32))), .val (.int ((r &&& (31 : Int32)) - (16 : Int32))), .val (.int (0 : Int32)), .val (.ref bE), .val (.int (1 : Int32)), .unset, .unset]) rfl 109 rfl ?_
            refine g_aload X198 at_109 rfl rfl 111 rfl ?_
            refine g_ldcS X198 (cs := [(97 : Int32), (98 : Int32), (32 : Int32), (32 : Int32)]) rfl (hw _ (List.mem_of_getElem? (i := 7) rfl)) hSA (by simp [EL, consts_1]) ⟨by decide, by decide⟩ (by decide) (by decide) at_111 16 (by decide) (by decide) (ck := 2) rfl (cs' := 20) rfl (by decide) (by decide) 113 rfl ?_
            intro s199 T200 h201 X202 E203 S204
            refine g_callVp X202 (hw _ (List.mem_of_getElem? (i := 15) rfl)) (hw _ (List.mem_of_getElem? (i := 16) rfl)) (hw _ (List.mem_of_getElem? (i := 18) rfl)) (hw _ (List.mem_of_getElem? (i := 17) rfl)) (hw _ (List.mem_of_getElem? (i := 2) rfl)) (hw _ (List.mem_of_getElem? (i := 19) rfl)) (nfSel (hw _ (List.mem_of_getElem? (i := 18) rfl))) (by decide) (EE.ext X202.old) (c_idE l Z a0 G s199 bP bE h201 SP EP SE EE nPE) (by simp) (argsL := [.ref s199]) (rest := []) pd_1 rfl rfl rfl rfl 0 (Nat.le_of_eq rfl) (by decide) (by decide) (ck := 2) rfl (cs := 20) rfl (by decide) (by decide) at_113 116 rfl ?_
            intro w207 T205 X206 hq208
            subst hq208
            refine g_astore X206 at_116 rfl (Ls' := #[.val (.int k), .val (.int r), .val (.int (k &&& (3 : Int32))), .val (.int ((r &&& (31 : Int32)) - (16 : Int32))), .val (.int (0 : Int32)), .val (.ref bE), .val (.int (1 : Int32)), .val (.ref s199), .unset]) rfl 118 rfl ?_
            refine g_iload X206 at_118 rfl 120 rfl ?_
            refine g_ifYes X206 at_120 (XT.ii_eq_t (by decide)) 133 (by decide) (by decide) ?_
            refine g_ldcS X206 (cs := [(97 : Int32), (98 : Int32), (32 : Int32), (32 : Int32)]) rfl (hw _ (List.mem_of_getElem? (i := 7) rfl)) hSA (by simp [EL, consts_1]) ⟨by decide, by decide⟩ (by decide) (by decide) at_133 16 (by decide) (by decide) (ck := 4) rfl (cs' := 40) rfl (by decide) (by decide) 135 rfl ?_
            intro s209 T210 h211 X212 E213 S214
            refine g_aload X212 at_135 rfl rfl 137 rfl ?_
            obtain ⟨t215, kb216, e217, f218, f219, k220, b221, l222, n223⟩ := id S214
            obtain ⟨t224, kb225, e226, f227, f228, k229, b230, l231, n232⟩ := id (S204.ext E213)
            refine g_callVp X212 (hw _ (List.mem_of_getElem? (i := 100) rfl)) (hw _ (List.mem_of_getElem? (i := 101) rfl)) (hw _ (List.mem_of_getElem? (i := 103) rfl)) (hw _ (List.mem_of_getElem? (i := 102) rfl)) (hw _ (List.mem_of_getElem? (i := 8) rfl)) (hw _ (List.mem_of_getElem? (i := 104) rfl)) (nfSel (hw _ (List.mem_of_getElem? (i := 103) rfl))) (by decide) e217 (c_seq l Z a0 G s209 s199 t215 t224 kb216 kb225 ([(97 : Int32), (98 : Int32), (32 : Int32), (32 : Int32)]) ([(97 : Int32), (98 : Int32), (32 : Int32), (32 : Int32)]) (str_inj S214 (S204.ext E213)) h211 e217 f218 f219 k220 b221 l222 e226 f227 f228 k229 b230 l231) (by simp) (argsL := [.ref s199]) (rest := []) pd_16 rfl rfl rfl rfl 0 (Nat.le_of_eq rfl) (by decide) (by decide) (ck := 4) rfl (cs := 40) rfl (by decide) (by decide) at_137 140 rfl ?_
            intro w235 T233 X234 hq236
            obtain rfl : w235 = .int (1 : Int32) := hq236
            refine g_istore X234 at_140 (Ls' := #[.val (.int k), .val (.int r), .val (.int (k &&& (3 : Int32))), .val (.int ((r &&& (31 : Int32)) - (16 : Int32))), .val (.int (0 : Int32)), .val (.ref bE), .val (.int (1 : Int32)), .val (.ref s199), .val (.int (1 : Int32))]) rfl 142 rfl ?_
            refine g_iload X234 at_142 rfl 144 rfl ?_
            refine g_ifNo X234 at_144 (XT.ii_eq_f (by decide)) 147 rfl ?_
            refine g_iload X234 at_147 rfl 149 rfl ?_
            refine g_ifNo X234 at_149 (XT.ii_eq_f (by decide)) 152 rfl ?_
            refine g_iconst X234 (1 : Int32) at_152 (by decide) 153 rfl ?_
            refine g_goto X234 at_153 157 (by decide) (by decide) ?_
            exact g_retN X234 (t := .boolean) rfl (by simp) at_157 _ rfl (by decide) (by decide) rfl
      · refine g_icmpYes X at_26 (XT.ii_ne_t hb26) 40 (by decide) (by decide) ?_
        refine g_iloadN X at_40 rfl 41 rfl ?_
        refine g_istoreN X at_41 (Ls' := #[.val (.int k), .val (.int r), .val (.int (k &&& (3 : Int32))), .val (.int r), .unset, .unset, .unset, .unset, .unset]) rfl 42 rfl ?_
        refine g_iloadN X at_42 rfl 43 rfl ?_
        refine g_iconst X (1 : Int32) at_43 (by decide) 44 rfl ?_
        by_cases hb44 : r = (1 : Int32)
        · refine g_icmpYes X at_44 (XT.ii_eq_t hb44) 53 (by decide) (by decide) ?_
          refine g_iconst X (1 : Int32) at_53 (by decide) 54 rfl ?_
          refine g_goto X at_54 58 (by decide) (by decide) ?_
          refine g_istore X at_58 (Ls' := #[.val (.int k), .val (.int r), .val (.int (k &&& (3 : Int32))), .val (.int r), .val (.int (1 : Int32)), .unset, .unset, .unset, .unset]) rfl 60 rfl ?_
          refine g_iloadN X at_60 rfl 61 rfl ?_
          refine g_callSp X (hw _ (List.mem_of_getElem? (i := 0) rfl)) (hw _ (List.mem_of_getElem? (i := 1) rfl)) (hw _ (List.mem_of_getElem? (i := 2) rfl)) (hw _ (List.mem_of_getElem? (i := 3) rfl)) (by decide) (c_ofP l Z a0 G r bP bE h (Or.inl hb44) SP EP SE EE nPE) (by simp) (argsL := [.int r]) (rest := []) pd_0 rfl rfl rfl rfl 0 (Nat.le_of_eq rfl) (by decide) (by decide) (ck := 0) rfl (cs := 0) rfl (by decide) (by decide) at_61 64 rfl ?_
          intro w239 T237 X238 hq240
          subst hq240
          refine g_astore X238 at_64 rfl (Ls' := #[.val (.int k), .val (.int r), .val (.int (k &&& (3 : Int32))), .val (.int r), .val (.int (1 : Int32)), .val (.ref bP), .unset, .unset, .unset]) rfl 66 rfl ?_
          refine g_aload X238 at_66 rfl rfl 68 rfl ?_
          refine g_ifnonnullYes X238 at_68 73 (by decide) (by decide) ?_
          refine g_iload X238 at_73 rfl 75 rfl ?_
          refine g_ifNo X238 at_75 (XT.ii_eq_f (by decide)) 78 rfl ?_
          refine g_aload X238 at_78 rfl rfl 80 rfl ?_
          refine g_getS X238 (Or.inl (hw _ (List.mem_of_getElem? (i := 6) rfl))) (host := "") Via.refl (SP.ext X238.old) at_80 83 rfl ?_
          intro T241 X242
          refine g_acmpNo X242 at_83 rfl rfl (XT.aa_ne_f rfl) 86 rfl ?_
          refine g_iconst X242 (1 : Int32) at_86 (by decide) 87 rfl ?_
          refine g_goto X242 at_87 107 (by decide) (by decide) ?_
          refine g_istore X242 at_107 (Ls' := #[.val (.int k), .val (.int r), .val (.int (k &&& (3 : Int32))), .val (.int r), .val (.int (1 : Int32)), .val (.ref bP), .val (.int (1 : Int32)), .unset, .unset]) rfl 109 rfl ?_
          refine g_aload X242 at_109 rfl rfl 111 rfl ?_
          refine g_ldcS X242 (cs := [(97 : Int32), (98 : Int32), (32 : Int32), (32 : Int32)]) rfl (hw _ (List.mem_of_getElem? (i := 7) rfl)) hSA (by simp [EL, consts_1]) ⟨by decide, by decide⟩ (by decide) (by decide) at_111 16 (by decide) (by decide) (ck := 2) rfl (cs' := 20) rfl (by decide) (by decide) 113 rfl ?_
          intro s243 T244 h245 X246 E247 S248
          refine g_callVv X246 (hw _ (List.mem_of_getElem? (i := 15) rfl)) (hw _ (List.mem_of_getElem? (i := 16) rfl)) (hw _ (List.mem_of_getElem? (i := 18) rfl)) (hw _ (List.mem_of_getElem? (i := 17) rfl)) (hw _ (List.mem_of_getElem? (i := 2) rfl)) (hw _ (List.mem_of_getElem? (i := 19) rfl)) (nfSel (hw _ (List.mem_of_getElem? (i := 18) rfl))) (by decide) (EP.ext X246.old) (c_idP l Z a0 G s243 bP bE [] h245 S248 SP EP SE EE nPE) (by simp) (argsL := [.ref s243]) (rest := []) pd_1 rfl rfl rfl rfl 0 (Nat.le_of_eq rfl) (by decide) (by decide) (ck := 4) rfl (cs := 26) rfl (by decide) (by decide) at_113 116 rfl ?_
          intro w251 T249 h253 X250 hq252
          obtain ⟨r254, rfl, E255, S256⟩ := hq252
          refine g_astore X250 at_116 rfl (Ls' := #[.val (.int k), .val (.int r), .val (.int (k &&& (3 : Int32))), .val (.int r), .val (.int (1 : Int32)), .val (.ref bP), .val (.int (1 : Int32)), .val (.ref r254), .unset]) rfl 118 rfl ?_
          refine g_iload X250 at_118 rfl 120 rfl ?_
          refine g_ifNo X250 at_120 (XT.ii_eq_f (by decide)) 123 rfl ?_
          refine g_ldcS X250 (cs := [(97 : Int32), (98 : Int32)]) rfl (hw _ (List.mem_of_getElem? (i := 99) rfl)) hSA (by simp [EL, consts_1]) ⟨by decide, by decide⟩ (by decide) (by decide) at_123 8 (by decide) (by decide) (ck := 6) rfl (cs' := 38) rfl (by decide) (by decide) 125 rfl ?_
          intro s257 T258 h259 X260 E261 S262
          refine g_aload X260 at_125 rfl rfl 127 rfl ?_
          obtain ⟨t263, kb264, e265, f266, f267, k268, b269, l270, n271⟩ := id S262
          obtain ⟨t272, kb273, e274, f275, f276, k277, b278, l279, n280⟩ := id (S256.ext E261)
          refine g_callVp X260 (hw _ (List.mem_of_getElem? (i := 100) rfl)) (hw _ (List.mem_of_getElem? (i := 101) rfl)) (hw _ (List.mem_of_getElem? (i := 103) rfl)) (hw _ (List.mem_of_getElem? (i := 102) rfl)) (hw _ (List.mem_of_getElem? (i := 8) rfl)) (hw _ (List.mem_of_getElem? (i := 104) rfl)) (nfSel (hw _ (List.mem_of_getElem? (i := 103) rfl))) (by decide) e265 (c_seq l Z a0 G s257 r254 t263 t272 kb264 kb273 ([(97 : Int32), (98 : Int32)]) ([(97 : Int32), (98 : Int32)]) (str_inj S262 (S256.ext E261)) h259 e265 f266 f267 k268 b269 l270 e274 f275 f276 k277 b278 l279) (by simp) (argsL := [.ref r254]) (rest := []) pd_16 rfl rfl rfl rfl 0 (Nat.le_of_eq rfl) (by decide) (by decide) (ck := 6) rfl (cs := 38) rfl (by decide) (by decide) at_127 130 rfl ?_
          intro w283 T281 X282 hq284
          obtain rfl : w283 = .int (1 : Int32) := hq284
          refine g_goto X282 at_130 140 (by decide) (by decide) ?_
          refine g_istore X282 at_140 (Ls' := #[.val (.int k), .val (.int r), .val (.int (k &&& (3 : Int32))), .val (.int r), .val (.int (1 : Int32)), .val (.ref bP), .val (.int (1 : Int32)), .val (.ref r254), .val (.int (1 : Int32))]) rfl 142 rfl ?_
          refine g_iload X282 at_142 rfl 144 rfl ?_
          refine g_ifNo X282 at_144 (XT.ii_eq_f (by decide)) 147 rfl ?_
          refine g_iload X282 at_147 rfl 149 rfl ?_
          refine g_ifNo X282 at_149 (XT.ii_eq_f (by decide)) 152 rfl ?_
          refine g_iconst X282 (1 : Int32) at_152 (by decide) 153 rfl ?_
          refine g_goto X282 at_153 157 (by decide) (by decide) ?_
          exact g_retN X282 (t := .boolean) rfl (by simp) at_157 _ rfl (by decide) (by decide) rfl
        · refine g_icmpNo X at_44 (XT.ii_eq_f hb44) 47 rfl ?_
          refine g_iloadN X at_47 rfl 48 rfl ?_
          refine g_bipush X (-15 : Int32) at_48 (by decide) 50 rfl ?_
          by_cases hb50 : r = (-15 : Int32)
          · refine g_icmpNo X at_50 (XT.ii_ne_f hb50) 53 rfl ?_
            refine g_iconst X (1 : Int32) at_53 (by decide) 54 rfl ?_
            refine g_goto X at_54 58 (by decide) (by decide) ?_
            refine g_istore X at_58 (Ls' := #[.val (.int k), .val (.int r), .val (.int (k &&& (3 : Int32))), .val (.int r), .val (.int (1 : Int32)), .unset, .unset, .unset, .unset]) rfl 60 rfl ?_
            refine g_iloadN X at_60 rfl 61 rfl ?_
            refine g_callSp X (hw _ (List.mem_of_getElem? (i := 0) rfl)) (hw _ (List.mem_of_getElem? (i := 1) rfl)) (hw _ (List.mem_of_getElem? (i := 2) rfl)) (hw _ (List.mem_of_getElem? (i := 3) rfl)) (by decide) (c_ofP l Z a0 G r bP bE h (Or.inr hb50) SP EP SE EE nPE) (by simp) (argsL := [.int r]) (rest := []) pd_0 rfl rfl rfl rfl 0 (Nat.le_of_eq rfl) (by decide) (by decide) (ck := 0) rfl (cs := 0) rfl (by decide) (by decide) at_61 64 rfl ?_
            intro w287 T285 X286 hq288
            subst hq288
            refine g_astore X286 at_64 rfl (Ls' := #[.val (.int k), .val (.int r), .val (.int (k &&& (3 : Int32))), .val (.int r), .val (.int (1 : Int32)), .val (.ref bP), .unset, .unset, .unset]) rfl 66 rfl ?_
            refine g_aload X286 at_66 rfl rfl 68 rfl ?_
            refine g_ifnonnullYes X286 at_68 73 (by decide) (by decide) ?_
            refine g_iload X286 at_73 rfl 75 rfl ?_
            refine g_ifNo X286 at_75 (XT.ii_eq_f (by decide)) 78 rfl ?_
            refine g_aload X286 at_78 rfl rfl 80 rfl ?_
            refine g_getS X286 (Or.inl (hw _ (List.mem_of_getElem? (i := 6) rfl))) (host := "") Via.refl (SP.ext X286.old) at_80 83 rfl ?_
            intro T289 X290
            refine g_acmpNo X290 at_83 rfl rfl (XT.aa_ne_f rfl) 86 rfl ?_
            refine g_iconst X290 (1 : Int32) at_86 (by decide) 87 rfl ?_
            refine g_goto X290 at_87 107 (by decide) (by decide) ?_
            refine g_istore X290 at_107 (Ls' := #[.val (.int k), .val (.int r), .val (.int (k &&& (3 : Int32))), .val (.int r), .val (.int (1 : Int32)), .val (.ref bP), .val (.int (1 : Int32)), .unset, .unset]) rfl 109 rfl ?_
            refine g_aload X290 at_109 rfl rfl 111 rfl ?_
            refine g_ldcS X290 (cs := [(97 : Int32), (98 : Int32), (32 : Int32), (32 : Int32)]) rfl (hw _ (List.mem_of_getElem? (i := 7) rfl)) hSA (by simp [EL, consts_1]) ⟨by decide, by decide⟩ (by decide) (by decide) at_111 16 (by decide) (by decide) (ck := 2) rfl (cs' := 20) rfl (by decide) (by decide) 113 rfl ?_
            intro s291 T292 h293 X294 E295 S296
            refine g_callVv X294 (hw _ (List.mem_of_getElem? (i := 15) rfl)) (hw _ (List.mem_of_getElem? (i := 16) rfl)) (hw _ (List.mem_of_getElem? (i := 18) rfl)) (hw _ (List.mem_of_getElem? (i := 17) rfl)) (hw _ (List.mem_of_getElem? (i := 2) rfl)) (hw _ (List.mem_of_getElem? (i := 19) rfl)) (nfSel (hw _ (List.mem_of_getElem? (i := 18) rfl))) (by decide) (EP.ext X294.old) (c_idP l Z a0 G s291 bP bE [] h293 S296 SP EP SE EE nPE) (by simp) (argsL := [.ref s291]) (rest := []) pd_1 rfl rfl rfl rfl 0 (Nat.le_of_eq rfl) (by decide) (by decide) (ck := 4) rfl (cs := 26) rfl (by decide) (by decide) at_113 116 rfl ?_
            intro w299 T297 h301 X298 hq300
            obtain ⟨r302, rfl, E303, S304⟩ := hq300
            refine g_astore X298 at_116 rfl (Ls' := #[.val (.int k), .val (.int r), .val (.int (k &&& (3 : Int32))), .val (.int r), .val (.int (1 : Int32)), .val (.ref bP), .val (.int (1 : Int32)), .val (.ref r302), .unset]) rfl 118 rfl ?_
            refine g_iload X298 at_118 rfl 120 rfl ?_
            refine g_ifNo X298 at_120 (XT.ii_eq_f (by decide)) 123 rfl ?_
            refine g_ldcS X298 (cs := [(97 : Int32), (98 : Int32)]) rfl (hw _ (List.mem_of_getElem? (i := 99) rfl)) hSA (by simp [EL, consts_1]) ⟨by decide, by decide⟩ (by decide) (by decide) at_123 8 (by decide) (by decide) (ck := 6) rfl (cs' := 38) rfl (by decide) (by decide) 125 rfl ?_
            intro s305 T306 h307 X308 E309 S310
            refine g_aload X308 at_125 rfl rfl 127 rfl ?_
            obtain ⟨t311, kb312, e313, f314, f315, k316, b317, l318, n319⟩ := id S310
            obtain ⟨t320, kb321, e322, f323, f324, k325, b326, l327, n328⟩ := id (S304.ext E309)
            refine g_callVp X308 (hw _ (List.mem_of_getElem? (i := 100) rfl)) (hw _ (List.mem_of_getElem? (i := 101) rfl)) (hw _ (List.mem_of_getElem? (i := 103) rfl)) (hw _ (List.mem_of_getElem? (i := 102) rfl)) (hw _ (List.mem_of_getElem? (i := 8) rfl)) (hw _ (List.mem_of_getElem? (i := 104) rfl)) (nfSel (hw _ (List.mem_of_getElem? (i := 103) rfl))) (by decide) e313 (c_seq l Z a0 G s305 r302 t311 t320 kb312 kb321 ([(97 : Int32), (98 : Int32)]) ([(97 : Int32), (98 : Int32)]) (str_inj S310 (S304.ext E309)) h307 e313 f314 f315 k316 b317 l318 e322 f323 f324 k325 b326 l327) (by simp) (argsL := [.ref r302]) (rest := []) pd_16 rfl rfl rfl rfl 0 (Nat.le_of_eq rfl) (by decide) (by decide) (ck := 6) rfl (cs := 38) rfl (by decide) (by decide) at_127 130 rfl ?_
            intro w331 T329 X330 hq332
            obtain rfl : w331 = .int (1 : Int32) := hq332
            refine g_goto X330 at_130 140 (by decide) (by decide) ?_
            refine g_istore X330 at_140 (Ls' := #[.val (.int k), .val (.int r), .val (.int (k &&& (3 : Int32))), .val (.int r), .val (.int (1 : Int32)), .val (.ref bP), .val (.int (1 : Int32)), .val (.ref r302), .val (.int (1 : Int32))]) rfl 142 rfl ?_
            refine g_iload X330 at_142 rfl 144 rfl ?_
            refine g_ifNo X330 at_144 (XT.ii_eq_f (by decide)) 147 rfl ?_
            refine g_iload X330 at_147 rfl 149 rfl ?_
            refine g_ifNo X330 at_149 (XT.ii_eq_f (by decide)) 152 rfl ?_
            refine g_iconst X330 (1 : Int32) at_152 (by decide) 153 rfl ?_
            refine g_goto X330 at_153 157 (by decide) (by decide) ?_
            exact g_retN X330 (t := .boolean) rfl (by simp) at_157 _ rfl (by decide) (by decide) rfl
          · refine g_icmpYes X at_50 (XT.ii_ne_t hb50) 57 (by decide) (by decide) ?_
            refine g_iconst X (0 : Int32) at_57 (by decide) 58 rfl ?_
            refine g_istore X at_58 (Ls' := #[.val (.int k), .val (.int r), .val (.int (k &&& (3 : Int32))), .val (.int r), .val (.int (0 : Int32)), .unset, .unset, .unset, .unset]) rfl 60 rfl ?_
            refine g_iloadN X at_60 rfl 61 rfl ?_
            refine g_callSp X (hw _ (List.mem_of_getElem? (i := 0) rfl)) (hw _ (List.mem_of_getElem? (i := 1) rfl)) (hw _ (List.mem_of_getElem? (i := 2) rfl)) (hw _ (List.mem_of_getElem? (i := 3) rfl)) (by decide) (c_ofE l Z a0 G r bP bE h hb44 hb50 SP EP SE EE nPE) (by simp) (argsL := [.int r]) (rest := []) pd_0 rfl rfl rfl rfl 0 (Nat.le_of_eq rfl) (by decide) (by decide) (ck := 0) rfl (cs := 0) rfl (by decide) (by decide) at_61 64 rfl ?_
            intro w335 T333 X334 hq336
            subst hq336
            refine g_astore X334 at_64 rfl (Ls' := #[.val (.int k), .val (.int r), .val (.int (k &&& (3 : Int32))), .val (.int r), .val (.int (0 : Int32)), .val (.ref bE), .unset, .unset, .unset]) rfl 66 rfl ?_
            refine g_aload X334 at_66 rfl rfl 68 rfl ?_
            refine g_ifnonnullYes X334 at_68 73 (by decide) (by decide) ?_
            refine g_iload X334 at_73 rfl 75 rfl ?_
            refine g_ifYes X334 at_75 (XT.ii_eq_t (by decide)) 94 (by decide) (by decide) ?_
            refine g_aload X334 at_94 rfl rfl 96 rfl ?_
            refine g_getS X334 (Or.inl (hw _ (List.mem_of_getElem? (i := 109) rfl))) (host := "") Via.refl (SE.ext X334.old) at_96 99 rfl ?_
            intro T337 X338
            refine g_acmpNo X338 at_99 rfl rfl (XT.aa_ne_f rfl) 102 rfl ?_
            refine g_iconst X338 (1 : Int32) at_102 (by decide) 103 rfl ?_
            refine g_goto X338 at_103 107 (by decide) (by decide) ?_
            refine g_istore X338 at_107 (Ls' := #[.val (.int k), .val (.int r), .val (.int (k &&& (3 : Int32))), .val (.int r), .val (.int (0 : Int32)), .val (.ref bE), .val (.int (1 : Int32)), .unset, .unset]) rfl 109 rfl ?_
            refine g_aload X338 at_109 rfl rfl 111 rfl ?_
            refine g_ldcS X338 (cs := [(97 : Int32), (98 : Int32), (32 : Int32), (32 : Int32)]) rfl (hw _ (List.mem_of_getElem? (i := 7) rfl)) hSA (by simp [EL, consts_1]) ⟨by decide, by decide⟩ (by decide) (by decide) at_111 16 (by decide) (by decide) (ck := 2) rfl (cs' := 20) rfl (by decide) (by decide) 113 rfl ?_
            intro s339 T340 h341 X342 E343 S344
            refine g_callVp X342 (hw _ (List.mem_of_getElem? (i := 15) rfl)) (hw _ (List.mem_of_getElem? (i := 16) rfl)) (hw _ (List.mem_of_getElem? (i := 18) rfl)) (hw _ (List.mem_of_getElem? (i := 17) rfl)) (hw _ (List.mem_of_getElem? (i := 2) rfl)) (hw _ (List.mem_of_getElem? (i := 19) rfl)) (nfSel (hw _ (List.mem_of_getElem? (i := 18) rfl))) (by decide) (EE.ext X342.old) (c_idE l Z a0 G s339 bP bE h341 SP EP SE EE nPE) (by simp) (argsL := [.ref s339]) (rest := []) pd_1 rfl rfl rfl rfl 0 (Nat.le_of_eq rfl) (by decide) (by decide) (ck := 2) rfl (cs := 20) rfl (by decide) (by decide) at_113 116 rfl ?_
            intro w347 T345 X346 hq348
            subst hq348
            refine g_astore X346 at_116 rfl (Ls' := #[.val (.int k), .val (.int r), .val (.int (k &&& (3 : Int32))), .val (.int r), .val (.int (0 : Int32)), .val (.ref bE), .val (.int (1 : Int32)), .val (.ref s339), .unset]) rfl 118 rfl ?_
            refine g_iload X346 at_118 rfl 120 rfl ?_
            refine g_ifYes X346 at_120 (XT.ii_eq_t (by decide)) 133 (by decide) (by decide) ?_
            refine g_ldcS X346 (cs := [(97 : Int32), (98 : Int32), (32 : Int32), (32 : Int32)]) rfl (hw _ (List.mem_of_getElem? (i := 7) rfl)) hSA (by simp [EL, consts_1]) ⟨by decide, by decide⟩ (by decide) (by decide) at_133 16 (by decide) (by decide) (ck := 4) rfl (cs' := 40) rfl (by decide) (by decide) 135 rfl ?_
            intro s349 T350 h351 X352 E353 S354
            refine g_aload X352 at_135 rfl rfl 137 rfl ?_
            obtain ⟨t355, kb356, e357, f358, f359, k360, b361, l362, n363⟩ := id S354
            obtain ⟨t364, kb365, e366, f367, f368, k369, b370, l371, n372⟩ := id (S344.ext E353)
            refine g_callVp X352 (hw _ (List.mem_of_getElem? (i := 100) rfl)) (hw _ (List.mem_of_getElem? (i := 101) rfl)) (hw _ (List.mem_of_getElem? (i := 103) rfl)) (hw _ (List.mem_of_getElem? (i := 102) rfl)) (hw _ (List.mem_of_getElem? (i := 8) rfl)) (hw _ (List.mem_of_getElem? (i := 104) rfl)) (nfSel (hw _ (List.mem_of_getElem? (i := 103) rfl))) (by decide) e357 (c_seq l Z a0 G s349 s339 t355 t364 kb356 kb365 ([(97 : Int32), (98 : Int32), (32 : Int32), (32 : Int32)]) ([(97 : Int32), (98 : Int32), (32 : Int32), (32 : Int32)]) (str_inj S354 (S344.ext E353)) h351 e357 f358 f359 k360 b361 l362 e366 f367 f368 k369 b370 l371) (by simp) (argsL := [.ref s339]) (rest := []) pd_16 rfl rfl rfl rfl 0 (Nat.le_of_eq rfl) (by decide) (by decide) (ck := 4) rfl (cs := 40) rfl (by decide) (by decide) at_137 140 rfl ?_
            intro w375 T373 X374 hq376
            obtain rfl : w375 = .int (1 : Int32) := hq376
            refine g_istore X374 at_140 (Ls' := #[.val (.int k), .val (.int r), .val (.int (k &&& (3 : Int32))), .val (.int r), .val (.int (0 : Int32)), .val (.ref bE), .val (.int (1 : Int32)), .val (.ref s339), .val (.int (1 : Int32))]) rfl 142 rfl ?_
            refine g_iload X374 at_142 rfl 144 rfl ?_
            refine g_ifNo X374 at_144 (XT.ii_eq_f (by decide)) 147 rfl ?_
            refine g_iload X374 at_147 rfl 149 rfl ?_
            refine g_ifNo X374 at_149 (XT.ii_eq_f (by decide)) 152 rfl ?_
            refine g_iconst X374 (1 : Int32) at_152 (by decide) 153 rfl ?_
            refine g_goto X374 at_153 157 (by decide) (by decide) ?_
            exact g_retN X374 (t := .boolean) rfl (by simp) at_157 _ rfl (by decide) (by decide) rfl
set_option maxRecDepth 65536 in
set_option maxHeartbeats 40000000 in
theorem comes_1 {Post : Tables → Env → Array Value → State → Outcome → State → Prop} (hpost : ∀ tb e args s v u, (limb_1_1.after args s (.returned v) u = true ∧ limb_1_2.after args s (.returned v) u = true) → FramedW s (.returned v) u (Jvm.fieldLocs frame_1_writes args s ++ Jvm.arrayLocs frame_1_arrays args s ++ Jvm.staticLocs frame_1_statics s) 16 2176 → Post tb e args s (.returned v) u) :
    ArmFor flags0 classFile x code maxLocals ret World_1 tables_1 room_1 Calls_1 rest_1 Pre_1 Post := by
  intro l hfl _ _ p e ha hc hk s m args below hf hA hF happ hP
  obtain ⟨hcalls, hrest, hpre⟩ := hP
  obtain ⟨-, -, -, hnamed, -, -, -, hat⟩ := (Spec.applies_iff hf).mp happ
  obtain ⟨hg, hn⟩ := and_e (Cond.before_iff.mp (show (Jvm.Cond.and given_1 narrow_1).before args s = true from hpre))
  obtain ⟨h1, hg⟩ := and_e hg
  obtain ⟨w0, w1, rfl⟩ : ∃ w0 w1 : Value, args = #[w0, w1] := by
    have hs : args.size = 2 := by simpa [Cond.value, given_1] using h1
    obtain ⟨L⟩ := args
    match L, hs with
    | [w0, w1], _ => exact ⟨w0, w1, rfl⟩
  have hw := fun d (hd : d ∈ tables_1) => atoms_spec (ws := Jvm.Cond.code x code maxLocals ret :: tables_1) hat d (List.mem_cons_of_mem _ hd)
  obtain ⟨g0, hg⟩ := and_e hg
  have g1 := hg
  obtain ⟨i0, e0⟩ := is_v g0
  obtain rfl : w0 = (.int i0) := Option.some.inj e0
  obtain ⟨i1, e1⟩ := is_v g1
  obtain rfl : w1 = (.int i1) := Option.some.inj e1
  obtain ⟨q0, hn⟩ := and_e hn
  obtain ⟨q1, hn⟩ := and_e hn
  obtain ⟨q2, hn⟩ := and_e hn
  have q3 := hn
  obtain ⟨hsets, hown0⟩ := atoms_of _ (rest_1_c_eq ▸ (show rest_1_c.before _ s = true from hrest))
  obtain ⟨bP, t_bP⟩ := exa_v q0
  have SP := Sta.start t_bP (Or.inr ⟨(hw _ (List.mem_of_getElem? (i := 2) rfl)), (hw _ (List.mem_of_getElem? (i := 5) rfl))⟩)
  have EP := Exa.start t_bP q0
  have oP := own_fldI t_bP q2
  obtain ⟨bE, t_bE⟩ := exa_v q1
  have SE := Sta.start t_bE (Or.inr ⟨(hw _ (List.mem_of_getElem? (i := 2) rfl)), (hw _ (List.mem_of_getElem? (i := 21) rfl))⟩)
  have EE := Exa.start t_bE q1
  have oE := own_fldI t_bE q3
  obtain ⟨zc, ezc⟩ := is_v (Cond.before_iff.mp (hsets _ (List.mem_of_getElem? (i := 1) rfl)))
  have SC : Sta s s.heap "java/lang/String" "COMPACT_STRINGS" "Z" (.int zc) := Sta.start ezc (Or.inl (hsets _ (List.mem_of_getElem? (i := 0) rfl)))
  have hz : ¬ zc = 0 := fun q => by
    have n5 := not_v (Cond.before_iff.mp (hsets _ (List.mem_of_getElem? (i := 2) rfl)))
    exact absurd q (gotF (Cond.eq_ints ezc (Term.int_eval 0)) n5)
  obtain ⟨fm, efm, hfm⟩ := isR_v (Cond.before_iff.mp (hsets _ (List.mem_of_getElem? (i := 8) rfl)))
  have SF : Sta s s.heap "jdk/internal/util/Preconditions" "SIOOBE_FORMATTER" "Ljava/util/function/BiFunction;" fm := Sta.start efm (Or.inl (hsets _ (List.mem_of_getElem? (i := 7) rfl)))
  have hSA : ∀ a ∈ Bundle.stringAtoms, a.before _ s = true := fun d hd => hw d ((by decide +kernel : ∀ d ∈ Bundle.stringAtoms, d ∈ tables_1) d hd)
  have hEW : EW s _ EL := (EW.cons (hw _ (List.mem_of_getElem? (i := 7) rfl)) (by decide) (EW.cons (hw _ (List.mem_of_getElem? (i := 99) rfl)) (by decide) EW.nil))
  have nPE : ¬ bP = bE := Fld.ne oP oE (by decide)
  have G : Gl s #[.int i0, .int i1] := ⟨hw, hEW, hSA, ⟨zc, SC, hz⟩, ⟨fm, SF, hfm⟩⟩
  obtain ⟨n, o, h1, h2, h3, v, L, rfl, hQ, N, -, -, hq, hnw⟩ := c_law l s _ G i0 i1 bP bE s.heap SP EP SE EE nPE tables_1 p e ha hc hk s m _ below hf ((Spec.applies_iff_loose hf).mp happ).1 ⟨rfl, State.Warmed39.refl s, rfl, Ext.refl _, (CHv.start hEW (fun p hp => hcalls.1 p hp) (hsets _ (List.mem_of_getElem? (i := 2) rfl)) (hw _ (List.mem_of_getElem? (i := 10) rfl)) (hw _ (List.mem_of_getElem? (i := 9) rfl))), fun _ q => nomatch q⟩ trivial
  obtain ⟨rfl⟩ : v = some (.int 1) := hQ
  exact ⟨n, _, h1, h2, h3, hpost _ _ _ _ _ _ ⟨Cond.after_iff.mpr rfl, Cond.after_iff.mpr (eq_i res_at (Term.int_eval (1)) rfl)⟩ ⟨hq.1, hq.2.1, hq.2.2.1, (hq.2.2.2.sift fun y hy => Or.inr (N y hy)).mono (by decide) (by decide)⟩⟩
theorem main_1_1 : Claimed_1_1 := comes_1 fun _ _ _ _ _ _ h hF => ⟨h.1, hF⟩
theorem main_1_2 : Claimed_1_2 := comes_1 fun _ _ _ _ _ _ h hF => ⟨h.2, hF⟩
end Jvm.Pilot.@@N@@
namespace Jvm.Pilot.@@N@@
open Jvm Jvm.ClassFile Sem Op Lib Jvm.Free Jvm.Stand Jvm.Pilot.@@N@@.Jvm.D
/-! MADE BY PROGRAM (witnessworld.py) out of the Statement's table words and the real class files: 21 classes; the members and pool entries that the words name. The judged class is class 1, her method 1. -/
namespace start1
open Jvm.ClassFile
def u (s : String) : CpInfo := .utf8 (stringToUtf16 s)
/-- a pool by its gaps: so many unusable entries, then the entry; so many at the end -/
def gap : Nat → List CpInfo → List CpInfo
  | 0, r => r
  | n + 1, r => .unusable :: gap n r
def poolList (es : List (Nat × CpInfo)) (last : Nat) : List CpInfo := es.foldr (fun e r => gap e.1 (e.2 :: r)) (gap last [])
def pool (es : List (Nat × CpInfo)) (last : Nat) : Array CpInfo := ⟨poolList es last⟩
def fileOf (pool : Array CpInfo) (this : Nat) (attrs : Array Attribute := #[]) (ms : Array MethodInfo := #[]) (fl : Nat := 33) (sup : Nat := 0) (ifs : Array Nat := #[]) (fds : Array FieldInfo := #[]) : ClassFile where
  minorVersion := 0
  majorVersion := 65
  constantPool := pool
  accessFlags := fl
  thisClass := this
  superClass := sup
  interfaces := ifs
  fields := fds
  methods := ms
  attributes := attrs
def plain (name : String) (sup : Option ClassId) : Class where
  name := name
  kind := .ordinary
  loader := none
  accessFlags := 33
  super := sup
  interfaces := #[]
  cf := none
  fields := #[]
  methods := #[]
  instanceTypes := #[]
  staticTypes := #[]
  resolved := #[]
  callSites := []
  init := .initialized
  statics := none
  mirror := none

def pool0 : Array CpInfo := pool [(5, u "<init>"), (0, u "()V"), (1, .class_ 10), (1, u "java/lang/Object")] 113

def k0c0 : Code := { maxStack := 0, maxLocals := 1, code := object_method_1_code, exceptionTable := #[], attributes := #[] }
def k0m0 : Method := { name := "<init>", desc := "()V", sig := { parameters := [], returnType := none }, accessFlags := 1, code := some k0c0 }
/-- java/lang/Object -/
def k0 : Class := { plain "java/lang/Object" none with
  accessFlags := 33
  interfaces := #[]
  cf := some (fileOf pool0 8 #[] #[{ accessFlags := 1, nameIndex := 5, descriptorIndex := 6, attributes := #[] }] 33 0 #[] #[])
  fields := #[]
  methods := #[k0m0]
  instanceTypes := #[]
  staticTypes := #[]
  resolved := Array.replicate 124 none
  statics := none }

def pool1 : Array CpInfo := pool [(2, .class_ 4), (1, u "java/lang/Object"), (0, u "<init>"), (0, u "()V"), (0, .methodref 8 9), (0, .class_ 10), (0, .nameAndType 11 12), (0, u "com/example/thalwil/thalwil/KeyEquality"), (0, u "of"), (0, u "(I)Lcom/example/thalwil/thalwil/KeyEquality;"), (0, .fieldref 8 14), (0, .nameAndType 15 16), (0, u "PADDED"), (0, u "Lcom/example/thalwil/thalwil/KeyEquality;"), (0, .fieldref 8 18), (0, .nameAndType 19 16), (0, u "EXACT"), (0, .string 21), (0, u "ab  "), (0, .methodref 8 23), (0, .nameAndType 24 25), (0, u "identity"), (0, u "(Ljava/lang/Object;)Ljava/lang/Object;"), (0, .string 27), (0, u "ab"), (0, .methodref 29 30), (0, .class_ 31), (0, .nameAndType 32 33), (0, u "java/lang/String"), (0, u "equals"), (0, u "(Ljava/lang/Object;)Z"), (0, .class_ 35), (0, u "com/example/thalwil/thalwil/KeyEqualityOfPinLaw"), (2, u "law"), (0, u "(II)Z")] 3

def k1m0 : Method := { name := "<init>", desc := "()V", sig := { parameters := [], returnType := none }, accessFlags := 1, code := none }
def k1c1 : Code := { maxStack := 2, maxLocals := 9, code := code, exceptionTable := #[], attributes := #[] }
def k1m1 : Method := { name := "law", desc := "(II)Z", sig := { parameters := [.int, .int], returnType := some .boolean }, accessFlags := 9, code := some k1c1 }
/-- com/example/thalwil/thalwil/KeyEqualityOfPinLaw -/
def k1 : Class := { plain "com/example/thalwil/thalwil/KeyEqualityOfPinLaw" (some 0) with
  accessFlags := 49
  interfaces := #[]
  cf := some (fileOf pool1 34 #[] #[{ accessFlags := 1, nameIndex := 5, descriptorIndex := 6, attributes := #[] }, { accessFlags := 9, nameIndex := 38, descriptorIndex := 39, attributes := #[] }] 49 2 #[] #[])
  fields := #[]
  methods := #[k1m0, k1m1]
  instanceTypes := #[]
  staticTypes := #[]
  resolved := Array.replicate 43 none
  statics := none }

def pool2 : Array CpInfo := pool [(1, .class_ 2), (0, u "java/lang/constant/Constable"), (0, .class_ 4), (0, u "java/lang/Object")] 6

/-- java/lang/constant/Constable -/
def k2 : Class := { plain "java/lang/constant/Constable" (some 0) with
  accessFlags := 1537
  interfaces := #[]
  cf := some (fileOf pool2 1 #[] #[] 1537 3 #[] #[])
  fields := #[]
  methods := #[]
  instanceTypes := #[]
  staticTypes := #[]
  resolved := Array.replicate 11 none
  statics := none }

def pool3 : Array CpInfo := pool [(1, .class_ 2), (0, u "java/lang/Comparable"), (0, .class_ 4), (0, u "java/lang/Object")] 7

/-- java/lang/Comparable -/
def k3 : Class := { plain "java/lang/Comparable" (some 0) with
  accessFlags := 1537
  interfaces := #[]
  cf := some (fileOf pool3 1 #[] #[] 1537 3 #[] #[])
  fields := #[]
  methods := #[]
  instanceTypes := #[]
  staticTypes := #[]
  resolved := Array.replicate 12 none
  statics := none }

def pool4 : Array CpInfo := pool [(1, .class_ 2), (0, u "java/io/Serializable"), (0, .class_ 4), (0, u "java/lang/Object")] 2

/-- java/io/Serializable -/
def k4 : Class := { plain "java/io/Serializable" (some 0) with
  accessFlags := 1537
  interfaces := #[]
  cf := some (fileOf pool4 1 #[] #[] 1537 3 #[] #[])
  fields := #[]
  methods := #[]
  instanceTypes := #[]
  staticTypes := #[]
  resolved := Array.replicate 7 none
  statics := none }

def pool5 : Array CpInfo := pool [(2, .class_ 4), (1, u "java/lang/Enum"), (0, u "name"), (0, u "Ljava/lang/String;"), (2, u "ordinal"), (0, u "I"), (1, .class_ 14), (1, u "java/lang/Object"), (4, u "hash"), (86, .class_ 108), (1, u "java/lang/Enum$EnumDesc"), (2, .class_ 112), (0, u "java/lang/constant/Constable"), (0, .class_ 114), (0, u "java/lang/Comparable"), (0, .class_ 116), (0, u "java/io/Serializable")] 87

/-- java/lang/Enum -/
def k5 : Class := { plain "java/lang/Enum" (some 0) with
  accessFlags := 1057
  interfaces := #[2, 3, 4]
  cf := some (fileOf pool5 2 #[.nestMembers #[106]] #[] 1057 12 #[111, 113, 115] #[{ accessFlags := 18, nameIndex := 5, descriptorIndex := 6, attributes := #[] }, { accessFlags := 18, nameIndex := 9, descriptorIndex := 10, attributes := #[] }, { accessFlags := 2, nameIndex := 19, descriptorIndex := 10, attributes := #[] }])
  fields := #[{ name := "name", type := (.object "java/lang/String"), accessFlags := 18, slot := 0, constantValue := 0 }, { name := "ordinal", type := .int, accessFlags := 18, slot := 1, constantValue := 0 }, { name := "hash", type := .int, accessFlags := 2, slot := 2, constantValue := 0 }]
  methods := #[]
  instanceTypes := #[(.object "java/lang/String"), .int, .int]
  staticTypes := #[]
  resolved := Array.replicate 204 none
  statics := none }

def pool6 : Array CpInfo := pool [(1, .class_ 2), (0, u "com/example/thalwil/thalwil/KeyEquality"), (0, .fieldref 1 4), (0, .nameAndType 5 6), (0, u "EXACT"), (0, u "Lcom/example/thalwil/thalwil/KeyEquality;"), (0, .fieldref 1 8), (0, .nameAndType 9 6), (0, u "PADDED"), (2, u "$VALUES"), (0, u "[Lcom/example/thalwil/thalwil/KeyEquality;"), (6, .class_ 22), (1, u "java/lang/Enum"), (8, .class_ 32), (0, u "java/lang/String"), (0, .methodref 31 34), (0, .nameAndType 35 36), (0, u "length"), (0, u "()I"), (0, .methodref 31 38), (0, .nameAndType 39 40), (0, u "charAt"), (0, u "(I)C"), (0, .methodref 31 42), (0, .nameAndType 43 44), (0, u "substring"), (0, u "(II)Ljava/lang/String;"), (22, u "identity"), (0, u "(Ljava/lang/Object;)Ljava/lang/Object;"), (19, u "of"), (0, u "(I)Lcom/example/thalwil/thalwil/KeyEquality;")] 8

def k6c0 : Code := { maxStack := 2, maxLocals := 1, code := prog_14_method_4_code, exceptionTable := #[], attributes := #[] }
def k6m0 : Method := { name := "of", desc := "(I)Lcom/example/thalwil/thalwil/KeyEquality;", sig := { parameters := [.int], returnType := some (.object "com/example/thalwil/thalwil/KeyEquality") }, accessFlags := 8, code := some k6c0 }
def k6c1 : Code := { maxStack := 3, maxLocals := 4, code := prog_14_method_5_code, exceptionTable := #[], attributes := #[] }
def k6m1 : Method := { name := "identity", desc := "(Ljava/lang/Object;)Ljava/lang/Object;", sig := { parameters := [(.object "java/lang/Object")], returnType := some (.object "java/lang/Object") }, accessFlags := 0, code := some k6c1 }
/-- com/example/thalwil/thalwil/KeyEquality -/
def k6 : Class := { plain "com/example/thalwil/thalwil/KeyEquality" (some 5) with
  accessFlags := 16432
  interfaces := #[]
  cf := some (fileOf pool6 1 #[] #[{ accessFlags := 8, nameIndex := 88, descriptorIndex := 89, attributes := #[] }, { accessFlags := 0, nameIndex := 67, descriptorIndex := 68, attributes := #[] }] 16432 20 #[] #[{ accessFlags := 16409, nameIndex := 5, descriptorIndex := 6, attributes := #[] }, { accessFlags := 16409, nameIndex := 9, descriptorIndex := 6, attributes := #[] }, { accessFlags := 4122, nameIndex := 12, descriptorIndex := 13, attributes := #[] }])
  fields := #[{ name := "EXACT", type := (.object "com/example/thalwil/thalwil/KeyEquality"), accessFlags := 16409, slot := 0, constantValue := 0 }, { name := "PADDED", type := (.object "com/example/thalwil/thalwil/KeyEquality"), accessFlags := 16409, slot := 1, constantValue := 0 }, { name := "$VALUES", type := (.array (.object "com/example/thalwil/thalwil/KeyEquality")), accessFlags := 4122, slot := 2, constantValue := 0 }]
  methods := #[k6m0, k6m1]
  instanceTypes := #[(.object "java/lang/String"), .int, .int]
  staticTypes := #[(.object "com/example/thalwil/thalwil/KeyEquality"), (.object "com/example/thalwil/thalwil/KeyEquality"), (.array (.object "com/example/thalwil/thalwil/KeyEquality"))]
  resolved := Array.replicate 98 none
  statics := some 0 }

def pool7 : Array CpInfo := pool [(2, .class_ 4), (1, u "java/lang/CharSequence"), (42, .class_ 48), (0, u "java/lang/CharSequence$1CodePointIterator"), (10, .class_ 60), (0, u "java/lang/CharSequence$1CharIterator"), (5, .class_ 67), (0, u "java/lang/Object")] 63

/-- java/lang/CharSequence -/
def k7 : Class := { plain "java/lang/CharSequence" (some 0) with
  accessFlags := 1537
  interfaces := #[]
  cf := some (fileOf pool7 2 #[.nestMembers #[47, 59]] #[] 1537 66 #[] #[])
  fields := #[]
  methods := #[]
  instanceTypes := #[]
  staticTypes := #[]
  resolved := Array.replicate 131 none
  statics := none }

def pool8 : Array CpInfo := pool [(1, .class_ 2), (0, u "java/lang/constant/ConstantDesc"), (0, .class_ 4), (0, u "java/lang/Object")] 32

/-- java/lang/constant/ConstantDesc -/
def k8 : Class := { plain "java/lang/constant/ConstantDesc" (some 0) with
  accessFlags := 1537
  interfaces := #[]
  cf := some (fileOf pool8 1 #[] #[] 1537 3 #[] #[])
  fields := #[]
  methods := #[]
  instanceTypes := #[]
  staticTypes := #[]
  resolved := Array.replicate 37 none
  statics := none }

def pool9 : Array CpInfo := pool [(1, .methodref 2 3), (0, .class_ 4), (0, .nameAndType 5 6), (0, u "java/lang/Object"), (0, u "<init>"), (0, u "()V"), (2, .fieldref 10 11), (0, .class_ 12), (0, .nameAndType 13 14), (0, u "java/lang/String"), (0, u "value"), (0, u "[B"), (0, .fieldref 10 16), (0, .nameAndType 17 18), (0, u "coder"), (0, u "B"), (2, u "hash"), (0, u "I"), (2, u "hashIsZero"), (0, u "Z"), (11, .fieldref 10 39), (0, .nameAndType 40 26), (0, u "COMPACT_STRINGS"), (66, .class_ 109), (1, u "java/lang/StringLatin1"), (32, u "()Z"), (68, u "([BB)V"), (122, u "()I"), (0, .methodref 10 336), (0, .nameAndType 17 337), (0, u "()B"), (25, u "([BI)C"), (27, u "(II)V"), (35, u "(I)C"), (64, .methodref 10 493), (0, .nameAndType 494 142), (0, u "isLatin1"), (0, .methodref 107 496), (0, .nameAndType 497 363), (0, u "charAt"), (3, u "checkIndex"), (3, .methodref 10 506), (0, .nameAndType 507 334), (0, u "length"), (5, u "checkFromToIndex"), (7, .methodref 10 522), (0, .nameAndType 523 524), (0, u "checkBoundsBeginEnd"), (0, u "(III)V"), (16, .methodref 107 542), (0, .nameAndType 543 544), (0, u "equals"), (0, u "([B[B)Z"), (28, u "(Ljava/lang/Object;)Z"), (1, .class_ 576), (0, u "java/lang/CharSequence"), (22, u "CASE_INSENSITIVE_ORDER"), (0, u "Ljava/util/Comparator;"), (82, u "substring"), (0, u "(II)Ljava/lang/String;"), (0, .methodref 107 686), (0, .nameAndType 687 688), (0, u "newString"), (0, u "([BII)Ljava/lang/String;"), (364, .fieldref 1054 1055), (0, .class_ 1056), (0, .nameAndType 1057 1058), (0, u "jdk/internal/util/Preconditions"), (0, u "SIOOBE_FORMATTER"), (0, u "Ljava/util/function/BiFunction;"), (0, .methodref 1054 1060), (0, .nameAndType 501 1061), (0, u "(IILjava/util/function/BiFunction;)I"), (0, .methodref 1054 1063), (0, .nameAndType 513 1064), (0, u "(IIILjava/util/function/BiFunction;)I"), (36, u "serialPersistentFields"), (0, u "[Ljava/io/ObjectStreamField;"), (0, .class_ 1104), (0, u "java/lang/String$CaseInsensitiveComparator"), (1, .class_ 1107), (0, u "java/io/Serializable"), (0, .class_ 1109), (0, u "java/lang/Comparable"), (0, .class_ 1111), (0, u "java/lang/constant/Constable"), (0, .class_ 1113), (0, u "java/lang/constant/ConstantDesc"), (2, u "serialVersionUID"), (0, u "J"), (3, u "REPL"), (0, u "C"), (2, u "LATIN1"), (1, u "UTF16")] 323

def k9m0 : Method := { name := "<init>", desc := "()V", sig := { parameters := [], returnType := none }, accessFlags := 1, code := none }
def k9c1 : Code := { maxStack := 2, maxLocals := 1, code := jdk_42_method_54_code, exceptionTable := #[], attributes := #[] }
def k9m1 : Method := { name := "length", desc := "()I", sig := { parameters := [], returnType := some .int }, accessFlags := 1, code := some k9c1 }
def k9c2 : Code := { maxStack := 2, maxLocals := 2, code := jdk_42_method_56_code, exceptionTable := #[], attributes := #[] }
def k9m2 : Method := { name := "charAt", desc := "(I)C", sig := { parameters := [.int], returnType := some .char }, accessFlags := 1, code := some k9c2 }
def k9c3 : Code := { maxStack := 2, maxLocals := 3, code := jdk_42_method_66_code, exceptionTable := #[], attributes := #[] }
def k9m3 : Method := { name := "equals", desc := "(Ljava/lang/Object;)Z", sig := { parameters := [(.object "java/lang/Object")], returnType := some .boolean }, accessFlags := 1, code := some k9c3 }
def k9c4 : Code := { maxStack := 3, maxLocals := 5, code := jdk_42_method_92_code, exceptionTable := #[], attributes := #[] }
def k9m4 : Method := { name := "substring", desc := "(II)Ljava/lang/String;", sig := { parameters := [.int, .int], returnType := some (.object "java/lang/String") }, accessFlags := 1, code := some k9c4 }
def k9c5 : Code := { maxStack := 2, maxLocals := 3, code := jdk_42_method_151_code, exceptionTable := #[], attributes := #[] }
def k9m5 : Method := { name := "<init>", desc := "([BB)V", sig := { parameters := [(.array .byte), .byte], returnType := none }, accessFlags := 0, code := some k9c5 }
def k9c6 : Code := { maxStack := 1, maxLocals := 1, code := jdk_42_method_152_code, exceptionTable := #[], attributes := #[] }
def k9m6 : Method := { name := "coder", desc := "()B", sig := { parameters := [], returnType := some .byte }, accessFlags := 0, code := some k9c6 }
def k9c7 : Code := { maxStack := 1, maxLocals := 1, code := jdk_42_method_154_code, exceptionTable := #[], attributes := #[] }
def k9m7 : Method := { name := "isLatin1", desc := "()Z", sig := { parameters := [], returnType := some .boolean }, accessFlags := 0, code := some k9c7 }
def k9c8 : Code := { maxStack := 3, maxLocals := 2, code := jdk_42_method_155_code, exceptionTable := #[], attributes := #[] }
def k9m8 : Method := { name := "checkIndex", desc := "(II)V", sig := { parameters := [.int, .int], returnType := none }, accessFlags := 8, code := some k9c8 }
def k9c9 : Code := { maxStack := 4, maxLocals := 3, code := jdk_42_method_158_code, exceptionTable := #[], attributes := #[] }
def k9m9 : Method := { name := "checkBoundsBeginEnd", desc := "(III)V", sig := { parameters := [.int, .int, .int], returnType := none }, accessFlags := 8, code := some k9c9 }
/-- java/lang/String -/
def k9 : Class := { plain "java/lang/String" (some 0) with
  accessFlags := 49
  interfaces := #[4, 3, 7, 2, 8]
  cf := some (fileOf pool9 10 #[.nestMembers #[1103]] #[{ accessFlags := 1, nameIndex := 5, descriptorIndex := 6, attributes := #[] }, { accessFlags := 1, nameIndex := 507, descriptorIndex := 334, attributes := #[] }, { accessFlags := 1, nameIndex := 497, descriptorIndex := 427, attributes := #[] }, { accessFlags := 1, nameIndex := 543, descriptorIndex := 573, attributes := #[] }, { accessFlags := 1, nameIndex := 683, descriptorIndex := 684, attributes := #[] }, { accessFlags := 0, nameIndex := 5, descriptorIndex := 211, attributes := #[] }, { accessFlags := 0, nameIndex := 17, descriptorIndex := 337, attributes := #[] }, { accessFlags := 0, nameIndex := 494, descriptorIndex := 142, attributes := #[] }, { accessFlags := 8, nameIndex := 501, descriptorIndex := 391, attributes := #[] }, { accessFlags := 8, nameIndex := 523, descriptorIndex := 524, attributes := #[] }] 49 2 #[1106, 1108, 575, 1110, 1112] #[{ accessFlags := 18, nameIndex := 13, descriptorIndex := 14, attributes := #[] }, { accessFlags := 18, nameIndex := 17, descriptorIndex := 18, attributes := #[] }, { accessFlags := 2, nameIndex := 21, descriptorIndex := 22, attributes := #[] }, { accessFlags := 2, nameIndex := 25, descriptorIndex := 26, attributes := #[] }, { accessFlags := 26, nameIndex := 1116, descriptorIndex := 1117, attributes := #[] }, { accessFlags := 24, nameIndex := 40, descriptorIndex := 26, attributes := #[] }, { accessFlags := 26, nameIndex := 1101, descriptorIndex := 1102, attributes := #[] }, { accessFlags := 26, nameIndex := 1121, descriptorIndex := 1122, attributes := #[] }, { accessFlags := 25, nameIndex := 599, descriptorIndex := 600, attributes := #[] }, { accessFlags := 24, nameIndex := 1125, descriptorIndex := 18, attributes := #[] }, { accessFlags := 24, nameIndex := 1127, descriptorIndex := 18, attributes := #[] }])
  fields := #[{ name := "value", type := (.array .byte), accessFlags := 18, slot := 0, constantValue := 0 }, { name := "coder", type := .byte, accessFlags := 18, slot := 1, constantValue := 0 }, { name := "hash", type := .int, accessFlags := 2, slot := 2, constantValue := 0 }, { name := "hashIsZero", type := .boolean, accessFlags := 2, slot := 3, constantValue := 0 }, { name := "serialVersionUID", type := .long, accessFlags := 26, slot := 0, constantValue := 0 }, { name := "COMPACT_STRINGS", type := .boolean, accessFlags := 24, slot := 1, constantValue := 0 }, { name := "serialPersistentFields", type := (.array (.object "java/io/ObjectStreamField")), accessFlags := 26, slot := 2, constantValue := 0 }, { name := "REPL", type := .char, accessFlags := 26, slot := 3, constantValue := 0 }, { name := "CASE_INSENSITIVE_ORDER", type := (.object "java/util/Comparator"), accessFlags := 25, slot := 4, constantValue := 0 }, { name := "LATIN1", type := .byte, accessFlags := 24, slot := 5, constantValue := 0 }, { name := "UTF16", type := .byte, accessFlags := 24, slot := 6, constantValue := 0 }]
  methods := #[k9m0, k9m1, k9m2, k9m3, k9m4, k9m5, k9m6, k9m7, k9m8, k9m9]
  instanceTypes := #[(.array .byte), .byte, .int, .boolean]
  staticTypes := #[.long, .boolean, (.array (.object "java/io/ObjectStreamField")), .char, (.object "java/util/Comparator"), .byte, .byte]
  resolved := Array.replicate 1451 none
  statics := some 1 }

def pool10 : Array CpInfo := pool [(1, .class_ 2), (0, u "java/lang/String"), (1, .class_ 6), (1, u "java/lang/Object"), (0, u "<init>"), (0, u "()V"), (0, .methodref 1 10), (0, .nameAndType 11 12), (0, u "checkIndex"), (0, u "(II)V"), (1, .class_ 16), (1, u "java/lang/StringLatin1"), (36, u "([BI)C"), (58, .methodref 1 113), (0, .nameAndType 7 114), (0, u "([BB)V"), (6, u "$assertionsDisabled"), (0, u "Z"), (8, .class_ 133), (1, u "java/util/Arrays"), (62, u "newString"), (0, u "([BII)Ljava/lang/String;"), (23, .class_ 223), (1, u "java/lang/StringLatin1$LinesSpliterator"), (8, .methodref 131 233), (0, .nameAndType 234 235), (0, u "copyOfRange"), (0, u "([BII)[B"), (16, u "charAt"), (28, u "equals"), (0, u "([B[B)Z"), (107, .class_ 391), (0, u "java/lang/StringLatin1$CharsSpliterator")] 3

def k10m0 : Method := { name := "<init>", desc := "()V", sig := { parameters := [], returnType := none }, accessFlags := 0, code := none }
def k10c1 : Code := { maxStack := 2, maxLocals := 2, code := jdk_43_method_2_code, exceptionTable := #[], attributes := #[] }
def k10m1 : Method := { name := "charAt", desc := "([BI)C", sig := { parameters := [(.array .byte), .int], returnType := some .char }, accessFlags := 9, code := some k10c1 }
def k10c2 : Code := { maxStack := 3, maxLocals := 3, code := jdk_43_method_13_code, exceptionTable := #[], attributes := #[] }
def k10m2 : Method := { name := "equals", desc := "([B[B)Z", sig := { parameters := [(.array .byte), (.array .byte)], returnType := some .boolean }, accessFlags := 9, code := some k10c2 }
def k10c3 : Code := { maxStack := 6, maxLocals := 3, code := jdk_43_method_47_code, exceptionTable := #[], attributes := #[] }
def k10m3 : Method := { name := "newString", desc := "([BII)Ljava/lang/String;", sig := { parameters := [(.array .byte), .int, .int], returnType := some (.object "java/lang/String") }, accessFlags := 9, code := some k10c3 }
/-- java/lang/StringLatin1 -/
def k10 : Class := { plain "java/lang/StringLatin1" (some 0) with
  accessFlags := 48
  interfaces := #[]
  cf := some (fileOf pool10 14 #[.nestMembers #[390, 221]] #[{ accessFlags := 0, nameIndex := 7, descriptorIndex := 8, attributes := #[] }, { accessFlags := 9, nameIndex := 252, descriptorIndex := 53, attributes := #[] }, { accessFlags := 9, nameIndex := 281, descriptorIndex := 282, attributes := #[] }, { accessFlags := 9, nameIndex := 196, descriptorIndex := 197, attributes := #[] }] 48 4 #[] #[{ accessFlags := 4120, nameIndex := 121, descriptorIndex := 122, attributes := #[] }])
  fields := #[{ name := "$assertionsDisabled", type := .boolean, accessFlags := 4120, slot := 0, constantValue := 0 }]
  methods := #[k10m0, k10m1, k10m2, k10m3]
  instanceTypes := #[]
  staticTypes := #[.boolean]
  resolved := Array.replicate 395 none
  statics := none }

def pool11 : Array CpInfo := pool [(2, .class_ 4), (1, u "java/lang/Object"), (0, u "<init>"), (0, u "()V"), (17, .class_ 26), (1, u "jdk/internal/util/Preconditions"), (6, u "checkIndex"), (13, u "checkFromToIndex"), (7, .class_ 56), (0, u "jdk/internal/util/Preconditions$4"), (57, .class_ 115), (0, u "jdk/internal/util/Preconditions$1"), (7, u "SIOOBE_FORMATTER"), (0, u "Ljava/util/function/BiFunction;"), (0, .class_ 126), (0, u "jdk/internal/util/Preconditions$2"), (3, u "AIOOBE_FORMATTER"), (0, .class_ 132), (0, u "jdk/internal/util/Preconditions$3"), (3, u "IOOBE_FORMATTER"), (41, u "(IILjava/util/function/BiFunction;)I"), (4, u "(IIILjava/util/function/BiFunction;)I")] 10

def k11m0 : Method := { name := "<init>", desc := "()V", sig := { parameters := [], returnType := none }, accessFlags := 1, code := none }
def k11c1 : Code := { maxStack := 3, maxLocals := 3, code := jdk_41_method_11_code, exceptionTable := #[], attributes := #[] }
def k11m1 : Method := { name := "checkIndex", desc := "(IILjava/util/function/BiFunction;)I", sig := { parameters := [.int, .int, (.object "java/util/function/BiFunction")], returnType := some .int }, accessFlags := 9, code := some k11c1 }
def k11c2 : Code := { maxStack := 4, maxLocals := 4, code := jdk_41_method_12_code, exceptionTable := #[], attributes := #[] }
def k11m2 : Method := { name := "checkFromToIndex", desc := "(IIILjava/util/function/BiFunction;)I", sig := { parameters := [.int, .int, .int, (.object "java/util/function/BiFunction")], returnType := some .int }, accessFlags := 9, code := some k11c2 }
/-- jdk/internal/util/Preconditions -/
def k11 : Class := { plain "jdk/internal/util/Preconditions" (some 0) with
  accessFlags := 33
  interfaces := #[]
  cf := some (fileOf pool11 24 #[.nestMembers #[55, 131, 125, 114]] #[{ accessFlags := 1, nameIndex := 5, descriptorIndex := 6, attributes := #[] }, { accessFlags := 9, nameIndex := 33, descriptorIndex := 178, attributes := #[] }, { accessFlags := 9, nameIndex := 47, descriptorIndex := 183, attributes := #[] }] 33 2 #[] #[{ accessFlags := 25, nameIndex := 123, descriptorIndex := 124, attributes := #[] }, { accessFlags := 25, nameIndex := 130, descriptorIndex := 124, attributes := #[] }, { accessFlags := 25, nameIndex := 136, descriptorIndex := 124, attributes := #[] }])
  fields := #[{ name := "SIOOBE_FORMATTER", type := (.object "java/util/function/BiFunction"), accessFlags := 25, slot := 0, constantValue := 0 }, { name := "AIOOBE_FORMATTER", type := (.object "java/util/function/BiFunction"), accessFlags := 25, slot := 1, constantValue := 0 }, { name := "IOOBE_FORMATTER", type := (.object "java/util/function/BiFunction"), accessFlags := 25, slot := 2, constantValue := 0 }]
  methods := #[k11m0, k11m1, k11m2]
  instanceTypes := #[]
  staticTypes := #[(.object "java/util/function/BiFunction"), (.object "java/util/function/BiFunction"), (.object "java/util/function/BiFunction")]
  resolved := Array.replicate 194 none
  statics := some 2 }

def pool12 : Array CpInfo := pool [(2, .class_ 4), (1, u "java/lang/Object"), (0, u "<init>"), (0, u "()V"), (7, .class_ 16), (1, u "java/util/Arrays"), (57, .class_ 76), (1, u "java/util/Arrays$NaturalOrder"), (36, .class_ 115), (1, u "java/util/Arrays$LegacyMergeSort"), (1, u "Z"), (21, u "copyOfRange"), (10, .methodref 151 152), (0, .class_ 153), (0, .nameAndType 154 155), (0, u "java/lang/System"), (0, u "arraycopy"), (0, u "(Ljava/lang/Object;ILjava/lang/Object;II)V"), (148, .methodref 305 306), (0, .class_ 307), (0, .nameAndType 308 309), (0, u "java/lang/Math"), (0, u "min"), (0, u "(II)I"), (29, .methodref 14 340), (0, .nameAndType 341 342), (0, u "copyOfRangeByte"), (0, u "([BII)[B"), (0, .methodref 14 344), (0, .nameAndType 345 346), (0, u "checkLength"), (0, u "(II)V"), (28, .class_ 376), (0, u "java/util/Arrays$ArrayList"), (68, u "$assertionsDisabled"), (269, u "MIN_ARRAY_SORT_GRAN"), (0, u "I"), (2, u "INSERTIONSORT_THRESHOLD"), (255, .class_ 976), (0, u "java/util/Arrays$ArrayItr")] 52

def k12m0 : Method := { name := "<init>", desc := "()V", sig := { parameters := [], returnType := none }, accessFlags := 2, code := none }
def k12c1 : Code := { maxStack := 4, maxLocals := 2, code := jdk_65_method_131_code, exceptionTable := #[], attributes := #[] }
def k12m1 : Method := { name := "checkLength", desc := "(II)V", sig := { parameters := [.int, .int], returnType := none }, accessFlags := 10, code := some k12c1 }
def k12c2 : Code := { maxStack := 3, maxLocals := 3, code := jdk_65_method_132_code, exceptionTable := #[], attributes := #[] }
def k12m2 : Method := { name := "copyOfRange", desc := "([BII)[B", sig := { parameters := [(.array .byte), .int, .int], returnType := some (.array .byte) }, accessFlags := 9, code := some k12c2 }
def k12c3 : Code := { maxStack := 6, maxLocals := 5, code := jdk_65_method_133_code, exceptionTable := #[], attributes := #[] }
def k12m3 : Method := { name := "copyOfRangeByte", desc := "([BII)[B", sig := { parameters := [(.array .byte), .int, .int], returnType := some (.array .byte) }, accessFlags := 10, code := some k12c3 }
/-- java/util/Arrays -/
def k12 : Class := { plain "java/util/Arrays" (some 0) with
  accessFlags := 49
  interfaces := #[]
  cf := some (fileOf pool12 14 #[.nestMembers #[975, 375, 113, 74]] #[{ accessFlags := 2, nameIndex := 5, descriptorIndex := 6, attributes := #[] }, { accessFlags := 10, nameIndex := 345, descriptorIndex := 346, attributes := #[] }, { accessFlags := 9, nameIndex := 139, descriptorIndex := 342, attributes := #[] }, { accessFlags := 10, nameIndex := 341, descriptorIndex := 342, attributes := #[] }] 49 2 #[] #[{ accessFlags := 26, nameIndex := 715, descriptorIndex := 716, attributes := #[] }, { accessFlags := 26, nameIndex := 719, descriptorIndex := 716, attributes := #[] }, { accessFlags := 4120, nameIndex := 445, descriptorIndex := 117, attributes := #[] }])
  fields := #[{ name := "MIN_ARRAY_SORT_GRAN", type := .int, accessFlags := 26, slot := 0, constantValue := 0 }, { name := "INSERTIONSORT_THRESHOLD", type := .int, accessFlags := 26, slot := 1, constantValue := 0 }, { name := "$assertionsDisabled", type := .boolean, accessFlags := 4120, slot := 2, constantValue := 0 }]
  methods := #[k12m0, k12m1, k12m2, k12m3]
  instanceTypes := #[]
  staticTypes := #[.int, .int, .boolean]
  resolved := Array.replicate 1029 none
  statics := none }

def pool13 : Array CpInfo := pool [(1, .class_ 2), (0, u "java/lang/Math"), (1, .class_ 6), (1, u "java/lang/Object"), (0, u "<init>"), (0, u "()V"), (89, .class_ 100), (1, u "java/lang/Math$RandomNumberGeneratorHolder"), (71, u "negativeZeroFloatBits"), (0, u "J"), (2, u "negativeZeroDoubleBits"), (24, u "min"), (43, u "$assertionsDisabled"), (0, u "Z"), (88, u "(II)I"), (2, u "twoToTheDoubleScaleDown"), (0, u "D"), (4, u "twoToTheDoubleScaleUp"), (9, u "E"), (3, u "PI"), (2, u "TAU"), (2, u "DEGREES_TO_RADIANS"), (0, u "RADIANS_TO_DEGREES")] 94

def k13m0 : Method := { name := "<init>", desc := "()V", sig := { parameters := [], returnType := none }, accessFlags := 2, code := none }
def k13c1 : Code := { maxStack := 2, maxLocals := 2, code := jdk_29_method_69_code, exceptionTable := #[], attributes := #[] }
def k13m1 : Method := { name := "min", desc := "(II)I", sig := { parameters := [.int, .int], returnType := some .int }, accessFlags := 9, code := some k13c1 }
/-- java/lang/Math -/
def k13 : Class := { plain "java/lang/Math" (some 0) with
  accessFlags := 49
  interfaces := #[]
  cf := some (fileOf pool13 1 #[.nestMembers #[98]] #[{ accessFlags := 2, nameIndex := 7, descriptorIndex := 8, attributes := #[] }, { accessFlags := 9, nameIndex := 201, descriptorIndex := 335, attributes := #[] }] 49 4 #[] #[{ accessFlags := 25, nameIndex := 354, descriptorIndex := 339, attributes := #[] }, { accessFlags := 25, nameIndex := 358, descriptorIndex := 339, attributes := #[] }, { accessFlags := 25, nameIndex := 361, descriptorIndex := 339, attributes := #[] }, { accessFlags := 26, nameIndex := 364, descriptorIndex := 339, attributes := #[] }, { accessFlags := 26, nameIndex := 365, descriptorIndex := 339, attributes := #[] }, { accessFlags := 26, nameIndex := 172, descriptorIndex := 173, attributes := #[] }, { accessFlags := 26, nameIndex := 176, descriptorIndex := 173, attributes := #[] }, { accessFlags := 8, nameIndex := 344, descriptorIndex := 339, attributes := #[] }, { accessFlags := 8, nameIndex := 338, descriptorIndex := 339, attributes := #[] }, { accessFlags := 4120, nameIndex := 245, descriptorIndex := 246, attributes := #[] }])
  fields := #[{ name := "E", type := .double, accessFlags := 25, slot := 0, constantValue := 0 }, { name := "PI", type := .double, accessFlags := 25, slot := 1, constantValue := 0 }, { name := "TAU", type := .double, accessFlags := 25, slot := 2, constantValue := 0 }, { name := "DEGREES_TO_RADIANS", type := .double, accessFlags := 26, slot := 3, constantValue := 0 }, { name := "RADIANS_TO_DEGREES", type := .double, accessFlags := 26, slot := 4, constantValue := 0 }, { name := "negativeZeroFloatBits", type := .long, accessFlags := 26, slot := 5, constantValue := 0 }, { name := "negativeZeroDoubleBits", type := .long, accessFlags := 26, slot := 6, constantValue := 0 }, { name := "twoToTheDoubleScaleUp", type := .double, accessFlags := 8, slot := 7, constantValue := 0 }, { name := "twoToTheDoubleScaleDown", type := .double, accessFlags := 8, slot := 8, constantValue := 0 }, { name := "$assertionsDisabled", type := .boolean, accessFlags := 4120, slot := 9, constantValue := 0 }]
  methods := #[k13m0, k13m1]
  instanceTypes := #[]
  staticTypes := #[.double, .double, .double, .double, .double, .long, .long, .double, .double, .boolean]
  resolved := Array.replicate 460 none
  statics := none }

def pool14 : Array CpInfo := pool [(2, .class_ 4), (1, u "java/lang/Object"), (0, u "<init>"), (0, u "()V"), (1, .class_ 10), (1, u "java/lang/System"), (0, u "allowSecurityManager"), (0, u "I"), (16, u "cons"), (0, u "Ljava/io/Console;"), (77, .class_ 110), (1, u "java/lang/System$CallersHolder"), (43, u "initialErrStream"), (0, u "Ljava/io/PrintStream;"), (19, u "security"), (0, u "Ljava/lang/SecurityManager;"), (31, .class_ 209), (0, u "java/lang/System$1"), (7, u "props"), (0, u "Ljava/util/Properties;"), (2, u "lineSeparator"), (0, u "Ljava/lang/String;"), (96, .class_ 321), (1, u "java/lang/System$LoggerFinder"), (5, .class_ 328), (0, u "java/lang/System$Logger"), (67, u "err"), (2, u "out"), (91, u "notSupportedJnuEncoding"), (15, u "in"), (17, u "initialIn"), (0, u "Ljava/io/InputStream;"), (35, u "bootLayer"), (0, u "Ljava/lang/ModuleLayer;"), (99, .class_ 664), (0, u "java/lang/System$2"), (9, u "NEVER"), (2, u "MAYBE"), (49, u "arraycopy"), (0, u "(Ljava/lang/Object;ILjava/lang/Object;II)V"), (72, .class_ 802), (0, u "java/lang/System$Logger$Level")] 31

def k14m0 : Method := { name := "<init>", desc := "()V", sig := { parameters := [], returnType := none }, accessFlags := 2, code := none }
def k14m1 : Method := { name := "arraycopy", desc := "(Ljava/lang/Object;ILjava/lang/Object;II)V", sig := { parameters := [(.object "java/lang/Object"), .int, (.object "java/lang/Object"), .int, .int], returnType := none }, accessFlags := 265, code := none }
/-- java/lang/System -/
def k14 : Class := { plain "java/lang/System" (some 0) with
  accessFlags := 49
  interfaces := #[]
  cf := some (fileOf pool14 8 #[.nestMembers #[319, 327, 801, 108, 663, 208]] #[{ accessFlags := 2, nameIndex := 5, descriptorIndex := 6, attributes := #[] }, { accessFlags := 265, nameIndex := 727, descriptorIndex := 728, attributes := #[] }] 49 2 #[] #[{ accessFlags := 25, nameIndex := 507, descriptorIndex := 526, attributes := #[] }, { accessFlags := 25, nameIndex := 399, descriptorIndex := 155, attributes := #[] }, { accessFlags := 25, nameIndex := 396, descriptorIndex := 155, attributes := #[] }, { accessFlags := 10, nameIndex := 525, descriptorIndex := 526, attributes := #[] }, { accessFlags := 26, nameIndex := 674, descriptorIndex := 12, attributes := #[] }, { accessFlags := 26, nameIndex := 677, descriptorIndex := 12, attributes := #[] }, { accessFlags := 10, nameIndex := 11, descriptorIndex := 12, attributes := #[] }, { accessFlags := 74, nameIndex := 175, descriptorIndex := 176, attributes := #[] }, { accessFlags := 10, nameIndex := 491, descriptorIndex := 222, attributes := #[] }, { accessFlags := 74, nameIndex := 29, descriptorIndex := 30, attributes := #[] }, { accessFlags := 74, nameIndex := 154, descriptorIndex := 155, attributes := #[] }, { accessFlags := 10, nameIndex := 217, descriptorIndex := 218, attributes := #[] }, { accessFlags := 10, nameIndex := 221, descriptorIndex := 222, attributes := #[] }, { accessFlags := 8, nameIndex := 562, descriptorIndex := 563, attributes := #[] }])
  fields := #[{ name := "in", type := (.object "java/io/InputStream"), accessFlags := 25, slot := 0, constantValue := 0 }, { name := "out", type := (.object "java/io/PrintStream"), accessFlags := 25, slot := 1, constantValue := 0 }, { name := "err", type := (.object "java/io/PrintStream"), accessFlags := 25, slot := 2, constantValue := 0 }, { name := "initialIn", type := (.object "java/io/InputStream"), accessFlags := 10, slot := 3, constantValue := 0 }, { name := "NEVER", type := .int, accessFlags := 26, slot := 4, constantValue := 0 }, { name := "MAYBE", type := .int, accessFlags := 26, slot := 5, constantValue := 0 }, { name := "allowSecurityManager", type := .int, accessFlags := 10, slot := 6, constantValue := 0 }, { name := "security", type := (.object "java/lang/SecurityManager"), accessFlags := 74, slot := 7, constantValue := 0 }, { name := "notSupportedJnuEncoding", type := (.object "java/lang/String"), accessFlags := 10, slot := 8, constantValue := 0 }, { name := "cons", type := (.object "java/io/Console"), accessFlags := 74, slot := 9, constantValue := 0 }, { name := "initialErrStream", type := (.object "java/io/PrintStream"), accessFlags := 74, slot := 10, constantValue := 0 }, { name := "props", type := (.object "java/util/Properties"), accessFlags := 10, slot := 11, constantValue := 0 }, { name := "lineSeparator", type := (.object "java/lang/String"), accessFlags := 10, slot := 12, constantValue := 0 }, { name := "bootLayer", type := (.object "java/lang/ModuleLayer"), accessFlags := 8, slot := 13, constantValue := 0 }]
  methods := #[k14m0, k14m1]
  instanceTypes := #[]
  staticTypes := #[(.object "java/io/InputStream"), (.object "java/io/PrintStream"), (.object "java/io/PrintStream"), (.object "java/io/InputStream"), .int, .int, .int, (.object "java/lang/SecurityManager"), (.object "java/lang/String"), (.object "java/io/Console"), (.object "java/io/PrintStream"), (.object "java/util/Properties"), (.object "java/lang/String"), (.object "java/lang/ModuleLayer")]
  resolved := Array.replicate 834 none
  statics := none }

def pool15 : Array CpInfo := pool [(9, u "<init>"), (6, .class_ 18), (1, u "java/lang/Object"), (0, u "()V"), (1, .class_ 23), (1, u "jdk/internal/util/ArraysSupport"), (0, u "LOG2_ARRAY_LONG_INDEX_SCALE"), (0, u "I"), (2, u "U"), (0, u "Ljdk/internal/misc/Unsafe;"), (8, u "BIG_ENDIAN"), (0, u "Z"), (8, u "LOG2_BYTE_BIT_SIZE"), (4, u "LOG2_ARRAY_INT_INDEX_SCALE"), (54, u "JLA"), (0, u "Ljdk/internal/access/JavaLangAccess;"), (11, u "LOG2_ARRAY_BOOLEAN_INDEX_SCALE"), (9, u "LOG2_ARRAY_BYTE_INDEX_SCALE"), (5, u "LOG2_ARRAY_CHAR_INDEX_SCALE"), (5, u "LOG2_ARRAY_SHORT_INDEX_SCALE"), (18, u "LOG2_ARRAY_FLOAT_INDEX_SCALE"), (24, u "LOG2_ARRAY_DOUBLE_INDEX_SCALE"), (89, u "T_BOOLEAN"), (2, u "T_CHAR"), (1, u "T_FLOAT"), (1, u "T_DOUBLE"), (1, u "T_BYTE"), (1, u "T_SHORT"), (1, u "T_INT"), (1, u "T_LONG"), (1, u "SOFT_MAX_ARRAY_LENGTH")] 83

def k15m0 : Method := { name := "<init>", desc := "()V", sig := { parameters := [], returnType := none }, accessFlags := 2, code := none }
/-- jdk/internal/util/ArraysSupport -/
def k15 : Class := { plain "jdk/internal/util/ArraysSupport" (some 0) with
  accessFlags := 33
  interfaces := #[]
  cf := some (fileOf pool15 21 #[] #[{ accessFlags := 2, nameIndex := 9, descriptorIndex := 19, attributes := #[] }] 33 16 #[] #[{ accessFlags := 24, nameIndex := 28, descriptorIndex := 29, attributes := #[] }, { accessFlags := 26, nameIndex := 38, descriptorIndex := 39, attributes := #[] }, { accessFlags := 25, nameIndex := 121, descriptorIndex := 25, attributes := #[] }, { accessFlags := 25, nameIndex := 131, descriptorIndex := 25, attributes := #[] }, { accessFlags := 25, nameIndex := 137, descriptorIndex := 25, attributes := #[] }, { accessFlags := 25, nameIndex := 143, descriptorIndex := 25, attributes := #[] }, { accessFlags := 25, nameIndex := 53, descriptorIndex := 25, attributes := #[] }, { accessFlags := 25, nameIndex := 24, descriptorIndex := 25, attributes := #[] }, { accessFlags := 25, nameIndex := 162, descriptorIndex := 25, attributes := #[] }, { accessFlags := 25, nameIndex := 187, descriptorIndex := 25, attributes := #[] }, { accessFlags := 26, nameIndex := 48, descriptorIndex := 25, attributes := #[] }, { accessFlags := 25, nameIndex := 277, descriptorIndex := 25, attributes := #[] }, { accessFlags := 25, nameIndex := 280, descriptorIndex := 25, attributes := #[] }, { accessFlags := 25, nameIndex := 282, descriptorIndex := 25, attributes := #[] }, { accessFlags := 25, nameIndex := 284, descriptorIndex := 25, attributes := #[] }, { accessFlags := 25, nameIndex := 286, descriptorIndex := 25, attributes := #[] }, { accessFlags := 25, nameIndex := 288, descriptorIndex := 25, attributes := #[] }, { accessFlags := 25, nameIndex := 290, descriptorIndex := 25, attributes := #[] }, { accessFlags := 25, nameIndex := 292, descriptorIndex := 25, attributes := #[] }, { accessFlags := 26, nameIndex := 108, descriptorIndex := 109, attributes := #[] }, { accessFlags := 25, nameIndex := 294, descriptorIndex := 25, attributes := #[] }])
  fields := #[{ name := "U", type := (.object "jdk/internal/misc/Unsafe"), accessFlags := 24, slot := 0, constantValue := 0 }, { name := "BIG_ENDIAN", type := .boolean, accessFlags := 26, slot := 1, constantValue := 0 }, { name := "LOG2_ARRAY_BOOLEAN_INDEX_SCALE", type := .int, accessFlags := 25, slot := 2, constantValue := 0 }, { name := "LOG2_ARRAY_BYTE_INDEX_SCALE", type := .int, accessFlags := 25, slot := 3, constantValue := 0 }, { name := "LOG2_ARRAY_CHAR_INDEX_SCALE", type := .int, accessFlags := 25, slot := 4, constantValue := 0 }, { name := "LOG2_ARRAY_SHORT_INDEX_SCALE", type := .int, accessFlags := 25, slot := 5, constantValue := 0 }, { name := "LOG2_ARRAY_INT_INDEX_SCALE", type := .int, accessFlags := 25, slot := 6, constantValue := 0 }, { name := "LOG2_ARRAY_LONG_INDEX_SCALE", type := .int, accessFlags := 25, slot := 7, constantValue := 0 }, { name := "LOG2_ARRAY_FLOAT_INDEX_SCALE", type := .int, accessFlags := 25, slot := 8, constantValue := 0 }, { name := "LOG2_ARRAY_DOUBLE_INDEX_SCALE", type := .int, accessFlags := 25, slot := 9, constantValue := 0 }, { name := "LOG2_BYTE_BIT_SIZE", type := .int, accessFlags := 26, slot := 10, constantValue := 0 }, { name := "T_BOOLEAN", type := .int, accessFlags := 25, slot := 11, constantValue := 0 }, { name := "T_CHAR", type := .int, accessFlags := 25, slot := 12, constantValue := 0 }, { name := "T_FLOAT", type := .int, accessFlags := 25, slot := 13, constantValue := 0 }, { name := "T_DOUBLE", type := .int, accessFlags := 25, slot := 14, constantValue := 0 }, { name := "T_BYTE", type := .int, accessFlags := 25, slot := 15, constantValue := 0 }, { name := "T_SHORT", type := .int, accessFlags := 25, slot := 16, constantValue := 0 }, { name := "T_INT", type := .int, accessFlags := 25, slot := 17, constantValue := 0 }, { name := "T_LONG", type := .int, accessFlags := 25, slot := 18, constantValue := 0 }, { name := "JLA", type := (.object "jdk/internal/access/JavaLangAccess"), accessFlags := 26, slot := 19, constantValue := 0 }, { name := "SOFT_MAX_ARRAY_LENGTH", type := .int, accessFlags := 25, slot := 20, constantValue := 0 }]
  methods := #[k15m0]
  instanceTypes := #[]
  staticTypes := #[(.object "jdk/internal/misc/Unsafe"), .boolean, .int, .int, .int, .int, .int, .int, .int, .int, .int, .int, .int, .int, .int, .int, .int, .int, .int, (.object "jdk/internal/access/JavaLangAccess"), .int]
  resolved := Array.replicate 378 none
  statics := none }

def pool16 : Array CpInfo := pool [(1, u "java/lang/Cloneable"), (0, .class_ 1), (0, u "java/lang/Object"), (0, .class_ 3)] 3

/-- java/lang/Cloneable -/
def k16 : Class := { plain "java/lang/Cloneable" (some 0) with
  accessFlags := 1537
  interfaces := #[]
  cf := some (fileOf pool16 2 #[] #[] 1537 4 #[] #[])
  fields := #[]
  methods := #[]
  instanceTypes := #[]
  staticTypes := #[]
  resolved := Array.replicate 8 none
  statics := none }

/-- the primitive byte -/
def k17 : Class := { plain "byte" none with kind := .primitive 'B', accessFlags := 0x411 }
/-- [B -/
def k18 : Class := { plain "[B" (some 0) with kind := .array 17 .byte, interfaces := #[16, 4], accessFlags := 1041 }

/-- the primitive int -/
def k19 : Class := { plain "int" none with kind := .primitive 'I', accessFlags := 0x411 }
/-- [I -/
def k20 : Class := { plain "[I" (some 0) with kind := .array 19 .int, interfaces := #[16, 4], accessFlags := 1041 }

def heap : Heap := #[{ cls := 6, slots := #[.ref 3, .ref 4, .null], vm := .statics 6 },
  { cls := 9, slots := #[.long 0, .int 1, .null, .int 0, .null, .int 0, .int 0], vm := .statics 9 },
  { cls := 11, slots := #[.null, .null, .null], vm := .statics 11 },
  { cls := 6, slots := #[.null, .int 0, .int 0], vm := .none },
  { cls := 6, slots := #[.null, .int 1, .int 0], vm := .none }]
def classes : Array Class := #[k0, k1, k2, k3, k4, k5, k6, k7, k8, k9, k10, k11, k12, k13, k14, k15, k16, k17, k18, k19, k20]
def interned : List (Array UInt16 × Addr) := []
def slotsUsed : Nat := 19
def theMethod : MethodId := ⟨1, 1⟩
def args0 : Array Value := #[.int 5, .int 9]
def aboutOver (below : List Frame) : State where
  vm := { classes := classes, interned := interned.toArray }
  heap := heap
  slotsUsed := slotsUsed
  threads := #[{ frames := .invoking theMethod args0 :: below }]
def below0 : List Frame := [.native { method := ⟨0, 0⟩, args := #[] }]
def about1 : State := aboutOver below0
def p0 : Program := .bare "" "" ""
def e0 : Env := launch0.env 0 0 0
theorem w_frames : about1.frames = Frame.invoking theMethod args0 :: below0 := rfl
set_option maxRecDepth 65536 in
theorem w_args : argsFit about1.vm theMethod args0 = true := by decide +kernel
set_option maxRecDepth 65536 in
theorem w_heap : heapFits about1 = true := by decide +kernel
set_option maxRecDepth 65536 in
theorem w_runnable : about1.curStatus? = some .runnable := by decide +kernel
set_option maxRecDepth 65536 in
theorem w_alone : about1.alone = true := by decide +kernel
set_option maxRecDepth 65536 in
theorem w_named : about1.methodNamed? x = some theMethod := by decide +kernel
set_option maxRecDepth 65536 in
theorem w_hears : about1.hears theMethod below0 = true := by decide +kernel
set_option maxRecDepth 65536 in
theorem w_ripe : about1.ripe theMethod args0 below0 = true := by decide +kernel
theorem w_running : about1.status = .running := rfl
set_option maxRecDepth 65536 in
theorem w_room : about1.hasRoom e0.platform room_1 = true :=
  launch0.hasRoom_least _ room_1 (by decide +kernel) (by decide +kernel) (by decide +kernel) (by decide +kernel) (by decide +kernel) (by decide +kernel)
theorem allAtoms_all (ts : List Jvm.Cond) (a : Array Jvm.Value) (st : Jvm.State) : (allAtoms ts).before a st = ts.all (fun c => c.before a st) := by
  induction ts with
  | nil => rfl
  | cons c t ih =>
    show (Jvm.Cond.and c (allAtoms t)).before a st = _
    rw [Jvm.Cond.before_and, ih, List.all_cons]
def words1 : List Jvm.Cond := Jvm.Cond.code x code maxLocals ret :: tables_1
/-- a 'code' word, met by the world's own term for the bytes: nothing is compared byte by byte -/
theorem code_word {y : MethodName} {bytes : ByteArray} {mx : Nat} {rt : Option FieldType} {a : Array Value} {s : State} {m : MethodId} {meth : Method} {c : Code} (h1 : s.methodNamed? y = some m) (h2 : s.vm.method? m = some meth) (h3 : meth.code = some c) (h4 : c.code = bytes)
    (h5 : (c.maxLocals == mx && c.exceptionTable.isEmpty && decide (c.maxStack ≤ mostOperands) && decide (meth.sig.returnType = rt) && !meth.locks && decide (parseMethodDescriptor y.desc = some meth.sig)) = true) : (Jvm.Cond.code y bytes mx rt).before a s = true := by
  simp only [Bool.and_eq_true, beq_iff_eq, Bool.not_eq_true', decide_eq_true_eq] at h5
  obtain ⟨⟨⟨⟨⟨g1, g2⟩, g3⟩, g4⟩, g5⟩, g6⟩ := h5
  simp [Cond.before, Cond.holds, Cond.value, h1, h2, h3, h4, g1, g2, g3, g4, g5, g6]
def isCode : Jvm.Cond → Bool
  | .code _ _ _ _ => true
  | _ => false
theorem all_split {L : List Jvm.Cond} {P : Jvm.Cond → Bool} (h1 : L.all (fun c => isCode c || P c) = true) (h2 : ∀ c ∈ L.filter isCode, P c = true) : L.all P = true := by
  refine List.all_eq_true.mpr fun c hc => ?_
  have h := List.all_eq_true.mp h1 c hc
  rcases Bool.eq_false_or_eq_true (isCode c) with hi | hi
  · exact h2 c (List.mem_filter.mpr ⟨hc, hi⟩)
  · simpa [hi] using h
set_option maxRecDepth 65536 in
theorem w_c0 : (Jvm.Cond.code x code maxLocals ret).before args0 about1 = true := code_word (m := ⟨1, 1⟩) (meth := k1m1) (c := k1c1) (by decide +kernel) rfl rfl rfl (by decide +kernel)
set_option maxRecDepth 65536 in
theorem w_c1 : (Jvm.Cond.code ({ cls := "com/example/thalwil/thalwil/KeyEquality", name := "of", desc := "(I)Lcom/example/thalwil/thalwil/KeyEquality;" } : Jvm.MethodName) prog_14_method_4_code (1 : Nat) (Option.some (Jvm.ClassFile.FieldType.object "com/example/thalwil/thalwil/KeyEquality"))).before args0 about1 = true := code_word (m := ⟨6, 0⟩) (meth := k6m0) (c := k6c0) (by decide +kernel) rfl rfl rfl (by decide +kernel)
set_option maxRecDepth 65536 in
theorem w_c2 : (Jvm.Cond.code ({ cls := "com/example/thalwil/thalwil/KeyEquality", name := "identity", desc := "(Ljava/lang/Object;)Ljava/lang/Object;" } : Jvm.MethodName) prog_14_method_5_code (4 : Nat) (Option.some (Jvm.ClassFile.FieldType.object "java/lang/Object"))).before args0 about1 = true := code_word (m := ⟨6, 1⟩) (meth := k6m1) (c := k6c1) (by decide +kernel) rfl rfl rfl (by decide +kernel)
set_option maxRecDepth 65536 in
theorem w_c3 : (Jvm.Cond.code ({ cls := "java/lang/String", name := "length", desc := "()I" } : Jvm.MethodName) jdk_42_method_54_code (1 : Nat) (Option.some Jvm.ClassFile.FieldType.int)).before args0 about1 = true := code_word (m := ⟨9, 1⟩) (meth := k9m1) (c := k9c1) (by decide +kernel) rfl rfl rfl (by decide +kernel)
set_option maxRecDepth 65536 in
theorem w_c4 : (Jvm.Cond.code ({ cls := "java/lang/String", name := "coder", desc := "()B" } : Jvm.MethodName) jdk_42_method_152_code (1 : Nat) (Option.some Jvm.ClassFile.FieldType.byte)).before args0 about1 = true := code_word (m := ⟨9, 6⟩) (meth := k9m6) (c := k9c6) (by decide +kernel) rfl rfl rfl (by decide +kernel)
set_option maxRecDepth 65536 in
theorem w_c5 : (Jvm.Cond.code ({ cls := "java/lang/String", name := "charAt", desc := "(I)C" } : Jvm.MethodName) jdk_42_method_56_code (2 : Nat) (Option.some Jvm.ClassFile.FieldType.char)).before args0 about1 = true := code_word (m := ⟨9, 2⟩) (meth := k9m2) (c := k9c2) (by decide +kernel) rfl rfl rfl (by decide +kernel)
set_option maxRecDepth 65536 in
theorem w_c6 : (Jvm.Cond.code ({ cls := "java/lang/String", name := "isLatin1", desc := "()Z" } : Jvm.MethodName) jdk_42_method_154_code (1 : Nat) (Option.some Jvm.ClassFile.FieldType.boolean)).before args0 about1 = true := code_word (m := ⟨9, 7⟩) (meth := k9m7) (c := k9c7) (by decide +kernel) rfl rfl rfl (by decide +kernel)
set_option maxRecDepth 65536 in
theorem w_c7 : (Jvm.Cond.code ({ cls := "java/lang/StringLatin1", name := "charAt", desc := "([BI)C" } : Jvm.MethodName) jdk_43_method_2_code (2 : Nat) (Option.some Jvm.ClassFile.FieldType.char)).before args0 about1 = true := code_word (m := ⟨10, 1⟩) (meth := k10m1) (c := k10c1) (by decide +kernel) rfl rfl rfl (by decide +kernel)
set_option maxRecDepth 65536 in
theorem w_c8 : (Jvm.Cond.code ({ cls := "java/lang/String", name := "checkIndex", desc := "(II)V" } : Jvm.MethodName) jdk_42_method_155_code (2 : Nat) (Option.none : Option Jvm.ClassFile.FieldType)).before args0 about1 = true := code_word (m := ⟨9, 8⟩) (meth := k9m8) (c := k9c8) (by decide +kernel) rfl rfl rfl (by decide +kernel)
set_option maxRecDepth 65536 in
theorem w_c9 : (Jvm.Cond.code ({ cls := "jdk/internal/util/Preconditions", name := "checkIndex", desc := "(IILjava/util/function/BiFunction;)I" } : Jvm.MethodName) jdk_41_method_11_code (3 : Nat) (Option.some Jvm.ClassFile.FieldType.int)).before args0 about1 = true := code_word (m := ⟨11, 1⟩) (meth := k11m1) (c := k11c1) (by decide +kernel) rfl rfl rfl (by decide +kernel)
set_option maxRecDepth 65536 in
theorem w_c10 : (Jvm.Cond.code ({ cls := "java/lang/String", name := "substring", desc := "(II)Ljava/lang/String;" } : Jvm.MethodName) jdk_42_method_92_code (5 : Nat) (Option.some (Jvm.ClassFile.FieldType.object "java/lang/String"))).before args0 about1 = true := code_word (m := ⟨9, 4⟩) (meth := k9m4) (c := k9c4) (by decide +kernel) rfl rfl rfl (by decide +kernel)
set_option maxRecDepth 65536 in
theorem w_c11 : (Jvm.Cond.code ({ cls := "java/lang/String", name := "checkBoundsBeginEnd", desc := "(III)V" } : Jvm.MethodName) jdk_42_method_158_code (3 : Nat) (Option.none : Option Jvm.ClassFile.FieldType)).before args0 about1 = true := code_word (m := ⟨9, 9⟩) (meth := k9m9) (c := k9c9) (by decide +kernel) rfl rfl rfl (by decide +kernel)
set_option maxRecDepth 65536 in
theorem w_c12 : (Jvm.Cond.code ({ cls := "jdk/internal/util/Preconditions", name := "checkFromToIndex", desc := "(IIILjava/util/function/BiFunction;)I" } : Jvm.MethodName) jdk_41_method_12_code (4 : Nat) (Option.some Jvm.ClassFile.FieldType.int)).before args0 about1 = true := code_word (m := ⟨11, 2⟩) (meth := k11m2) (c := k11c2) (by decide +kernel) rfl rfl rfl (by decide +kernel)
set_option maxRecDepth 65536 in
theorem w_c13 : (Jvm.Cond.code ({ cls := "java/lang/StringLatin1", name := "newString", desc := "([BII)Ljava/lang/String;" } : Jvm.MethodName) jdk_43_method_47_code (3 : Nat) (Option.some (Jvm.ClassFile.FieldType.object "java/lang/String"))).before args0 about1 = true := code_word (m := ⟨10, 3⟩) (meth := k10m3) (c := k10c3) (by decide +kernel) rfl rfl rfl (by decide +kernel)
set_option maxRecDepth 65536 in
theorem w_c14 : (Jvm.Cond.code ({ cls := "java/util/Arrays", name := "copyOfRange", desc := "([BII)[B" } : Jvm.MethodName) jdk_65_method_132_code (3 : Nat) (Option.some (Jvm.ClassFile.FieldType.array Jvm.ClassFile.FieldType.byte))).before args0 about1 = true := code_word (m := ⟨12, 2⟩) (meth := k12m2) (c := k12c2) (by decide +kernel) rfl rfl rfl (by decide +kernel)
set_option maxRecDepth 65536 in
theorem w_c15 : (Jvm.Cond.code ({ cls := "java/util/Arrays", name := "copyOfRangeByte", desc := "([BII)[B" } : Jvm.MethodName) jdk_65_method_133_code (5 : Nat) (Option.some (Jvm.ClassFile.FieldType.array Jvm.ClassFile.FieldType.byte))).before args0 about1 = true := code_word (m := ⟨12, 3⟩) (meth := k12m3) (c := k12c3) (by decide +kernel) rfl rfl rfl (by decide +kernel)
set_option maxRecDepth 65536 in
theorem w_c16 : (Jvm.Cond.code ({ cls := "java/util/Arrays", name := "checkLength", desc := "(II)V" } : Jvm.MethodName) jdk_65_method_131_code (2 : Nat) (Option.none : Option Jvm.ClassFile.FieldType)).before args0 about1 = true := code_word (m := ⟨12, 1⟩) (meth := k12m1) (c := k12c1) (by decide +kernel) rfl rfl rfl (by decide +kernel)
set_option maxRecDepth 65536 in
theorem w_c17 : (Jvm.Cond.code ({ cls := "java/lang/Math", name := "min", desc := "(II)I" } : Jvm.MethodName) jdk_29_method_69_code (2 : Nat) (Option.some Jvm.ClassFile.FieldType.int)).before args0 about1 = true := code_word (m := ⟨13, 1⟩) (meth := k13m1) (c := k13c1) (by decide +kernel) rfl rfl rfl (by decide +kernel)
set_option maxRecDepth 65536 in
theorem w_c18 : (Jvm.Cond.code ({ cls := "java/lang/String", name := "<init>", desc := "([BB)V" } : Jvm.MethodName) jdk_42_method_151_code (3 : Nat) (Option.none : Option Jvm.ClassFile.FieldType)).before args0 about1 = true := code_word (m := ⟨9, 5⟩) (meth := k9m5) (c := k9c5) (by decide +kernel) rfl rfl rfl (by decide +kernel)
set_option maxRecDepth 65536 in
theorem w_c19 : (Jvm.Cond.code ({ cls := "java/lang/Object", name := "<init>", desc := "()V" } : Jvm.MethodName) object_method_1_code (1 : Nat) (Option.none : Option Jvm.ClassFile.FieldType)).before args0 about1 = true := code_word (m := ⟨0, 0⟩) (meth := k0m0) (c := k0c0) (by decide +kernel) rfl rfl rfl (by decide +kernel)
set_option maxRecDepth 65536 in
theorem w_c20 : (Jvm.Cond.code ({ cls := "java/lang/String", name := "equals", desc := "(Ljava/lang/Object;)Z" } : Jvm.MethodName) jdk_42_method_66_code (3 : Nat) (Option.some Jvm.ClassFile.FieldType.boolean)).before args0 about1 = true := code_word (m := ⟨9, 3⟩) (meth := k9m3) (c := k9c3) (by decide +kernel) rfl rfl rfl (by decide +kernel)
set_option maxRecDepth 65536 in
theorem w_c21 : (Jvm.Cond.code ({ cls := "java/lang/StringLatin1", name := "equals", desc := "([B[B)Z" } : Jvm.MethodName) jdk_43_method_13_code (3 : Nat) (Option.some Jvm.ClassFile.FieldType.boolean)).before args0 about1 = true := code_word (m := ⟨10, 2⟩) (meth := k10m2) (c := k10c2) (by decide +kernel) rfl rfl rfl (by decide +kernel)
def codes1 : List Jvm.Cond := [Jvm.Cond.code x code maxLocals ret, Jvm.Cond.code ({ cls := "com/example/thalwil/thalwil/KeyEquality", name := "of", desc := "(I)Lcom/example/thalwil/thalwil/KeyEquality;" } : Jvm.MethodName) prog_14_method_4_code (1 : Nat) (Option.some (Jvm.ClassFile.FieldType.object "com/example/thalwil/thalwil/KeyEquality")), Jvm.Cond.code ({ cls := "com/example/thalwil/thalwil/KeyEquality", name := "identity", desc := "(Ljava/lang/Object;)Ljava/lang/Object;" } : Jvm.MethodName) prog_14_method_5_code (4 : Nat) (Option.some (Jvm.ClassFile.FieldType.object "java/lang/Object")), Jvm.Cond.code ({ cls := "java/lang/String", name := "length", desc := "()I" } : Jvm.MethodName) jdk_42_method_54_code (1 : Nat) (Option.some Jvm.ClassFile.FieldType.int), Jvm.Cond.code ({ cls := "java/lang/String", name := "coder", desc := "()B" } : Jvm.MethodName) jdk_42_method_152_code (1 : Nat) (Option.some Jvm.ClassFile.FieldType.byte), Jvm.Cond.code ({ cls := "java/lang/String", name := "charAt", desc := "(I)C" } : Jvm.MethodName) jdk_42_method_56_code (2 : Nat) (Option.some Jvm.ClassFile.FieldType.char), Jvm.Cond.code ({ cls := "java/lang/String", name := "isLatin1", desc := "()Z" } : Jvm.MethodName) jdk_42_method_154_code (1 : Nat) (Option.some Jvm.ClassFile.FieldType.boolean), Jvm.Cond.code ({ cls := "java/lang/StringLatin1", name := "charAt", desc := "([BI)C" } : Jvm.MethodName) jdk_43_method_2_code (2 : Nat) (Option.some Jvm.ClassFile.FieldType.char), Jvm.Cond.code ({ cls := "java/lang/String", name := "checkIndex", desc := "(II)V" } : Jvm.MethodName) jdk_42_method_155_code (2 : Nat) (Option.none : Option Jvm.ClassFile.FieldType), Jvm.Cond.code ({ cls := "jdk/internal/util/Preconditions", name := "checkIndex", desc := "(IILjava/util/function/BiFunction;)I" } : Jvm.MethodName) jdk_41_method_11_code (3 : Nat) (Option.some Jvm.ClassFile.FieldType.int), Jvm.Cond.code ({ cls := "java/lang/String", name := "substring", desc := "(II)Ljava/lang/String;" } : Jvm.MethodName) jdk_42_method_92_code (5 : Nat) (Option.some (Jvm.ClassFile.FieldType.object "java/lang/String")), Jvm.Cond.code ({ cls := "java/lang/String", name := "checkBoundsBeginEnd", desc := "(III)V" } : Jvm.MethodName) jdk_42_method_158_code (3 : Nat) (Option.none : Option Jvm.ClassFile.FieldType), Jvm.Cond.code ({ cls := "jdk/internal/util/Preconditions", name := "checkFromToIndex", desc := "(IIILjava/util/function/BiFunction;)I" } : Jvm.MethodName) jdk_41_method_12_code (4 : Nat) (Option.some Jvm.ClassFile.FieldType.int), Jvm.Cond.code ({ cls := "java/lang/StringLatin1", name := "newString", desc := "([BII)Ljava/lang/String;" } : Jvm.MethodName) jdk_43_method_47_code (3 : Nat) (Option.some (Jvm.ClassFile.FieldType.object "java/lang/String")), Jvm.Cond.code ({ cls := "java/util/Arrays", name := "copyOfRange", desc := "([BII)[B" } : Jvm.MethodName) jdk_65_method_132_code (3 : Nat) (Option.some (Jvm.ClassFile.FieldType.array Jvm.ClassFile.FieldType.byte)), Jvm.Cond.code ({ cls := "java/util/Arrays", name := "copyOfRangeByte", desc := "([BII)[B" } : Jvm.MethodName) jdk_65_method_133_code (5 : Nat) (Option.some (Jvm.ClassFile.FieldType.array Jvm.ClassFile.FieldType.byte)), Jvm.Cond.code ({ cls := "java/util/Arrays", name := "checkLength", desc := "(II)V" } : Jvm.MethodName) jdk_65_method_131_code (2 : Nat) (Option.none : Option Jvm.ClassFile.FieldType), Jvm.Cond.code ({ cls := "java/lang/Math", name := "min", desc := "(II)I" } : Jvm.MethodName) jdk_29_method_69_code (2 : Nat) (Option.some Jvm.ClassFile.FieldType.int), Jvm.Cond.code ({ cls := "java/lang/String", name := "<init>", desc := "([BB)V" } : Jvm.MethodName) jdk_42_method_151_code (3 : Nat) (Option.none : Option Jvm.ClassFile.FieldType), Jvm.Cond.code ({ cls := "java/lang/Object", name := "<init>", desc := "()V" } : Jvm.MethodName) object_method_1_code (1 : Nat) (Option.none : Option Jvm.ClassFile.FieldType), Jvm.Cond.code ({ cls := "java/lang/String", name := "equals", desc := "(Ljava/lang/Object;)Z" } : Jvm.MethodName) jdk_42_method_66_code (3 : Nat) (Option.some Jvm.ClassFile.FieldType.boolean), Jvm.Cond.code ({ cls := "java/lang/StringLatin1", name := "equals", desc := "([B[B)Z" } : Jvm.MethodName) jdk_43_method_13_code (3 : Nat) (Option.some Jvm.ClassFile.FieldType.boolean)]
set_option maxRecDepth 65536 in
theorem codes_eq : words1.filter isCode = codes1 := rfl
theorem w_codes : ∀ c ∈ words1.filter isCode, c.before args0 about1 = true := by
  rw [codes_eq]
  intro c hc
  simp only [codes1, List.mem_cons, List.not_mem_nil, or_false] at hc
  rcases hc with rfl | rfl | rfl | rfl | rfl | rfl | rfl | rfl | rfl | rfl | rfl | rfl | rfl | rfl | rfl | rfl | rfl | rfl | rfl | rfl | rfl | rfl
  · exact w_c0
  · exact w_c1
  · exact w_c2
  · exact w_c3
  · exact w_c4
  · exact w_c5
  · exact w_c6
  · exact w_c7
  · exact w_c8
  · exact w_c9
  · exact w_c10
  · exact w_c11
  · exact w_c12
  · exact w_c13
  · exact w_c14
  · exact w_c15
  · exact w_c16
  · exact w_c17
  · exact w_c18
  · exact w_c19
  · exact w_c20
  · exact w_c21
set_option maxRecDepth 65536 in
theorem w_t1 : (words1.take 24).all (fun c => isCode c || c.before args0 about1) = true := by decide +kernel
set_option maxRecDepth 65536 in
theorem w_t2 : ((words1.drop 24).take 24).all (fun c => isCode c || c.before args0 about1) = true := by decide +kernel
set_option maxRecDepth 65536 in
theorem w_t3 : (((words1.drop 24).drop 24).take 24).all (fun c => isCode c || c.before args0 about1) = true := by decide +kernel
set_option maxRecDepth 65536 in
theorem w_t4 : ((((words1.drop 24).drop 24).drop 24).take 24).all (fun c => isCode c || c.before args0 about1) = true := by decide +kernel
set_option maxRecDepth 65536 in
theorem w_t5 : ((((words1.drop 24).drop 24).drop 24).drop 24).all (fun c => isCode c || c.before args0 about1) = true := by decide +kernel
theorem w_tables : (allAtoms (Jvm.Cond.code x code maxLocals ret :: tables_1)).before args0 about1 = true := by
  rw [allAtoms_all]
  show words1.all (fun c => c.before args0 about1) = true
  refine all_split ?_ w_codes
  rw [← List.take_append_drop 24 words1, List.all_append, w_t1, ← List.take_append_drop 24 (words1.drop 24), List.all_append, w_t2, ← List.take_append_drop 24 ((words1.drop 24).drop 24), List.all_append, w_t3, ← List.take_append_drop 24 (((words1.drop 24).drop 24).drop 24), List.all_append, w_t4, w_t5]
  rfl
set_option maxRecDepth 65536 in
theorem w_rest : rest_1_c.before args0 about1 = true := by decide +kernel
set_option maxRecDepth 65536 in
theorem w_case : (Jvm.Cond.and given_1 narrow_1).before args0 about1 = true := by decide +kernel
set_option maxRecDepth 65536 in
theorem w_consts : constsHeld consts_1 about1 := Jvm.Lit.constsHeldB_iff.mp (by decide +kernel)
theorem w_applies : (headSpec (Jvm.Cond.code x code maxLocals ret :: tables_1) room_1).applies x e0.platform about1 = true :=
  (Spec.applies_iff w_frames).mpr ⟨w_running, w_runnable, w_alone, w_named, w_hears, w_ripe, w_room, w_tables⟩
theorem atStart : AtStart classFile x code maxLocals ret World_1 tables_1 room_1 Calls_1 rest_1 Pre_1 launch0 p0 e0 about1 theMethod args0 below0 :=
  ⟨lists_1, trivial, launch0.admits_env _ _ _, launch0.least_env, fairChoices_fair.cas, fairChoices_fair.clock, w_frames, w_args, w_heap, w_applies, ⟨w_consts, trivial⟩, w_rest, w_case⟩
end start1
theorem witness_1 : WitnessClaimed_1 := ⟨start1.p0, start1.e0, start1.about1, start1.theMethod, start1.args0, start1.below0, start1.atStart⟩
end Jvm.Pilot.@@N@@
