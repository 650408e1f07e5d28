import JvmDerived
import JvmDerived.Pilot.@@N@@Statement
import JvmDerived.Pilot.@@N@@Code
set_option linter.unusedVariables false
set_option linter.unusedSimpArgs false
namespace Jvm.RoadKit
theorem Ext.refl (h : Heap) : Ext h h := ⟨Nat.le_refl _, fun _ _ q => q⟩
theorem Ext.trans {h h1 h2 : Heap} (A : Ext h h1) (B : Ext h1 h2) : Ext h h2 := ⟨Nat.le_trans A.1 B.1, fun a c q => B.2 a c (A.2 a c q)⟩
end Jvm.RoadKit
namespace Jvm.OwnKit
open Sem ClassFile Op Lib Jvm.Stand Jvm.Free Jvm.LawKit Jvm.RoadKit

/-- where the walk stands: the tables so far, nothing old written, the String constants held, the objects under construction -/
def St (p : Program) (l : Launch) (e : Env) (R : Room) (s : State) (m : MethodId) (args : Array Value) (below : List Frame) (meth : Method) (c : Code)
    (own : String) (bytes : ByteArray) (maxL : Nat) (ret : Option FieldType) (nm : String) (Z : State) (EL : List (String × Nat)) (nw : Bool) (us : List Addr)
    (T : State) (h : Heap) (cells slots : Nat) : Prop :=
  (p.tables.exec = Jvm.exec ∧ c.code = bytes ∧ c.maxLocals = maxL ∧ meth.sig.returnType = ret ∧ meth.name = nm ∧ meth.locks = false ∧ ∃ a0, EW Z a0 EL) ∧
  ∃ (vm0 : Vm) (locs : List Loc), Stand p l e R (s.setVm vm0) m args below meth c T locs cells slots ∧ Fr Z.heap.size locs ∧ T.heap = h ∧ s.Since vm0 h.size ∧
    Z.Warmed39 vm0 ∧ vm0.findClass own = some m.cls ∧ Ext Z.heap h ∧ CHr Z EL s.vm s.heap vm0 h ∧
    (∀ x ∈ us, Z.heap.size ≤ x ∧ x < h.size ∧ Safe Z EL vm0 h x) ∧ (nw = true → s.WarmedH vm0)

/-- from here the method returns, with Q of what it returns and of the heap it leaves -/
def Goes (p : Program) (e : Env) (below : List Frame) (s Z : State) (EL : List (String × Nat)) (nw : Bool) (Q : Option Value → Heap → Prop) (kk nn : Nat) (S : State) : Prop :=
  ∃ U o, Steps p.tables e below S U ∧ U.status = .running ∧ Ended U below o ∧ ∃ v L, o = .returned v ∧ Q v U.heap ∧ Fr Z.heap.size L ∧ Ext Z.heap U.heap ∧
    CHr Z EL s.vm s.heap U.vm U.heap ∧ ReturnedEndW s o U L kk nn ∧ (nw = true → s.WarmedH U.vm)

/-- the contract of a method for the arguments as' at the heap h -/
def Ctr (l : Launch) (Z : State) (EL : List (String × Nat)) (nw : Bool) (y : MethodName) (bytes : ByteArray) (maxL : Nat) (ret : Option FieldType) (rm : Room) (as' : Array Value) (h : Heap) (us : List Addr)
    (Q : Option Value → Heap → Prop) : Prop :=
  ∀ ws : List Jvm.Cond, MetFree l y (head1 (Jvm.Cond.code y bytes maxL ret :: ws) rm)
    (fun a U => a = as' ∧ Z.Warmed39 U.vm ∧ U.heap = h ∧ Ext Z.heap h ∧ CHv Z EL U.vm h ∧ ∀ x ∈ us, Z.heap.size ≤ x ∧ x < h.size ∧ Safe Z EL U.vm h x)
    (fun _ _ _ _ _ => True)
    (fun _ U o U' => ∃ v L, o = .returned v ∧ Q v U'.heap ∧ Fr Z.heap.size L ∧ Ext Z.heap U'.heap ∧ CHr Z EL U.vm U.heap U'.vm U'.heap ∧ ReturnedEndW U o U' L rm.cells rm.slots ∧ (nw = true → U.WarmedH U'.vm))

def PureQ (h : Heap) (Qv : Value → Prop) : Option Value → Heap → Prop := fun v h' => h' = h ∧ ∃ w, v = some w ∧ Qv w
def ValQ (Qv : Value → Heap → Prop) : Option Value → Heap → Prop := fun v h' => ∃ w, v = some w ∧ Qv w h'
def VoidQ (Qn : Heap → Prop) : Option Value → Heap → Prop := fun v h' => v = none ∧ Qn h'
section Base
variable {p : Program} {l : Launch} {e : Env} {R : Room} {s : State} {m : MethodId} {args : Array Value} {below : List Frame} {meth : Method} {c : Code}
  {own : String} {bytes : ByteArray} {maxL : Nat} {ret : Option FieldType} {nm : String} {Z : State} {EL : List (String × Nat)} {nw : Bool} {us : List Addr}
  {T : State} {h : Heap} {cells slots : Nat} {Q : Option Value → Heap → Prop} {kk nn : Nat} {a0 : Array Value}

theorem ext_keep {h h1 h2 : Heap} {ws : List Addr} (A : Ext h h1) (K : Keep h1 h2 ws) (q : ∀ x ∈ ws, h.size ≤ x) : Ext h h2 :=
  ⟨Nat.le_trans A.1 K.1, fun a c r => K.2.1 a c (A.2 a c r) fun z => absurd (Array.getElem?_eq_some_iff.mp r).1 (Nat.not_lt.mpr (q a z))⟩
theorem ext_wr {h h1 h2 : Heap} {a : Addr} {sl : Nat} {v : Value} (A : Ext h h1) (W : Wr h1 h2 a sl v) (q : h.size ≤ a) : Ext h h2 :=
  ext_keep A (Keep.of_wr W) (fun x hx => by cases List.mem_singleton.mp hx; exact q)
theorem nar_mask (x : Int32) : nar .char (x &&& 255) = x &&& 255 := i2c_mask x
theorem ref_nar {v : Value} {t : FieldType} (h : v.isRef = true) (ht : t.isReference = true) : narrow t v = v := by
  rcases ref_cases h with rfl | ⟨a, rfl⟩ <;> cases t <;> first | rfl | simp [FieldType.isReference] at ht
theorem ref_fit {v : Value} {t : FieldType} (h : v.isRef = true) (ht : t.isReference = true) : fits t v = true := by
  rcases ref_cases h with rfl | ⟨a, rfl⟩ <;> cases t <;> first | rfl | simp [FieldType.isReference] at ht
theorem Sta.keepN {h1 h2 : Heap} {C n d : String} {v : Value} {ws : List Addr} (F : Sta Z Z.heap C n d v) (E : Ext Z.heap h2) : Sta Z h2 C n d v := Sta.ext E F

theorem St.at (X : St p l e R s m args below meth c own bytes maxL ret nm Z EL nw us T h cells slots) : At T m c below := by obtain ⟨-, _, _, Y, -⟩ := X; exact Y.here
theorem St.std (X : St p l e R s m args below meth c own bytes maxL ret nm Z EL nw us T h cells slots) : ∃ vm0 locs, Stand p l e R (s.setVm vm0) m args below meth c T locs cells slots := by obtain ⟨-, vm0, locs, Y, -⟩ := X; exact ⟨vm0, locs, Y⟩
theorem St.hx (X : St p l e R s m args below meth c own bytes maxL ret nm Z EL nw us T h cells slots) : p.tables.exec = Jvm.exec := X.1.1
theorem St.by (X : St p l e R s m args below meth c own bytes maxL ret nm Z EL nw us T h cells slots) : c.code = bytes := X.1.2.1
theorem St.old (X : St p l e R s m args below meth c own bytes maxL ret nm Z EL nw us T h cells slots) : Ext Z.heap h := by obtain ⟨-, _, _, -, -, -, -, -, -, q, -⟩ := X; exact q
theorem St.new (X : St p l e R s m args below meth c own bytes maxL ret nm Z EL nw us T h cells slots) {x : Addr} (hx : x ∈ us) : Z.heap.size ≤ x ∧ x < h.size := by
  obtain ⟨-, _, _, -, -, -, -, -, -, -, -, q, -⟩ := X; exact ⟨(q x hx).1, (q x hx).2.1⟩
theorem St.mono (X : St p l e R s m args below meth c own bytes maxL ret nm Z EL nw us T h cells slots) {cells' slots' : Nat} (hc : cells ≤ cells') (hs : slots ≤ slots') : St p l e R s m args below meth c own bytes maxL ret nm Z EL nw us T h cells' slots' := by
  obtain ⟨cx, vm0, locs, Y, r⟩ := X
  exact ⟨cx, vm0, locs, Y.mono hc hs, r⟩
theorem St.sub (X : St p l e R s m args below meth c own bytes maxL ret nm Z EL nw us T h cells slots) {us' : List Addr} (q : ∀ x ∈ us', x ∈ us) : St p l e R s m args below meth c own bytes maxL ret nm Z EL nw us' T h cells slots := by
  obtain ⟨cx, vm0, locs, Y, r1, r2, r3, r4, r5, r6, r7, r8, r9⟩ := X
  exact ⟨cx, vm0, locs, Y, r1, r2, r3, r4, r5, r6, r7, fun x hx => r8 x (q x hx), r9⟩

theorem Goes.step {S S' : State} (f : ∀ t, Steps p.tables e below S' t → Steps p.tables e below S t) (K : Goes p e below s Z EL nw Q kk nn S') : Goes p e below s Z EL nw Q kk nn S := by
  obtain ⟨U, o, hs, r⟩ := K; exact ⟨U, o, f _ hs, r⟩
theorem Goes.imp {Q' : Option Value → Heap → Prop} {S : State} (f : ∀ v h, Q v h → Q' v h) (K : Goes p e below s Z EL nw Q kk nn S) : Goes p e below s Z EL nw Q' kk nn S := by
  obtain ⟨U, o, h1, h2, h3, v, L, h4, h5, r⟩ := K; exact ⟨U, o, h1, h2, h3, v, L, h4, f _ _ h5, r⟩

/-- entering a method -/
theorem Ctr.enter {y : MethodName} {rm : Room} {as' : Array Value} (h1 : y.cls = own) (h2 : y.name = nm) (hEL : EW Z a0 EL) (hn : plainFor y = true) (Ls : Array Slot) (ef : ∀ m, entryFrame m as' maxL = mkF m 0 Ls [])
    (body : ∀ (p : Program) (e : Env) (s : State) (m : MethodId) (below : List Frame) (meth : Method) (c : Code) (T : State),
      St p l e rm s m as' below meth c own bytes maxL ret nm Z EL nw us T h 0 0 → Goes p e below s Z EL nw Q rm.cells rm.slots (T.setTop (mkF m 0 Ls []))) :
    Ctr l Z EL nw y bytes maxL ret rm as' h us Q := by
  subst h1 h2
  intro ws
  refine MetFree.of_bodySF hn hisR ?_
  intro p e s m args below meth c s₁ Bd hml0 hP _
  obtain ⟨rfl, hZ, hh, hE, hC, hU⟩ := hP
  have hnm := (name_of_methodNamed Bd.named Bd.method).1
  have hown : s.vm.findClass y.cls = some m.cls := findClass_of_methodNamed Bd.named
  have e0 : s₁.heap = h := by rw [← hh, Bd.state]; rfl
  have X0 : Stand p l e rm (s.setVm s.vm) m args below meth c s₁ [] 0 0 := Stand.of_body Bd
  have X : St p l e rm s m args below meth c y.cls bytes maxL ret y.name Z EL nw us s₁ h 0 0 :=
    ⟨⟨Bd.exec, Bd.bytes, hml0, Bd.returns, hnm, Bd.notSynchronized, a0, hEL⟩, s.vm, [], X0, Fr.nil _, e0, (State.WarmedH.refl s).since _, hZ, hown, hE, by rw [hh]; exact CHr.refl hC, hU, fun _ => State.WarmedH.refl s⟩
  obtain ⟨U, o, h1, h2, h3, h4⟩ := body p e s m below meth c s₁ X
  refine ⟨U, o, ?_, h2, h3, h4⟩
  rw [ef m]; exact h1

theorem leave0 (X : St p l e R s m args below meth c own bytes maxL ret nm Z EL nw us T h cells slots) {v : Option Value} (hv : ret = none → v = none) (hc : cells ≤ kk) (hn : slots ≤ nn) (hQ : Q v h)
    {S : State} (f : ∀ fs, (∀ (f : JFrame) (acts : List Action), f.method = m → f.locked = none → f.entered = [] → (doReturn e (T.setTop f) acts v).1 = T.setFrames fs) → Steps p.tables e below S (T.setFrames fs)) :
    Goes p e below s Z EL nw Q kk nn S := by
  obtain ⟨⟨h1, h2, h3, h4, h5, h6, a0', hEL⟩, vm0, locs, Y, N, eT, hS, hZ, hown, hE, hC, hU, hW⟩ := X
  have Y' := Y.mono hc hn
  obtain ⟨fs, g1, g2, g3, g4⟩ := Y'.leaveW hS (Nat.le_of_eq (by rw [eT])) (v := v) (fun q => hv (h4 ▸ q)) h6
  have hal : CHr Z EL s.vm s.heap (T.setFrames fs).vm (T.setFrames fs).heap := by
    show CHr Z EL s.vm s.heap T.vm T.heap
    rw [eT]
    exact hC.trans (CHv.at Y hZ hEL hC.1)
  exact ⟨_, _, f fs g1, g2, g3, v, locs, rfl, by show Q v T.heap; rw [eT]; exact hQ, N, by show Ext Z.heap T.heap; rw [eT]; exact hE, hal, g4, fun q => State.WarmedH.trans (t := s.setVm vm0) (hW q) Y.warmed⟩
end Base
section Ops
variable {p : Program} {l : Launch} {e : Env} {R : Room} {s : State} {m : MethodId} {args : Array Value} {below : List Frame} {meth : Method} {c : Code}
  {own : String} {bytes : ByteArray} {maxL : Nat} {ret : Option FieldType} {nm : String} {Z : State} {EL : List (String × Nat)} {nw : Bool} {us : List Addr}
  {T : State} {h : Heap} {cells slots : Nat} {Q : Option Value → Heap → Prop} {kk nn : Nat} {a0 : Array Value} {pc : Nat} {Ls : Array Slot} {st : List Value}
theorem g_aload (X : St p l e R s m args below meth c own bytes maxL ret nm Z EL nw us T h cells slots) {k : Nat} {v : Value} (hd : decode bytes pc = .ok (.aload k, 2)) (hl : Ls[k]? = some (.val v)) (hv : v.isRef = true) (pc' : Nat) (hp : pc + 2 = pc')
    (K : Goes p e below s Z EL nw Q kk nn (T.setTop (mkF m pc' Ls (v :: st)))) : Goes p e below s Z EL nw Q kk nn (T.setTop (mkF m pc Ls (st))) := by
  subst hp
  exact K.step fun t k => XS.aload X.at X.hx rfl (hb X.by hd) hl hv k

theorem g_aloadN (X : St p l e R s m args below meth c own bytes maxL ret nm Z EL nw us T h cells slots) {k : Fin 4} {v : Value} (hd : decode bytes pc = .ok (.aload_n k, 1)) (hl : Ls[k.val]? = some (.val v)) (hv : v.isRef = true) (pc' : Nat) (hp : pc + 1 = pc')
    (K : Goes p e below s Z EL nw Q kk nn (T.setTop (mkF m pc' Ls (v :: st)))) : Goes p e below s Z EL nw Q kk nn (T.setTop (mkF m pc Ls (st))) := by
  subst hp
  exact K.step fun t k => XS.aloadN X.at X.hx rfl (hb X.by hd) hl hv k

theorem g_iload (X : St p l e R s m args below meth c own bytes maxL ret nm Z EL nw us T h cells slots) {k : Nat} {v : Int32} (hd : decode bytes pc = .ok (.iload k, 2)) (hl : Ls[k]? = some (.val (.int v))) (pc' : Nat) (hp : pc + 2 = pc')
    (K : Goes p e below s Z EL nw Q kk nn (T.setTop (mkF m pc' Ls (.int v :: st)))) : Goes p e below s Z EL nw Q kk nn (T.setTop (mkF m pc Ls (st))) := by
  subst hp
  exact K.step fun t k => XS.iload X.at X.hx rfl (hb X.by hd) hl k

theorem g_iloadN (X : St p l e R s m args below meth c own bytes maxL ret nm Z EL nw us T h cells slots) {k : Fin 4} {v : Int32} (hd : decode bytes pc = .ok (.iload_n k, 1)) (hl : Ls[k.val]? = some (.val (.int v))) (pc' : Nat) (hp : pc + 1 = pc')
    (K : Goes p e below s Z EL nw Q kk nn (T.setTop (mkF m pc' Ls (.int v :: st)))) : Goes p e below s Z EL nw Q kk nn (T.setTop (mkF m pc Ls (st))) := by
  subst hp
  exact K.step fun t k => XS.iloadN X.at X.hx rfl (hb X.by hd) hl k

theorem g_istore (X : St p l e R s m args below meth c own bytes maxL ret nm Z EL nw us T h cells slots) {k : Nat} {x : Int32} {Ls' : Array Slot} (hd : decode bytes pc = .ok (.istore k, 2)) (hl : storeLocals Ls k (.int x) = some Ls') (pc' : Nat) (hp : pc + 2 = pc')
    (K : Goes p e below s Z EL nw Q kk nn (T.setTop (mkF m pc' Ls' (st)))) : Goes p e below s Z EL nw Q kk nn (T.setTop (mkF m pc Ls (.int x :: st))) := by
  subst hp
  exact K.step fun t k => XS.istore X.at X.hx rfl (hb X.by hd) rfl hl k

theorem g_istoreN (X : St p l e R s m args below meth c own bytes maxL ret nm Z EL nw us T h cells slots) {k : Fin 4} {x : Int32} {Ls' : Array Slot} (hd : decode bytes pc = .ok (.istore_n k, 1)) (hl : storeLocals Ls k.val (.int x) = some Ls') (pc' : Nat) (hp : pc + 1 = pc')
    (K : Goes p e below s Z EL nw Q kk nn (T.setTop (mkF m pc' Ls' (st)))) : Goes p e below s Z EL nw Q kk nn (T.setTop (mkF m pc Ls (.int x :: st))) := by
  subst hp
  exact K.step fun t k => XS.istoreN X.at X.hx rfl (hb X.by hd) rfl hl k

theorem g_astore (X : St p l e R s m args below meth c own bytes maxL ret nm Z EL nw us T h cells slots) {k : Nat} {x : Value} {Ls' : Array Slot} (hd : decode bytes pc = .ok (.astore k, 2)) (hv : x.isRef = true) (hl : storeLocals Ls k x = some Ls') (pc' : Nat) (hp : pc + 2 = pc')
    (K : Goes p e below s Z EL nw Q kk nn (T.setTop (mkF m pc' Ls' (st)))) : Goes p e below s Z EL nw Q kk nn (T.setTop (mkF m pc Ls (x :: st))) := by
  subst hp
  exact K.step fun t k => XS.astore X.at X.hx rfl (hb X.by hd) rfl hv hl k

theorem g_astoreN (X : St p l e R s m args below meth c own bytes maxL ret nm Z EL nw us T h cells slots) {k : Fin 4} {x : Value} {Ls' : Array Slot} (hd : decode bytes pc = .ok (.astore_n k, 1)) (hv : x.isRef = true) (hl : storeLocals Ls k.val x = some Ls') (pc' : Nat) (hp : pc + 1 = pc')
    (K : Goes p e below s Z EL nw Q kk nn (T.setTop (mkF m pc' Ls' (st)))) : Goes p e below s Z EL nw Q kk nn (T.setTop (mkF m pc Ls (x :: st))) := by
  subst hp
  exact K.step fun t k => XS.astoreN X.at X.hx rfl (hb X.by hd) rfl hv hl k

theorem g_iconst (X : St p l e R s m args below meth c own bytes maxL ret nm Z EL nw us T h cells slots) {i : Int} (w : Int32) (hd : decode bytes pc = .ok (.iconst i, 1)) (hw : Int32.ofInt i = w) (pc' : Nat) (hp : pc + 1 = pc')
    (K : Goes p e below s Z EL nw Q kk nn (T.setTop (mkF m pc' Ls (.int w :: st)))) : Goes p e below s Z EL nw Q kk nn (T.setTop (mkF m pc Ls (st))) := by
  subst hp
  exact K.step fun t k => XS.iconst X.at X.hx rfl (hb X.by hd) (by rw [hw]; exact k)

theorem g_bipush (X : St p l e R s m args below meth c own bytes maxL ret nm Z EL nw us T h cells slots) {i : Int} (w : Int32) (hd : decode bytes pc = .ok (.bipush i, 2)) (hw : (Int8.ofInt i).toInt32 = w) (pc' : Nat) (hp : pc + 2 = pc')
    (K : Goes p e below s Z EL nw Q kk nn (T.setTop (mkF m pc' Ls (.int w :: st)))) : Goes p e below s Z EL nw Q kk nn (T.setTop (mkF m pc Ls (st))) := by
  subst hp
  exact K.step fun t k => XS.bipush X.at X.hx rfl (hb X.by hd) (by rw [hw]; exact k)

theorem g_sipush (X : St p l e R s m args below meth c own bytes maxL ret nm Z EL nw us T h cells slots) {i : Int} (w : Int32) (hd : decode bytes pc = .ok (.sipush i, 3)) (hw : (Int16.ofInt i).toInt32 = w) (pc' : Nat) (hp : pc + 3 = pc')
    (K : Goes p e below s Z EL nw Q kk nn (T.setTop (mkF m pc' Ls (.int w :: st)))) : Goes p e below s Z EL nw Q kk nn (T.setTop (mkF m pc Ls (st))) := by
  subst hp
  exact K.step fun t k => XS.sipush X.at X.hx rfl (hb X.by hd) (by rw [hw]; exact k)

theorem g_aconstNull (X : St p l e R s m args below meth c own bytes maxL ret nm Z EL nw us T h cells slots)  (hd : decode bytes pc = .ok (.aconst_null, 1))  (pc' : Nat) (hp : pc + 1 = pc')
    (K : Goes p e below s Z EL nw Q kk nn (T.setTop (mkF m pc' Ls (.null :: st)))) : Goes p e below s Z EL nw Q kk nn (T.setTop (mkF m pc Ls (st))) := by
  subst hp
  exact K.step fun t k => XS.aconstNull X.at X.hx rfl (hb X.by hd) k

theorem g_iadd (X : St p l e R s m args below meth c own bytes maxL ret nm Z EL nw us T h cells slots) {x y : Int32} (hd : decode bytes pc = .ok (.iadd, 1)) (w : Int32) (hw : x + y = w) (pc' : Nat) (hp : pc + 1 = pc')
    (K : Goes p e below s Z EL nw Q kk nn (T.setTop (mkF m pc' Ls (.int w :: st)))) : Goes p e below s Z EL nw Q kk nn (T.setTop (mkF m pc Ls (.int y :: .int x :: st))) := by
  subst hp
  exact K.step fun t k => XS.iadd X.at X.hx rfl (hb X.by hd) rfl (by rw [hw]; exact k)

theorem g_isub (X : St p l e R s m args below meth c own bytes maxL ret nm Z EL nw us T h cells slots) {x y : Int32} (hd : decode bytes pc = .ok (.isub, 1)) (w : Int32) (hw : x - y = w) (pc' : Nat) (hp : pc + 1 = pc')
    (K : Goes p e below s Z EL nw Q kk nn (T.setTop (mkF m pc' Ls (.int w :: st)))) : Goes p e below s Z EL nw Q kk nn (T.setTop (mkF m pc Ls (.int y :: .int x :: st))) := by
  subst hp
  exact K.step fun t k => XS.isub X.at X.hx rfl (hb X.by hd) rfl (by rw [hw]; exact k)

theorem g_iand (X : St p l e R s m args below meth c own bytes maxL ret nm Z EL nw us T h cells slots) {x y : Int32} (hd : decode bytes pc = .ok (.iand, 1)) (w : Int32) (hw : x &&& y = w) (pc' : Nat) (hp : pc + 1 = pc')
    (K : Goes p e below s Z EL nw Q kk nn (T.setTop (mkF m pc' Ls (.int w :: st)))) : Goes p e below s Z EL nw Q kk nn (T.setTop (mkF m pc Ls (.int y :: .int x :: st))) := by
  subst hp
  exact K.step fun t k => XS.iand X.at X.hx rfl (hb X.by hd) rfl (by rw [hw]; exact k)

theorem g_imul (X : St p l e R s m args below meth c own bytes maxL ret nm Z EL nw us T h cells slots) {x y : Int32} (hd : decode bytes pc = .ok (.imul, 1)) (w : Int32) (hw : x * y = w) (pc' : Nat) (hp : pc + 1 = pc')
    (K : Goes p e below s Z EL nw Q kk nn (T.setTop (mkF m pc' Ls (.int w :: st)))) : Goes p e below s Z EL nw Q kk nn (T.setTop (mkF m pc Ls (.int y :: .int x :: st))) := by
  subst hp
  exact K.step fun t k => XS.imul X.at X.hx rfl (hb X.by hd) rfl (by rw [hw]; exact k)

theorem g_ixor (X : St p l e R s m args below meth c own bytes maxL ret nm Z EL nw us T h cells slots) {x y : Int32} (hd : decode bytes pc = .ok (.ixor, 1)) (w : Int32) (hw : x ^^^ y = w) (pc' : Nat) (hp : pc + 1 = pc')
    (K : Goes p e below s Z EL nw Q kk nn (T.setTop (mkF m pc' Ls (.int w :: st)))) : Goes p e below s Z EL nw Q kk nn (T.setTop (mkF m pc Ls (.int y :: .int x :: st))) := by
  subst hp
  exact K.step fun t k => XT.ixor X.at X.hx rfl (hb X.by hd) rfl (by rw [hw]; exact k)

theorem g_ior (X : St p l e R s m args below meth c own bytes maxL ret nm Z EL nw us T h cells slots) {x y : Int32} (hd : decode bytes pc = .ok (.ior, 1)) (w : Int32) (hw : x ||| y = w) (pc' : Nat) (hp : pc + 1 = pc')
    (K : Goes p e below s Z EL nw Q kk nn (T.setTop (mkF m pc' Ls (.int w :: st)))) : Goes p e below s Z EL nw Q kk nn (T.setTop (mkF m pc Ls (.int y :: .int x :: st))) := by
  subst hp
  exact K.step fun t k => XT.ior X.at X.hx rfl (hb X.by hd) rfl (by rw [hw]; exact k)

theorem g_irem (X : St p l e R s m args below meth c own bytes maxL ret nm Z EL nw us T h cells slots) {x y : Int32} (hd : decode bytes pc = .ok (.irem, 1)) (hy : y ≠ 0) (w : Int32) (hw : x % y = w) (pc' : Nat) (hp : pc + 1 = pc')
    (K : Goes p e below s Z EL nw Q kk nn (T.setTop (mkF m pc' Ls (.int w :: st)))) : Goes p e below s Z EL nw Q kk nn (T.setTop (mkF m pc Ls (.int y :: .int x :: st))) := by
  subst hp hw
  obtain ⟨vm0, locs, Y⟩ := X.std
  exact K.step fun t k => iremM Y X.hx rfl (hb X.by hd) rfl hy k

theorem g_idiv (X : St p l e R s m args below meth c own bytes maxL ret nm Z EL nw us T h cells slots) {x y : Int32} (hd : decode bytes pc = .ok (.idiv, 1)) (hy : y ≠ 0) (w : Int32) (hw : x / y = w) (pc' : Nat) (hp : pc + 1 = pc')
    (K : Goes p e below s Z EL nw Q kk nn (T.setTop (mkF m pc' Ls (.int w :: st)))) : Goes p e below s Z EL nw Q kk nn (T.setTop (mkF m pc Ls (.int y :: .int x :: st))) := by
  subst hp
  exact K.step fun t k => XS.idiv X.at X.hx rfl (hb X.by hd) rfl hy (by rw [hw]; exact k)

theorem g_ineg (X : St p l e R s m args below meth c own bytes maxL ret nm Z EL nw us T h cells slots) {x : Int32} (hd : decode bytes pc = .ok (.ineg, 1)) (w : Int32) (hw : -x = w) (pc' : Nat) (hp : pc + 1 = pc')
    (K : Goes p e below s Z EL nw Q kk nn (T.setTop (mkF m pc' Ls (.int w :: st)))) : Goes p e below s Z EL nw Q kk nn (T.setTop (mkF m pc Ls (.int x :: st))) := by
  subst hp
  exact K.step fun t k => XS.ineg X.at X.hx rfl (hb X.by hd) rfl (by rw [hw]; exact k)

theorem g_iushr (X : St p l e R s m args below meth c own bytes maxL ret nm Z EL nw us T h cells slots) {x y : Int32} (hd : decode bytes pc = .ok (.iushr, 1)) (w : Int32) (hw : XT.ushr x y = w) (pc' : Nat) (hp : pc + 1 = pc')
    (K : Goes p e below s Z EL nw Q kk nn (T.setTop (mkF m pc' Ls (.int w :: st)))) : Goes p e below s Z EL nw Q kk nn (T.setTop (mkF m pc Ls (.int y :: .int x :: st))) := by
  subst hp
  exact K.step fun t k => XT.iushr X.at X.hx rfl (hb X.by hd) rfl (by rw [hw]; exact k)

theorem g_ishr (X : St p l e R s m args below meth c own bytes maxL ret nm Z EL nw us T h cells slots) {x y : Int32} (hd : decode bytes pc = .ok (.ishr, 1)) (w : Int32) (hw : x >>> (y &&& 31) = w) (pc' : Nat) (hp : pc + 1 = pc')
    (K : Goes p e below s Z EL nw Q kk nn (T.setTop (mkF m pc' Ls (.int w :: st)))) : Goes p e below s Z EL nw Q kk nn (T.setTop (mkF m pc Ls (.int y :: .int x :: st))) := by
  subst hp
  exact K.step fun t k => XT.ishr X.at X.hx rfl (hb X.by hd) rfl (by rw [hw]; exact k)

theorem g_ishl (X : St p l e R s m args below meth c own bytes maxL ret nm Z EL nw us T h cells slots) {x y : Int32} (hd : decode bytes pc = .ok (.ishl, 1)) (w : Int32) (hw : x <<< (y &&& 31) = w) (pc' : Nat) (hp : pc + 1 = pc')
    (K : Goes p e below s Z EL nw Q kk nn (T.setTop (mkF m pc' Ls (.int w :: st)))) : Goes p e below s Z EL nw Q kk nn (T.setTop (mkF m pc Ls (.int y :: .int x :: st))) := by
  subst hp
  exact K.step fun t k => XT.ishl X.at X.hx rfl (hb X.by hd) rfl (by rw [hw]; exact k)

theorem g_i2c (X : St p l e R s m args below meth c own bytes maxL ret nm Z EL nw us T h cells slots) {x : Int32} (hd : decode bytes pc = .ok (.i2c, 1)) (w : Int32) (hw : x.toUInt32.toUInt16.toUInt32.toInt32 = w) (pc' : Nat) (hp : pc + 1 = pc')
    (K : Goes p e below s Z EL nw Q kk nn (T.setTop (mkF m pc' Ls (.int w :: st)))) : Goes p e below s Z EL nw Q kk nn (T.setTop (mkF m pc Ls (.int x :: st))) := by
  subst hp
  exact K.step fun t k => XT.i2c X.at X.hx rfl (hb X.by hd) rfl (by rw [hw]; exact k)

theorem g_i2b (X : St p l e R s m args below meth c own bytes maxL ret nm Z EL nw us T h cells slots) {x : Int32} (hd : decode bytes pc = .ok (.i2b, 1)) (w : Int32) (hw : x.toInt8.toInt32 = w) (pc' : Nat) (hp : pc + 1 = pc')
    (K : Goes p e below s Z EL nw Q kk nn (T.setTop (mkF m pc' Ls (.int w :: st)))) : Goes p e below s Z EL nw Q kk nn (T.setTop (mkF m pc Ls (.int x :: st))) := by
  subst hp
  exact K.step fun t k => XT.i2b X.at X.hx rfl (hb X.by hd) rfl (by rw [hw]; exact k)

theorem g_i2l (X : St p l e R s m args below meth c own bytes maxL ret nm Z EL nw us T h cells slots) {x : Int32} (hd : decode bytes pc = .ok (.i2l, 1)) (w : Int64) (hw : x.toInt64 = w) (pc' : Nat) (hp : pc + 1 = pc')
    (K : Goes p e below s Z EL nw Q kk nn (T.setTop (mkF m pc' Ls (.long w :: st)))) : Goes p e below s Z EL nw Q kk nn (T.setTop (mkF m pc Ls (.int x :: st))) := by
  subst hp
  exact K.step fun t k => XT.i2l X.at X.hx rfl (hb X.by hd) rfl (by rw [hw]; exact k)

theorem g_lsub (X : St p l e R s m args below meth c own bytes maxL ret nm Z EL nw us T h cells slots) {x y : Int64} (hd : decode bytes pc = .ok (.lsub, 1)) (w : Int64) (hw : x - y = w) (pc' : Nat) (hp : pc + 1 = pc')
    (K : Goes p e below s Z EL nw Q kk nn (T.setTop (mkF m pc' Ls (.long w :: st)))) : Goes p e below s Z EL nw Q kk nn (T.setTop (mkF m pc Ls (.long y :: .long x :: st))) := by
  subst hp
  exact K.step fun t k => XT.lsub X.at X.hx rfl (hb X.by hd) rfl (by rw [hw]; exact k)

theorem g_lcmp (X : St p l e R s m args below meth c own bytes maxL ret nm Z EL nw us T h cells slots) {x y : Int64} (hd : decode bytes pc = .ok (.lcmp, 1)) (w : Int32) (hw : XT.cmpL x y = w) (pc' : Nat) (hp : pc + 1 = pc')
    (K : Goes p e below s Z EL nw Q kk nn (T.setTop (mkF m pc' Ls (.int w :: st)))) : Goes p e below s Z EL nw Q kk nn (T.setTop (mkF m pc Ls (.long y :: .long x :: st))) := by
  subst hp
  exact K.step fun t k => XT.lcmp X.at X.hx rfl (hb X.by hd) rfl (by rw [hw]; exact k)

theorem g_dup (X : St p l e R s m args below meth c own bytes maxL ret nm Z EL nw us T h cells slots) {x : Value} (hd : decode bytes pc = .ok (.dup, 1)) (hc : x.category = 1) (pc' : Nat) (hp : pc + 1 = pc')
    (K : Goes p e below s Z EL nw Q kk nn (T.setTop (mkF m pc' Ls (x :: x :: st)))) : Goes p e below s Z EL nw Q kk nn (T.setTop (mkF m pc Ls (x :: st))) := by
  subst hp
  exact K.step fun t k => XS.dup X.at X.hx rfl (hb X.by hd) rfl hc k

theorem g_pop (X : St p l e R s m args below meth c own bytes maxL ret nm Z EL nw us T h cells slots) {x : Value} (hd : decode bytes pc = .ok (.pop, 1)) (hc : x.category = 1) (pc' : Nat) (hp : pc + 1 = pc')
    (K : Goes p e below s Z EL nw Q kk nn (T.setTop (mkF m pc' Ls (st)))) : Goes p e below s Z EL nw Q kk nn (T.setTop (mkF m pc Ls (x :: st))) := by
  subst hp
  exact K.step fun t k => XT.pop X.at X.hx rfl (hb X.by hd) rfl hc k

theorem g_iinc (X : St p l e R s m args below meth c own bytes maxL ret nm Z EL nw us T h cells slots) {k : Nat} {i : Int} {x : Int32} {Ls' : Array Slot} (hd : decode bytes pc = .ok (.iinc k i, 3)) (hl : Ls[k]? = some (.val (.int x))) (w : Int32) (hw : x + Int32.ofInt i = w) (hl' : storeLocals Ls k (.int w) = some Ls') (pc' : Nat) (hp : pc + 3 = pc')
    (K : Goes p e below s Z EL nw Q kk nn (T.setTop (mkF m pc' Ls' (st)))) : Goes p e below s Z EL nw Q kk nn (T.setTop (mkF m pc Ls (st))) := by
  subst hp
  exact K.step fun t k => XS.iinc X.at X.hx rfl (hb X.by hd) hl (by rw [hw]; exact hl') k

theorem g_ifNo (X : St p l e R s m args below meth c own bytes maxL ret nm Z EL nw us T h cells slots) {cd : ClassFile.Cond} {o : Int} {x : Int32} (hd : decode bytes pc = .ok (.ifCond cd o, 3)) (hc : if_icmp.holds cd x 0 = false) (pc' : Nat) (hp : pc + 3 = pc')
    (K : Goes p e below s Z EL nw Q kk nn (T.setTop (mkF m pc' Ls (st)))) : Goes p e below s Z EL nw Q kk nn (T.setTop (mkF m pc Ls (.int x :: st))) := by
  subst hp
  exact K.step fun t k => XS.ifNo X.at X.hx rfl (hb X.by hd) rfl ((if0 cd x).trans hc) k

theorem g_icmpNo (X : St p l e R s m args below meth c own bytes maxL ret nm Z EL nw us T h cells slots) {cd : ClassFile.Cond} {o : Int} {x y : Int32} (hd : decode bytes pc = .ok (.if_icmp cd o, 3)) (hc : if_icmp.holds cd x y = false) (pc' : Nat) (hp : pc + 3 = pc')
    (K : Goes p e below s Z EL nw Q kk nn (T.setTop (mkF m pc' Ls (st)))) : Goes p e below s Z EL nw Q kk nn (T.setTop (mkF m pc Ls (.int y :: .int x :: st))) := by
  subst hp
  exact K.step fun t k => XS.icmpNo X.at X.hx rfl (hb X.by hd) rfl hc k

theorem g_ifnullNo (X : St p l e R s m args below meth c own bytes maxL ret nm Z EL nw us T h cells slots) {o : Int} {b : Addr} (hd : decode bytes pc = .ok (.ifnull o, 3))  (pc' : Nat) (hp : pc + 3 = pc')
    (K : Goes p e below s Z EL nw Q kk nn (T.setTop (mkF m pc' Ls (st)))) : Goes p e below s Z EL nw Q kk nn (T.setTop (mkF m pc Ls (.ref b :: st))) := by
  subst hp
  exact K.step fun t k => XS.ifnullNo X.at X.hx rfl (hb X.by hd) rfl k

theorem g_ifnonnullNo (X : St p l e R s m args below meth c own bytes maxL ret nm Z EL nw us T h cells slots) {o : Int} (hd : decode bytes pc = .ok (.ifnonnull o, 3))  (pc' : Nat) (hp : pc + 3 = pc')
    (K : Goes p e below s Z EL nw Q kk nn (T.setTop (mkF m pc' Ls (st)))) : Goes p e below s Z EL nw Q kk nn (T.setTop (mkF m pc Ls (.null :: st))) := by
  subst hp
  exact K.step fun t k => XT.ifnonnullNo X.at X.hx rfl (hb X.by hd) rfl k

theorem g_acmpNo (X : St p l e R s m args below meth c own bytes maxL ret nm Z EL nw us T h cells slots) {cd : ClassFile.ACond} {o : Int} {x y : Value} (hd : decode bytes pc = .ok (.if_acmp cd o, 3)) (hx' : x.isRef = true) (hy' : y.isRef = true) (hc : XT.acmp cd x y = false) (pc' : Nat) (hp : pc + 3 = pc')
    (K : Goes p e below s Z EL nw Q kk nn (T.setTop (mkF m pc' Ls (st)))) : Goes p e below s Z EL nw Q kk nn (T.setTop (mkF m pc Ls (y :: x :: st))) := by
  subst hp
  exact K.step fun t k => XT.acmpNo X.at X.hx rfl (hb X.by hd) rfl hx' hy' hc k

theorem g_goto (X : St p l e R s m args below meth c own bytes maxL ret nm Z EL nw us T h cells slots)  {o : Int} (hd : decode bytes pc = .ok (.goto o, 3))  (pc' : Nat) (ho : 0 ≤ (pc : Int) + o) (hp : ((pc : Int) + o).toNat = pc')
    (K : Goes p e below s Z EL nw Q kk nn (T.setTop (mkF m pc' Ls (st)))) : Goes p e below s Z EL nw Q kk nn (T.setTop (mkF m pc Ls (st))) :=
  K.step fun t k => XS.goto X.at X.hx rfl (pc0 := pc) rfl (hb X.by hd) ho hp k

theorem g_ifYes (X : St p l e R s m args below meth c own bytes maxL ret nm Z EL nw us T h cells slots) {cd : ClassFile.Cond} {x : Int32} {o : Int} (hd : decode bytes pc = .ok (.ifCond cd o, 3)) (hc : if_icmp.holds cd x 0 = true) (pc' : Nat) (ho : 0 ≤ (pc : Int) + o) (hp : ((pc : Int) + o).toNat = pc')
    (K : Goes p e below s Z EL nw Q kk nn (T.setTop (mkF m pc' Ls (st)))) : Goes p e below s Z EL nw Q kk nn (T.setTop (mkF m pc Ls (.int x :: st))) :=
  K.step fun t k => XS.ifYes X.at X.hx rfl (pc0 := pc) rfl (hb X.by hd) rfl ((if0 cd x).trans hc) ho hp k

theorem g_icmpYes (X : St p l e R s m args below meth c own bytes maxL ret nm Z EL nw us T h cells slots) {cd : ClassFile.Cond} {x y : Int32} {o : Int} (hd : decode bytes pc = .ok (.if_icmp cd o, 3)) (hc : if_icmp.holds cd x y = true) (pc' : Nat) (ho : 0 ≤ (pc : Int) + o) (hp : ((pc : Int) + o).toNat = pc')
    (K : Goes p e below s Z EL nw Q kk nn (T.setTop (mkF m pc' Ls (st)))) : Goes p e below s Z EL nw Q kk nn (T.setTop (mkF m pc Ls (.int y :: .int x :: st))) :=
  K.step fun t k => XS.icmpYes X.at X.hx rfl (pc0 := pc) rfl (hb X.by hd) rfl hc ho hp k

theorem g_ifnullYes (X : St p l e R s m args below meth c own bytes maxL ret nm Z EL nw us T h cells slots)  {o : Int} (hd : decode bytes pc = .ok (.ifnull o, 3))  (pc' : Nat) (ho : 0 ≤ (pc : Int) + o) (hp : ((pc : Int) + o).toNat = pc')
    (K : Goes p e below s Z EL nw Q kk nn (T.setTop (mkF m pc' Ls (st)))) : Goes p e below s Z EL nw Q kk nn (T.setTop (mkF m pc Ls (.null :: st))) :=
  K.step fun t k => XS.ifnullYes X.at X.hx rfl (pc0 := pc) rfl (hb X.by hd) rfl ho hp k

theorem g_ifnonnullYes (X : St p l e R s m args below meth c own bytes maxL ret nm Z EL nw us T h cells slots) {b : Addr} {o : Int} (hd : decode bytes pc = .ok (.ifnonnull o, 3))  (pc' : Nat) (ho : 0 ≤ (pc : Int) + o) (hp : ((pc : Int) + o).toNat = pc')
    (K : Goes p e below s Z EL nw Q kk nn (T.setTop (mkF m pc' Ls (st)))) : Goes p e below s Z EL nw Q kk nn (T.setTop (mkF m pc Ls (.ref b :: st))) :=
  K.step fun t k => XT.ifnonnullYes X.at X.hx rfl (pc0 := pc) rfl (hb X.by hd) rfl ho hp k

theorem g_acmpYes (X : St p l e R s m args below meth c own bytes maxL ret nm Z EL nw us T h cells slots) {cd : ClassFile.ACond} {x y : Value} {o : Int} (hd : decode bytes pc = .ok (.if_acmp cd o, 3)) (hx' : x.isRef = true) (hy' : y.isRef = true) (hc : XT.acmp cd x y = true) (pc' : Nat) (ho : 0 ≤ (pc : Int) + o) (hp : ((pc : Int) + o).toNat = pc')
    (K : Goes p e below s Z EL nw Q kk nn (T.setTop (mkF m pc' Ls (st)))) : Goes p e below s Z EL nw Q kk nn (T.setTop (mkF m pc Ls (y :: x :: st))) :=
  K.step fun t k => XT.acmpYes X.at X.hx rfl (pc0 := pc) rfl (hb X.by hd) rfl hx' hy' hc ho hp k
end Ops
section Rets
variable {p : Program} {l : Launch} {e : Env} {R : Room} {s : State} {m : MethodId} {args : Array Value} {below : List Frame} {meth : Method} {c : Code}
  {own : String} {bytes : ByteArray} {maxL : Nat} {ret : Option FieldType} {nm : String} {Z : State} {EL : List (String × Nat)} {nw : Bool} {us : List Addr}
  {T : State} {h : Heap} {cells slots : Nat} {Q : Option Value → Heap → Prop} {kk nn : Nat} {a0 : Array Value} {pc : Nat} {Ls : Array Slot} {st : List Value}

theorem g_retN (X : St p l e R s m args below meth c own bytes maxL ret nm Z EL nw us T h cells slots) {z : Int32} {t : FieldType} {rest : List Value} (hret : ret = some t) (ht : t = .boolean ∨ t = .byte ∨ t = .char ∨ t = .short) (hd : decode bytes pc = .ok (.ireturn, 1)) (w : Int32) (hw : nar t z = w) (hc : cells ≤ kk) (hn : slots ≤ nn) (hQ : Q (some (.int w)) h) :
    Goes p e below s Z EL nw Q kk nn (T.setTop (mkF m pc Ls (.int z :: rest))) := by
  subst hw
  have h4 := X.1.2.2.2.1
  exact leave0 X (fun q => by rw [hret] at q; cases q) hc hn hQ fun fs g1 => by
    obtain ⟨vm0, locs, Y⟩ := X.std
    exact retN Y X.hx (h4.trans hret) ht (hb X.by hd) g1
theorem g_retI (X : St p l e R s m args below meth c own bytes maxL ret nm Z EL nw us T h cells slots) {z : Int32} {rest : List Value} (hret : ret = some .int) (hd : decode bytes pc = .ok (.ireturn, 1)) (hc : cells ≤ kk) (hn : slots ≤ nn) (hQ : Q (some (.int z)) h) :
    Goes p e below s Z EL nw Q kk nn (T.setTop (mkF m pc Ls (.int z :: rest))) := by
  have h4 := X.1.2.2.2.1
  exact leave0 X (fun q => by rw [hret] at q; cases q) hc hn hQ fun fs g1 => by
    obtain ⟨vm0, locs, Y⟩ := X.std
    exact retOut Y X.hx (h4.trans hret) rfl (Or.inl ⟨rfl, Or.inl rfl, z, rfl⟩) (hb X.by hd) g1
theorem g_retA (X : St p l e R s m args below meth c own bytes maxL ret nm Z EL nw us T h cells slots) {w : Value} {t : FieldType} {rest : List Value} (hret : ret = some t) (ht : t.isReference = true) (hw : w.isRef = true) (hd : decode bytes pc = .ok (.areturn, 1)) (hc : cells ≤ kk) (hn : slots ≤ nn) (hQ : Q (some w) h) :
    Goes p e below s Z EL nw Q kk nn (T.setTop (mkF m pc Ls (w :: rest))) := by
  have h4 := X.1.2.2.2.1
  have hnar : narrow t w = w := by
    rcases ref_cases hw with rfl | ⟨a, rfl⟩ <;> cases t <;> first | rfl | simp [FieldType.isReference] at ht
  exact leave0 X (fun q => by rw [hret] at q; cases q) hc hn hQ fun fs g1 => by
    obtain ⟨vm0, locs, Y⟩ := X.std
    exact retOut Y X.hx (h4.trans hret) hnar (Or.inr (Or.inr (Or.inr (Or.inr ⟨rfl, ht, hw⟩)))) (hb X.by hd) g1
theorem g_ret (X : St p l e R s m args below meth c own bytes maxL ret nm Z EL nw us T h cells slots) (hret : ret = none) (hd : decode bytes pc = .ok (.return_, 1)) (hc : cells ≤ kk) (hn : slots ≤ nn) (hQ : Q none h) :
    Goes p e below s Z EL nw Q kk nn (T.setTop (mkF m pc Ls [])) := by
  have h4 := X.1.2.2.2.1
  exact leave0 X (fun _ => rfl) hc hn hQ fun fs g1 => by
    obtain ⟨vm0, locs, Y⟩ := X.std
    exact Y.returnOut X.hx (h4.trans hret) (hb X.by hd) g1
end Rets
section HeapOps
variable {p : Program} {l : Launch} {e : Env} {R : Room} {s : State} {m : MethodId} {args : Array Value} {below : List Frame} {meth : Method} {c : Code}
  {own : String} {bytes : ByteArray} {maxL : Nat} {ret : Option FieldType} {nm : String} {Z : State} {EL : List (String × Nat)} {nw : Bool} {us : List Addr}
  {T : State} {h : Heap} {cells slots : Nat} {Q : Option Value → Heap → Prop} {kk nn : Nat} {a0 : Array Value} {pc : Nat} {Ls : Array Slot} {st : List Value}

theorem g_ldcI (X : St p l e R s m args below meth c own bytes maxL ret nm Z EL nw us T h cells slots) {ix : Nat} {v : Int32} (w : (Jvm.Cond.constant own ix v).before a0 Z = true) (hd : decode bytes pc = .ok (.ldc ix, 2)) (pc' : Nat) (hp : pc + 2 = pc')
    (K : Goes p e below s Z EL nw Q kk nn (T.setTop (mkF m pc' Ls (.int v :: st)))) : Goes p e below s Z EL nw Q kk nn (T.setTop (mkF m pc Ls st)) := by
  subst hp
  obtain ⟨cx, vm0, locs, Y, N, eT, hS, hZ, hown, r⟩ := X
  exact K.step fun t k => Y.ldcI cx.1 hown (mv (s := s.setVm vm0) hZ w) rfl (hb cx.2.1 hd) k
theorem g_getF (X : St p l e R s m args below meth c own bytes maxL ret nm Z EL nw us T h cells slots) {R0 O n d host : String} {ix : Nat} {a : Addr} {v : Value} (w : (Jvm.Cond.fieldLink own ix R0 n d).before a0 Z = true ∨ (Jvm.Cond.fieldLinkNest own ix R0 n d host).before a0 Z = true) (via : Via Z R0 O n d) (F : Fld Z h a O n d v)
    (hd : decode bytes pc = .ok (.getfield ix, 3)) (pc' : Nat) (hp : pc + 3 = pc')
    (K : ∀ T', St p l e R s m args below meth c own bytes maxL ret nm Z EL nw us T' h cells slots → Goes p e below s Z EL nw Q kk nn (T'.setTop (mkF m pc' Ls (v :: st)))) : Goes p e below s Z EL nw Q kk nn (T.setTop (mkF m pc Ls (.ref a :: st))) := by
  subst hp
  obtain ⟨cx, vm0, locs, Y, N, eT, hS, hZ, hown, r⟩ := X
  obtain ⟨T', Y', e', stp⟩ := getF Y cx.1 hZ hown w via eT F (g := mkF m pc Ls (.ref a :: st)) rfl rfl (hb cx.2.1 hd)
  exact (K T' ⟨cx, vm0, locs, Y', N, e', hS, hZ, hown, r⟩).step stp
theorem g_getS (X : St p l e R s m args below meth c own bytes maxL ret nm Z EL nw us T h cells slots) {R0 O n d host : String} {ix : Nat} {v : Value} (w : (Jvm.Cond.fieldLink own ix R0 n d).before a0 Z = true ∨ (Jvm.Cond.fieldLinkNest own ix R0 n d host).before a0 Z = true) (via : Via Z R0 O n d) (F : Sta Z h O n d v)
    (hd : decode bytes pc = .ok (.getstatic ix, 3)) (pc' : Nat) (hp : pc + 3 = pc')
    (K : ∀ T', St p l e R s m args below meth c own bytes maxL ret nm Z EL nw us T' h cells slots → Goes p e below s Z EL nw Q kk nn (T'.setTop (mkF m pc' Ls (v :: st)))) : Goes p e below s Z EL nw Q kk nn (T.setTop (mkF m pc Ls st)) := by
  subst hp
  obtain ⟨cx, vm0, locs, Y, N, eT, hS, hZ, hown, r⟩ := X
  obtain ⟨T', Y', e', stp⟩ := getS2 Y cx.1 hZ hown w via eT F (g := mkF m pc Ls st) rfl (hb cx.2.1 hd)
  exact (K T' ⟨cx, vm0, locs, Y', N, e', hS, hZ, hown, r⟩).step stp
theorem own_noassign {C S D : String} {n : Nat} (w : (Jvm.Cond.superclass C S).before a0 Z = true) (w0 : (Jvm.Cond.noSuperclass S).before a0 Z = true) (wi : (Jvm.Cond.instantiable D n).before a0 Z = true) (hn : C ≠ D) (hs : S ≠ D) : ∃ c t, Z.vm.findClass C = some c ∧ Z.vm.findClass D = some t ∧ Z.vm.assignable c t = false := by
  obtain ⟨t, k', g0, g2, g5, gr⟩ := Jvm.Cond.instantiable_spec wi
  obtain ⟨cs, ks, s1, s2, s3, -, -⟩ := Jvm.Cond.noSuperclass_spec w0
  obtain ⟨c, h0⟩ := found_sup w
  obtain ⟨p, k, kp, h1, h2, h3, h4, h5, -, h7⟩ := Jvm.Cond.superclass_spec h0 w
  cases s1.symm.trans h1
  have ne := ids_ne h0 g0 hn
  have ne2 := ids_ne s1 g0 hs
  have gi : k'.isInterface = false := (Bool.or_eq_false_iff.mp gr.1).1
  have n3 : ∀ fuel, Z.vm.isSubclassAux fuel c t = false := by
    intro fuel
    cases fuel with
    | zero => rfl
    | succ f =>
      cases f with
      | zero => simp [Vm.isSubclassAux, ne, h2, h4]
      | succ f => simp [Vm.isSubclassAux, ne, h2, h4, ne2, s2, s3]
  refine ⟨c, t, h0, g0, ?_⟩
  show Z.vm.assignableAux (255 + 1) c t = false
  simp [Vm.assignableAux, ne, h2, g2, h5, g5, Vm.isSubclass, n3, gi]
theorem g_instNull (X : St p l e R s m args below meth c own bytes maxL ret nm Z EL nw us T h cells slots) {ix : Nat} (hd : decode bytes pc = .ok (.instanceof ix, 3)) (pc' : Nat) (hp : pc + 3 = pc')
    (K : Goes p e below s Z EL nw Q kk nn (T.setTop (mkF m pc' Ls (.int 0 :: st)))) : Goes p e below s Z EL nw Q kk nn (T.setTop (mkF m pc Ls (.null :: st))) := by
  subst hp
  obtain ⟨vm0, locs, Y⟩ := X.std
  exact K.step fun t k => Y.instanceofNull X.hx (g := mkF m pc Ls (.null :: st)) rfl rfl (hb X.by hd) t k
theorem g_cast (X : St p l e R s m args below meth c own bytes maxL ret nm Z EL nw us T h cells slots) {C : String} {ix : Nat} {a : Addr} (w : (Jvm.Cond.classLink own ix C).before a0 Z = true) (F : Ins Z h a C true) (hd : decode bytes pc = .ok (.checkcast ix, 3)) (pc' : Nat) (hp : pc + 3 = pc')
    (K : ∀ T', St p l e R s m args below meth c own bytes maxL ret nm Z EL nw us T' h cells slots → Goes p e below s Z EL nw Q kk nn (T'.setTop (mkF m pc' Ls (.ref a :: st)))) : Goes p e below s Z EL nw Q kk nn (T.setTop (mkF m pc Ls (.ref a :: st))) := by
  subst hp
  obtain ⟨cx, vm0, locs, Y, N, eT, hS, hZ, hown, r⟩ := X
  obtain ⟨T', Y', e', stp⟩ := castY Y cx.1 hZ hown w eT F (g := mkF m pc Ls (.ref a :: st)) rfl rfl (hb cx.2.1 hd)
  exact (K T' ⟨cx, vm0, locs, Y', N, e', hS, hZ, hown, r⟩).step stp
theorem g_instY (X : St p l e R s m args below meth c own bytes maxL ret nm Z EL nw us T h cells slots) {C : String} {ix : Nat} {a : Addr} (w : (Jvm.Cond.classLink own ix C).before a0 Z = true) (F : Ins Z h a C true) (hd : decode bytes pc = .ok (.instanceof ix, 3)) (pc' : Nat) (hp : pc + 3 = pc')
    (K : ∀ T', St p l e R s m args below meth c own bytes maxL ret nm Z EL nw us T' h cells slots → Goes p e below s Z EL nw Q kk nn (T'.setTop (mkF m pc' Ls (.int 1 :: st)))) : Goes p e below s Z EL nw Q kk nn (T.setTop (mkF m pc Ls (.ref a :: st))) := by
  subst hp
  obtain ⟨cx, vm0, locs, Y, N, eT, hS, hZ, hown, r⟩ := X
  obtain ⟨T', Y', e', stp⟩ := instY Y cx.1 hZ hown w eT F (g := mkF m pc Ls (.ref a :: st)) rfl rfl (hb cx.2.1 hd)
  exact (K T' ⟨cx, vm0, locs, Y', N, e', hS, hZ, hown, r⟩).step stp
theorem g_instNo (X : St p l e R s m args below meth c own bytes maxL ret nm Z EL nw us T h cells slots) {C D : String} {ix : Nat} {a : Addr} (w : (Jvm.Cond.classLink own ix D).before a0 Z = true) (E : Exa Z h a C) (F : ∃ c t, Z.vm.findClass C = some c ∧ Z.vm.findClass D = some t ∧ Z.vm.assignable c t = false) (hd : decode bytes pc = .ok (.instanceof ix, 3)) (pc' : Nat) (hp : pc + 3 = pc')
    (K : ∀ T', St p l e R s m args below meth c own bytes maxL ret nm Z EL nw us T' h cells slots → Goes p e below s Z EL nw Q kk nn (T'.setTop (mkF m pc' Ls (.int 0 :: st)))) : Goes p e below s Z EL nw Q kk nn (T.setTop (mkF m pc Ls (.ref a :: st))) := by
  subst hp
  obtain ⟨cx, vm0, locs, Y, N, eT, hS, hZ, hown, r⟩ := X
  obtain ⟨T', Y', e', stp⟩ := instNo Y cx.1 hZ hown w eT E F (g := mkF m pc Ls (.ref a :: st)) rfl rfl (hb cx.2.1 hd)
  exact (K T' ⟨cx, vm0, locs, Y', N, e', hS, hZ, hown, r⟩).step stp
/-- 'new': the new object is under construction -/
theorem g_new (X : St p l e R s m args below meth c own bytes maxL ret nm Z EL nw us T h cells slots) {C : String} {ix k : Nat} (w : (Jvm.Cond.classLink own ix C).before a0 Z = true) (wi : (Jvm.Cond.instantiable C k).before a0 Z = true) (wz : (Jvm.Cond.initialized C).before a0 Z = true)
    (hd : decode bytes pc = .ok (.new ix, 3)) {ck cs : Nat} (hck : cells + 1 = ck) (hcs : slots + k = cs) (hc : ck ≤ R.cells) (hl : cs ≤ R.slots) (pc' : Nat) (hp : pc + 3 = pc')
    (K : ∀ a T' h', a = h.size → St p l e R s m args below meth c own bytes maxL ret nm Z EL nw (a :: us) T' h' ck cs → Ext h h' → Exa Z h' a C →
      (∀ {O n d : String} {ty : FieldType}, Laid Z a0 C O n d → parseFieldDescriptor d = some ty → Fld Z h' a O n d (defaultValue ty)) → Goes p e below s Z EL nw Q kk nn (T'.setTop (mkF m pc' Ls (.ref a :: st)))) : Goes p e below s Z EL nw Q kk nn (T.setTop (mkF m pc Ls st)) := by
  subst hp hck hcs
  obtain ⟨cx, vm0, locs, Y, N, eT, hS, hZ, hown, hE, hC, hU, hW⟩ := X
  obtain ⟨T', h', Y', e', E, A, D, -, stp⟩ := newO Y cx.1 hZ hown w wi wz eT (g := mkF m pc Ls st) rfl (hb cx.2.1 hd) hc hl
  refine (K h.size T' h' rfl ⟨cx, vm0, locs, Y', N, e', ⟨hS.1, hS.2.mono E.1⟩, hZ, hown, hE.trans E, hC.trans (CHr.ext E hC.1), ?_, hW⟩ E A (fun L q => D L q)).step stp
  intro x hx
  rcases List.mem_cons.mp hx with rfl | hx
  · exact ⟨hE.1, A.lt, Safe.ext E hC.1 (Safe.new (Nat.le_refl _))⟩
  · obtain ⟨q1, q2, q3⟩ := hU x hx
    exact ⟨q1, Nat.lt_of_lt_of_le q2 E.1, Safe.ext E hC.1 q3⟩
/-- an array of a primitive kind, new -/
theorem g_newP (X : St p l e R s m args below meth c own bytes maxL ret nm Z EL nw us T h cells slots) {aty : ArrayType} {z : Int32} (w : (Jvm.Cond.arrayClass (newarray.typeOf aty)).before a0 Z = true) (hd : decode bytes pc = .ok (.newarray aty, 2)) (hn : ¬ z < 0) (cap : Nat) (hcap : z.toNatClampNeg ≤ cap) (hb' : cap * 8 ≤ 536870912)
    {ck cs : Nat} (hck : cells + 1 = ck) (hcs : slots + cap = cs) (hc : ck ≤ R.cells) (hl : cs ≤ R.slots) (pc' : Nat) (hp : pc + 2 = pc')
    (K : ∀ a T' h' k, a = h.size → St p l e R s m args below meth c own bytes maxL ret nm Z EL nw (a :: us) T' h' ck cs → Ext h h' → Arv Z h' a k (newarray.typeOf aty) z [] (defaultValue (newarray.typeOf aty)) →
      Goes p e below s Z EL nw Q kk nn (T'.setTop (mkF m pc' Ls (.ref a :: st)))) : Goes p e below s Z EL nw Q kk nn (T.setTop (mkF m pc Ls (.int z :: st))) := by
  subst hp hck hcs
  obtain ⟨cx, vm0, locs, Y, N, eT, hS, hZ, hown, hE, hC, hU, hW⟩ := X
  obtain ⟨T', h', cA, Y', e', E, A, stp⟩ := newP Y cx.1 hZ w eT (g := mkF m pc Ls (.int z :: st)) rfl (hb cx.2.1 hd) rfl hn hcap hb' hc hl
  refine (K h.size T' h' cA rfl ⟨cx, vm0, locs, Y', N, e', ⟨hS.1, hS.2.mono E.1⟩, hZ, hown, hE.trans E, hC.trans (CHr.ext E hC.1), ?_, hW⟩ E (Arv.new A hn)).step stp
  intro x hx
  rcases List.mem_cons.mp hx with rfl | hx
  · exact ⟨hE.1, A.lt, Safe.ext E hC.1 (Safe.new (Nat.le_refl _))⟩
  · obtain ⟨q1, q2, q3⟩ := hU x hx
    exact ⟨q1, Nat.lt_of_lt_of_le q2 E.1, Safe.ext E hC.1 q3⟩
/-- a store's part that is common -/
theorem St.wrote {vm0 : Vm} {locs : List Loc} {T' : State} {h' : Heap} {a : Addr} {sl : Nat} {v : Value}
    (cx : p.tables.exec = Jvm.exec ∧ c.code = bytes ∧ c.maxLocals = maxL ∧ meth.sig.returnType = ret ∧ meth.name = nm ∧ meth.locks = false ∧ ∃ a0, EW Z a0 EL)
    (Y : Stand p l e R (s.setVm vm0) m args below meth c T' (locs ++ [⟨a, sl⟩]) cells slots) (N : Fr Z.heap.size locs) (eT : T'.heap = h') (hS : s.Since vm0 h.size) (hZ : Z.Warmed39 vm0) (hown : vm0.findClass own = some m.cls) (hE : Ext Z.heap h) (hC : CHr Z EL s.vm s.heap vm0 h)
    (hU : ∀ x ∈ us, Z.heap.size ≤ x ∧ x < h.size ∧ Safe Z EL vm0 h x) (hW : nw = true → s.WarmedH vm0) (W : Wr h h' a sl v) (ha : a ∈ us) : St p l e R s m args below meth c own bytes maxL ret nm Z EL nw us T' h' cells slots := by
  obtain ⟨q1, q2, q3⟩ := hU a ha
  refine ⟨cx, vm0, locs ++ [⟨a, sl⟩], Y, Fr.snoc Y N q1, eT, ⟨hS.1, hS.2.mono (Nat.le_of_eq W.size.symm)⟩, hZ, hown, ext_wr hE W q1, hC.trans (CHr.wr W q3 hC.1), fun x hx => ?_, hW⟩
  obtain ⟨r1, r2, r3⟩ := hU x hx
  exact ⟨r1, by rw [W.size]; exact r2, Safe.wr W q3 hC.1 r3⟩
theorem g_putF (X : St p l e R s m args below meth c own bytes maxL ret nm Z EL nw us T h cells slots) {R0 O n d host C : String} {ix k : Nat} {ty : FieldType} {a : Addr} {v old : Value} (w : (Jvm.Cond.fieldLink own ix R0 n d).before a0 Z = true ∨ (Jvm.Cond.fieldLinkNest own ix R0 n d host).before a0 Z = true) (via : Via Z R0 O n d) (F : Fld Z h a O n d old) (E : Exa Z h a C)
    (L : (Jvm.Cond.lays C O n d).before a0 Z = true ∨ ((Jvm.Cond.laysFinal C O n d).before a0 Z = true ∧ own = O ∧ nm = "<init>")) (wi : (Jvm.Cond.instantiable C k).before a0 Z = true) (hty : parseFieldDescriptor d = some ty) (hn : narrow ty v = v) (hf : fits ty v = true) (ha : a ∈ us)
    (hd : decode bytes pc = .ok (.putfield ix, 3)) (pc' : Nat) (hp : pc + 3 = pc')
    (K : ∀ T' h', St p l e R s m args below meth c own bytes maxL ret nm Z EL nw us T' h' cells slots → Wr h h' a (Jvm.RoadKit.slotOf Z O n d) v → Fld Z h' a O n d v → Exa Z h' a C → Goes p e below s Z EL nw Q kk nn (T'.setTop (mkF m pc' Ls st))) : Goes p e below s Z EL nw Q kk nn (T.setTop (mkF m pc Ls (v :: .ref a :: st))) := by
  subst hp
  obtain ⟨cx, vm0, locs, Y, N, eT, hS, hZ, hown, hE, hC, hU, hW⟩ := X
  have L' : (Jvm.Cond.lays C O n d).before a0 Z = true ∨ ((Jvm.Cond.laysFinal C O n d).before a0 Z = true ∧ own = O ∧ meth.name = "<init>") := by
    rcases L with L | ⟨L1, L2, L3⟩
    · exact Or.inl L
    · exact Or.inr ⟨L1, L2, by rw [cx.2.2.2.2.1]; exact L3⟩
  obtain ⟨T', h', Y', e', W, stp⟩ := putF Y cx.1 hZ hown w via eT F E L' wi hty hn hf (g := mkF m pc Ls (v :: .ref a :: st)) rfl rfl (hb cx.2.1 hd)
  exact (K T' h' (St.wrote cx Y' N e' hS hZ hown hE hC hU hW W ha) W (F.same W) (E.wr W)).step stp
theorem g_castore (X : St p l e R s m args below meth c own bytes maxL ret nm Z EL nw us T h cells slots) {a : Addr} {k : ClassId} {z j x : Int32} {vs : List Value} {dv : Value} (A : Arv Z h a k .char z vs dv) (i : Nat) (hj : j.toNatClampNeg = i) (hj0 : ¬ j < 0) (hz : j < z) (hi : i < vs.length) (w : Int32) (hw : nar .char x = w) (ha : a ∈ us)
    (hd : decode bytes pc = .ok (.castore, 1)) (pc' : Nat) (hp : pc + 1 = pc')
    (K : ∀ T' h', St p l e R s m args below meth c own bytes maxL ret nm Z EL nw us T' h' cells slots → Wr h h' a i (.int w) → Arv Z h' a k .char z (vs.set i (.int w)) dv → Goes p e below s Z EL nw Q kk nn (T'.setTop (mkF m pc' Ls st))) : Goes p e below s Z EL nw Q kk nn (T.setTop (mkF m pc Ls (.int x :: .int j :: .ref a :: st))) := by
  subst hp hj hw
  obtain ⟨cx, vm0, locs, Y, N, eT, hS, hZ, hown, hE, hC, hU, hW⟩ := X
  obtain ⟨cl, Ar, q1, Sz, q3, H, Gt⟩ := A
  obtain ⟨T', h', Y', e', W, stp⟩ := stC Y cx.1 hZ eT Ar (inb_of Sz ⟨hj0, hz⟩) (g := mkF m pc Ls (.int x :: .int j :: .ref a :: st)) rfl rfl (hb cx.2.1 hd)
  exact (K T' h' (St.wrote cx Y' N e' hS hZ hown hE hC hU hW W ha) W (Arv.set Ar q1 Sz q3 H Gt (fits_nar_char x) W _ rfl hi)).step stp
theorem g_bastore (X : St p l e R s m args below meth c own bytes maxL ret nm Z EL nw us T h cells slots) {a : Addr} {k : ClassId} {z j x : Int32} {vs : List Value} {dv : Value} (A : Arv Z h a k .byte z vs dv) (i : Nat) (hj : j.toNatClampNeg = i) (hj0 : ¬ j < 0) (hz : j < z) (hi : i < vs.length) (w : Int32) (hw : nar .byte x = w) (ha : a ∈ us)
    (hd : decode bytes pc = .ok (.bastore, 1)) (pc' : Nat) (hp : pc + 1 = pc')
    (K : ∀ T' h', St p l e R s m args below meth c own bytes maxL ret nm Z EL nw us T' h' cells slots → Wr h h' a i (.int w) → Arv Z h' a k .byte z (vs.set i (.int w)) dv → Goes p e below s Z EL nw Q kk nn (T'.setTop (mkF m pc' Ls st))) : Goes p e below s Z EL nw Q kk nn (T.setTop (mkF m pc Ls (.int x :: .int j :: .ref a :: st))) := by
  subst hp hj hw
  obtain ⟨cx, vm0, locs, Y, N, eT, hS, hZ, hown, hE, hC, hU, hW⟩ := X
  obtain ⟨cl, Ar, q1, Sz, q3, H, Gt⟩ := A
  obtain ⟨T', h', Y', e', W, stp⟩ := stB Y cx.1 hZ eT Ar (inb_of Sz ⟨hj0, hz⟩) (g := mkF m pc Ls (.int x :: .int j :: .ref a :: st)) rfl rfl (hb cx.2.1 hd)
  exact (K T' h' (St.wrote cx Y' N e' hS hZ hown hE hC hU hW W ha) W (Arv.set Ar q1 Sz q3 H Gt (fits_nar_byte x) W _ rfl hi)).step stp
theorem arrOf {vm0 : Vm} {cl : Cell} {ty : FieldType} (hZ : Z.Warmed39 vm0) (q : Z.isArrayOf cl ty) : (s.setVm vm0).isArrayOf cl ty := State.isArrayOf_alike (show Z.vm.Alike (s.setVm vm0).vm from hZ.alike) q
theorem g_arrlen (X : St p l e R s m args below meth c own bytes maxL ret nm Z EL nw us T h cells slots) {a : Addr} {k : ClassId} {ty : FieldType} {z : Int32} {vs : List Value} {dv : Value} (A : Arv Z h a k ty z vs dv) (hd : decode bytes pc = .ok (.arraylength, 1)) (pc' : Nat) (hp : pc + 1 = pc')
    (K : Goes p e below s Z EL nw Q kk nn (T.setTop (mkF m pc' Ls (.int z :: st)))) : Goes p e below s Z EL nw Q kk nn (T.setTop (mkF m pc Ls (.ref a :: st))) := by
  subst hp
  obtain ⟨cx, vm0, locs, Y, N, eT, hS, hZ, r⟩ := X
  obtain ⟨cl, Ar, q1, Sz, q3, H, Gt⟩ := A
  refine K.step fun t k => Y.arraylength cx.1 (cell := cl) (by rw [eT]; exact Ar.1) (arrOf hZ Ar.2.1) (g := mkF m pc Ls (.ref a :: st)) rfl rfl (hb cx.2.1 hd) t ?_
  rw [len_of Sz q3]; exact k
theorem g_caload (X : St p l e R s m args below meth c own bytes maxL ret nm Z EL nw us T h cells slots) {a : Addr} {k : ClassId} {z j : Int32} {vs : List Value} {dv : Value} (A : Arv Z h a k .char z vs dv) (hj0 : ¬ j < 0) (hz : j < z) (v : Value) (hv : vs.getD j.toNatClampNeg dv = v) (hd : decode bytes pc = .ok (.caload, 1)) (pc' : Nat) (hp : pc + 1 = pc')
    (K : Goes p e below s Z EL nw Q kk nn (T.setTop (mkF m pc' Ls (v :: st)))) : Goes p e below s Z EL nw Q kk nn (T.setTop (mkF m pc Ls (.int j :: .ref a :: st))) := by
  subst hp
  obtain ⟨cx, vm0, locs, Y, N, eT, hS, hZ, r⟩ := X
  obtain ⟨cl, Ar, q1, Sz, q3, H, Gt⟩ := A
  have hin := inb_of Sz ⟨hj0, hz⟩
  exact K.step fun t k => Y.caload cx.1 (cell := cl) (by rw [eT]; exact Ar.1) (arrOf hZ Ar.2.1) Ar.2.2 hin (H.at hin hv) (g := mkF m pc Ls (.int j :: .ref a :: st)) rfl rfl (hb cx.2.1 hd) t k
theorem g_baload (X : St p l e R s m args below meth c own bytes maxL ret nm Z EL nw us T h cells slots) {a : Addr} {k : ClassId} {z j : Int32} {vs : List Value} {dv : Value} (A : Arv Z h a k .byte z vs dv) (hj0 : ¬ j < 0) (hz : j < z) (v : Value) (hv : vs.getD j.toNatClampNeg dv = v) (hd : decode bytes pc = .ok (.baload, 1)) (pc' : Nat) (hp : pc + 1 = pc')
    (K : Goes p e below s Z EL nw Q kk nn (T.setTop (mkF m pc' Ls (v :: st)))) : Goes p e below s Z EL nw Q kk nn (T.setTop (mkF m pc Ls (.int j :: .ref a :: st))) := by
  subst hp
  obtain ⟨cx, vm0, locs, Y, N, eT, hS, hZ, r⟩ := X
  obtain ⟨cl, Ar, q1, Sz, q3, H, Gt⟩ := A
  have hin := inb_of Sz ⟨hj0, hz⟩
  exact K.step fun t k => Y.baloadBytes cx.1 (cell := cl) (by rw [eT]; exact Ar.1) (arrOf hZ Ar.2.1) Ar.2.2 hin (H.at hin hv) (g := mkF m pc Ls (.int j :: .ref a :: st)) rfl rfl (hb cx.2.1 hd) t k
theorem g_aaload (X : St p l e R s m args below meth c own bytes maxL ret nm Z EL nw us T h cells slots) {a : Addr} {k : ClassId} {ty : FieldType} {z j : Int32} {vs : List Value} {dv : Value} (A : Arv Z h a k ty z vs dv) (hty : ty.isReference = true) (hj0 : ¬ j < 0) (hz : j < z) (v : Value) (hv : vs.getD j.toNatClampNeg dv = v) (hd : decode bytes pc = .ok (.aaload, 1)) (pc' : Nat) (hp : pc + 1 = pc')
    (K : Goes p e below s Z EL nw Q kk nn (T.setTop (mkF m pc' Ls (v :: st)))) : Goes p e below s Z EL nw Q kk nn (T.setTop (mkF m pc Ls (.int j :: .ref a :: st))) := by
  subst hp
  obtain ⟨cx, vm0, locs, Y, N, eT, hS, hZ, r⟩ := X
  obtain ⟨cl, Ar, q1, Sz, q3, H, Gt⟩ := A
  have hin := inb_of Sz ⟨hj0, hz⟩
  exact K.step fun t k => Y.aaload cx.1 (cell := cl) (by rw [eT]; exact Ar.1) (arrOf hZ Ar.2.1) hty Ar.2.2 hin (H.at hin hv) (g := mkF m pc Ls (.int j :: .ref a :: st)) rfl rfl (hb cx.2.1 hd) t k
theorem g_aaloadA (X : St p l e R s m args below meth c own bytes maxL ret nm Z EL nw us T h cells slots) {a : Addr} {cl : Cell} {ty : FieldType} {j : Int32} (A : Arr Z h a cl ty) (hty : ty.isReference = true) (hin : ¬ (j < 0 ∨ cl.slots.size ≤ j.toNatClampNeg)) {v : Value} (hv : cl.slots[j.toNatClampNeg]? = some v) (hd : decode bytes pc = .ok (.aaload, 1)) (pc' : Nat) (hp : pc + 1 = pc')
    (K : Goes p e below s Z EL nw Q kk nn (T.setTop (mkF m pc' Ls (v :: st)))) : Goes p e below s Z EL nw Q kk nn (T.setTop (mkF m pc Ls (.int j :: .ref a :: st))) := by
  subst hp
  obtain ⟨cx, vm0, locs, Y, N, eT, hS, hZ, r⟩ := X
  exact K.step fun t k => Y.aaload cx.1 (cell := cl) (by rw [eT]; exact A.1) (arrOf hZ A.2.1) hty A.2.2 hin hv (g := mkF m pc Ls (.int j :: .ref a :: st)) rfl rfl (hb cx.2.1 hd) t k
/-- System.arraycopy between two arrays of one primitive kind -/
theorem g_arrcopy (X : St p l e R s m args below meth c own bytes maxL ret nm Z EL nw us T h cells slots) {ix : Nat} {a b : Addr} {k k' : ClassId} {ty : FieldType} {z z' sp dp nn0 : Int32} {vs vd : List Value} {dv dd : Value} (w1 : (Jvm.Cond.methodLink own ix Jvm.Stand.acN).before a0 Z = true) (w2 : (Jvm.Cond.native Jvm.Stand.acN).before a0 Z = true) (w3 : (Jvm.Cond.static Jvm.Stand.acN).before a0 Z = true) (w4 : (Jvm.Cond.initialized "java/lang/System").before a0 Z = true)
    (A : Arv Z h a k ty z vs dv) (B : Arv Z h b k' ty z' vd dd) (hty : refKind ty = false) (h1 : ¬ sp < 0) (h2 : ¬ dp < 0) (h3 : ¬ nn0 < 0) (h4 : sp.toNatClampNeg + nn0.toNatClampNeg ≤ z.toNatClampNeg) (h5 : dp.toNatClampNeg + nn0.toNatClampNeg ≤ z'.toNatClampNeg) (hl : dp.toNatClampNeg + nn0.toNatClampNeg ≤ vd.length)
    (vr : List Value) (hvr : vd.take dp.toNatClampNeg ++ ((List.range nn0.toNatClampNeg).map fun i => vs.getD (sp.toNatClampNeg + i) dv) ++ vd.drop (dp.toNatClampNeg + nn0.toNatClampNeg) = vr) (hb' : b ∈ us) (hsize : Ls.size = maxL) (hd : decode bytes pc = .ok (.invokestatic ix, 3))
    (hf : 1 ≤ R.frames) (W : Nat) (hW : (st.map fun v => v.category).sum ≤ W) (hlo : W + (nativeFrameWords "java/lang/System" "arraycopy" 5 + 11) ≤ R.locals) (pc' : Nat) (hp : pc + 3 = pc')
    (K : ∀ T' h', St p l e R s m args below meth c own bytes maxL ret nm Z EL nw us T' h' cells slots → Keep h h' [b] → Arv Z h' b k' ty z' vr dd → Goes p e below s Z EL nw Q kk nn (T'.setTop (mkF m pc' Ls st))) : Goes p e below s Z EL nw Q kk nn (T.setTop (mkF m pc Ls (.int nn0 :: .int dp :: .ref b :: .int sp :: .ref a :: st))) := by
  subst hp hvr
  obtain ⟨cx, vm0, locs, Y, N, eT, hS, hZ, hown, hE, hC, hU, hWn⟩ := X
  obtain ⟨u1, u2, u3⟩ := hU b hb'
  obtain ⟨T', h', L, Y', e', N', K', A', stp⟩ := cpA Y cx.1 hZ hown w1 w2 w3 w4 eT A B (Or.inl ⟨rfl, hty⟩) h1 h2 h3 h4 h5 rfl hl N u1 (g := mkF m pc Ls (.int nn0 :: .int dp :: .ref b :: .int sp :: .ref a :: st)) rfl (by rw [cx.2.2.1]; exact hsize) rfl (hb cx.2.1 hd) hf (W := W) (by show 2 * 0 + _ ≤ _; omega) hlo
  have hsf : ∀ x ∈ [b], Safe Z EL vm0 h x := fun x hx => by cases List.mem_singleton.mp hx; exact u3
  exact (K T' h' ⟨cx, vm0, L, Y', N', e', ⟨hS.1, hS.2.mono K'.1⟩, hZ, hown, ext_keep hE K' (fun x hx => by cases List.mem_singleton.mp hx; exact u1), hC.trans (CHr.keep K' hsf hC.1), fun x hx => ⟨(hU x hx).1, Nat.lt_of_lt_of_le (hU x hx).2.1 K'.1, Safe.keep K' hsf hC.1 (hU x hx).2.2⟩, hWn⟩ K' A').step stp
/-- Object's constructor -/
theorem g_initO (X : St p l e R s m args below meth c own bytes maxL ret nm Z EL nw us T h cells slots) {ix : Nat} {a : Addr} (w1 : (Jvm.Cond.methodLink own ix Lib.objectInit).before a0 Z = true) (w2 : (Jvm.Cond.instanceMethod Lib.objectInit).before a0 Z = true) (w3 : (Jvm.Cond.code Lib.objectInit ⟨#[0xb1]⟩ 1 none).before a0 Z = true) (hsize : Ls.size = maxL)
    (hd : decode bytes pc = .ok (.invokespecial ix, 3)) (hf : 1 ≤ R.frames) (W : Nat) (hW : (st.map fun v => v.category).sum ≤ W) (hl : W + 12 ≤ R.locals) (pc' : Nat) (hp : pc + 3 = pc')
    (K : ∀ T', St p l e R s m args below meth c own bytes maxL ret nm Z EL nw us T' h cells slots → Goes p e below s Z EL nw Q kk nn (T'.setTop (mkF m pc' Ls st))) : Goes p e below s Z EL nw Q kk nn (T.setTop (mkF m pc Ls (.ref a :: st))) := by
  subst hp
  obtain ⟨cx, vm0, locs, Y, N, eT, hS, hZ, hown, r⟩ := X
  obtain ⟨T', Y', e', stp⟩ := initO Y cx.1 hZ hown w1 w2 w3 eT (g := mkF m pc Ls (.ref a :: st)) rfl (by rw [cx.2.2.1]; exact hsize) rfl (hb cx.2.1 hd) hf (W := W) (by show 2 * 0 + _ ≤ _; omega) hl
  exact (K T' ⟨cx, vm0, locs, Y', N, e', hS, hZ, hown, r⟩).step stp
/-- an array's clone -/
theorem g_clone (X : St p l e R s m args below meth c own bytes maxL ret nm Z EL nw us T h cells slots) {ad : String} {ix : Nat} {a : Addr} {k : ClassId} {ty : FieldType} {z : Int32} {vs : List Value} {dv : Value}
    (w1 : (Jvm.Cond.methodLink own ix ⟨ad, "clone", "()Ljava/lang/Object;"⟩).before a0 Z = true) (w2 : (Jvm.Cond.sameMethod ad "java/lang/Object" "clone" "()Ljava/lang/Object;").before a0 Z = true) (w3 : (Jvm.Cond.native ⟨"java/lang/Object", "clone", "()Ljava/lang/Object;"⟩).before a0 Z = true)
    (w4 : (Jvm.Cond.instanceMethod ⟨"java/lang/Object", "clone", "()Ljava/lang/Object;"⟩).before a0 Z = true) (w5 : (Jvm.Cond.selects ad ⟨ad, "clone", "()Ljava/lang/Object;"⟩ ⟨"java/lang/Object", "clone", "()Ljava/lang/Object;"⟩).before a0 Z = true) (w6 : (Jvm.Cond.castable ad "java/lang/Cloneable").before a0 Z = true)
    (A : Arv Z h a k ty z vs dv) (E : Exa Z h a ad) (hsize : Ls.size = maxL) (hd : decode bytes pc = .ok (.invokevirtual ix, 3)) (hf : 1 ≤ R.frames) (W : Nat) (hW : (st.map fun v => v.category).sum ≤ W) (hl : W + 14 ≤ R.locals) (cap : Nat) (hcap : z.toNatClampNeg ≤ cap)
    {ck cs : Nat} (hck : cells + 1 = ck) (hcs : slots + cap = cs) (hc : ck ≤ R.cells) (hs : cs ≤ R.slots) (pc' : Nat) (hp : pc + 3 = pc')
    (K : ∀ a' T' h', a' = h.size → St p l e R s m args below meth c own bytes maxL ret nm Z EL nw (a' :: us) T' h' ck cs → Ext h h' → Arv Z h' a' k ty z vs dv → Exa Z h' a' ad → Goes p e below s Z EL nw Q kk nn (T'.setTop (mkF m pc' Ls (.ref a' :: st)))) : Goes p e below s Z EL nw Q kk nn (T.setTop (mkF m pc Ls (.ref a :: st))) := by
  subst hp hck hcs
  obtain ⟨cx, vm0, locs, Y, N, eT, hS, hZ, hown, hE, hC, hU, hWn⟩ := X
  obtain ⟨T', h', Y', e', Ex, A', E', stp⟩ := cloneH Y cx.1 hZ hown w1 w2 w3 w4 w5 w6 eT A.arh E (g := mkF m pc Ls (.ref a :: st)) rfl (by rw [cx.2.2.1]; exact hsize) rfl (hb cx.2.1 hd) hf (W := W) (by show 2 * 0 + _ ≤ _; omega) hl hcap hc hs
  obtain ⟨cl, q1, q2, q3, q4, q5, q6⟩ := A'
  refine (K h.size T' h' rfl ⟨cx, vm0, locs, Y', N, e', ⟨hS.1, hS.2.mono Ex.1⟩, hZ, hown, hE.trans Ex, hC.trans (CHr.ext Ex hC.1), ?_, hWn⟩ Ex ⟨cl, q1, q2, q3, q4, fun i hi => q5 i hi, fun i hi => q6 i hi⟩ E').step stp
  intro x hx
  rcases List.mem_cons.mp hx with rfl | hx
  · exact ⟨hE.1, E'.lt, Safe.ext Ex hC.1 (Safe.new (Nat.le_refl _))⟩
  · obtain ⟨q1, q2, q3⟩ := hU x hx
    exact ⟨q1, Nat.lt_of_lt_of_le q2 Ex.1, Safe.ext Ex hC.1 q3⟩
end HeapOps
section CallOps
variable {p : Program} {l : Launch} {e : Env} {R : Room} {s : State} {m : MethodId} {args : Array Value} {below : List Frame} {meth : Method} {c : Code}
  {own : String} {bytes : ByteArray} {maxL : Nat} {ret : Option FieldType} {nm : String} {Z : State} {EL : List (String × Nat)} {nw : Bool} {us : List Addr}
  {T : State} {h : Heap} {cells slots : Nat} {Q : Option Value → Heap → Prop} {kk nn : Nat} {a0 : Array Value} {pc : Nat} {Ls : Array Slot} {st : List Value}

/-- who pays a call: the callee's contract -/
theorem backC {y : MethodName} {cb : ByteArray} {cm : Nat} {cr : Option FieldType} {rm : Room} {len W : Nat} {as' : Array Value} {us' : List Addr} {Qc : Option Value → Heap → Prop} {vm0 : Vm}
    (hM : Ctr l Z EL nw y cb cm cr rm as' h us' Qc) (hZ : Z.Warmed39 vm0) (wc : (Jvm.Cond.code y cb cm cr).before a0 Z = true) (wz : (Jvm.Cond.initialized y.cls).before a0 Z = true) (hf : rm.frames + 1 ≤ R.frames) (hl : W + (cm + 11) + rm.locals ≤ R.locals)
    {a1 : Array Value} (hEL : EW Z a1 EL) (hE : Ext Z.heap h) (H : CHv Z EL vm0 h) (hU : ∀ x ∈ us', Z.heap.size ≤ x ∧ x < h.size ∧ Safe Z EL vm0 h x) :
    BackS l R p e below (s.setVm vm0) args y len W (fun A a => a = as' ∧ A.U.heap = h ∧ A.cells + rm.cells ≤ R.cells ∧ A.slots + rm.slots ≤ R.slots)
      (fun A _ v B => ∃ L, Qc v B.U.heap ∧ Fr Z.heap.size L ∧ Ext Z.heap B.U.heap ∧ B.locs = A.locs ++ L ∧ B.cells = A.cells + rm.cells ∧ B.slots = A.slots + rm.slots ∧ CHr Z EL vm0 h B.U.vm B.U.heap ∧ (nw = true → (s.setVm vm0).WarmedH B.U.vm)) :=
  BackS.of_freeW (bytes := cb) (maxL := cm) (ret := cr)
    (E := fun _ first o t L k n => k = rm.cells ∧ n = rm.slots ∧ (∃ v, o = .returned v ∧ Qc v t.heap) ∧ Fr Z.heap.size L ∧ Ext Z.heap t.heap ∧ CHr Z EL first.vm first.heap t.vm t.heap ∧ (nw = true → first.WarmedH t.vm)) (hM []) hf hl
    (fun m meth c A a Y hp => have hU : Z.Warmed39 A.U.vm := wtrans (s := s.setVm vm0) hZ Y.warmed
      ⟨by show (Jvm.Cond.and _ .tt).before a A.U = true; rw [Jvm.Cond.before_and, mv hU wc]; rfl, mv hU wc, mv hU wz, hp.2.2.1, hp.2.2.2⟩)
    (fun m meth c A a g mk Y hp => ⟨hp.1, wtrans (s := s.setVm vm0) hZ Y.warmed, hp.2.1, hE, (CHv.at Y hZ hEL H).1, fun x hx => ⟨(hU x hx).1, (hU x hx).2.1, (CHv.at Y hZ hEL H).safe (hU x hx).2.1 (hU x hx).2.2⟩⟩) (fun _ _ _ _ _ _ _ _ _ => trivial)
    (fun _ _ _ _ ⟨v, L, h1, h2, h3, h4, h5, h6, h7⟩ => ⟨L, _, _, h6, rfl, rfl, ⟨v, h1, h2⟩, h3, h4, h5, h7⟩)
    (fun m meth c A a g mk v t L k n Y hp _ _ ⟨e1, e2, ⟨v', e3, e4⟩, e5, e6, e7, e8⟩ => by
      cases e3; subst e1 e2
      refine ⟨L, e4, e5, e6, rfl, rfl, rfl, (CHv.at Y hZ hEL H).trans ?_, fun q => State.WarmedH.trans (t := A.U) Y.warmed (e8 q)⟩
      rw [← hp.2.1]; exact e7)
/-- behind a call -/
theorem St.back {vm0 : Vm} {locs : List Loc} {B : Pt} {L : List Loc} {ck cs : Nat}
    (cx : p.tables.exec = Jvm.exec ∧ c.code = bytes ∧ c.maxLocals = maxL ∧ meth.sig.returnType = ret ∧ meth.name = nm ∧ meth.locks = false ∧ ∃ a0, EW Z a0 EL)
    (N : Fr Z.heap.size locs) (hS : s.Since vm0 h.size) (hZ : Z.Warmed39 vm0) (hown : vm0.findClass own = some m.cls) (hC : CHr Z EL s.vm s.heap vm0 h)
    (hU : ∀ x ∈ us, Z.heap.size ≤ x ∧ x < h.size ∧ Safe Z EL vm0 h x) (hW : nw = true → s.WarmedH vm0)
    (Y : Stand p l e R ((s.setVm vm0).setVm B.U.vm) m args below meth c B.U B.locs B.cells B.slots) (h2 : (s.setVm vm0).Since B.U.vm B.U.heap.size) (hg : h.size ≤ B.U.heap.size)
    (N' : Fr Z.heap.size L) (hE : Ext Z.heap B.U.heap) (l1 : B.locs = locs ++ L) (l2 : B.cells = ck) (l3 : B.slots = cs) (hC' : CHr Z EL vm0 h B.U.vm B.U.heap) (hW' : nw = true → (s.setVm vm0).WarmedH B.U.vm) :
    St p l e R s m args below meth c own bytes maxL ret nm Z EL nw us B.U B.U.heap ck cs := by
  subst l2 l3
  rw [l1] at Y
  exact ⟨cx, B.U.vm, locs ++ L, Y, N.app N', rfl, hS.trans h2 hg, State.Warmed39.trans hZ h2.1, (h2.1.alike.findClass _ _).trans hown, hE, hC.trans hC', fun x hx => ⟨(hU x hx).1, Nat.lt_of_lt_of_le (hU x hx).2.1 hg, hC'.safe (hU x hx).2.1 (hU x hx).2.2⟩, fun q => State.WarmedH.trans (t := s.setVm vm0) (hW q) (hW' q)⟩
theorem g_callS (X : St p l e R s m args below meth c own bytes maxL ret nm Z EL nw us T h cells slots) {y : MethodName} {cb : ByteArray} {cm : Nat} {cr : Option FieldType} {rm : Room} {as' : Array Value} {us' : List Addr} {Qc : Option Value → Heap → Prop} {ix : Nat}
    (w1 : (Jvm.Cond.methodLink own ix y).before a0 Z = true) (w2 : (Jvm.Cond.static y).before a0 Z = true) (w3 : (Jvm.Cond.initialized y.cls).before a0 Z = true) (w4 : (Jvm.Cond.code y cb cm cr).before a0 Z = true)
    (hy : y.cls ≠ "java/lang/invoke/MethodHandle" ∧ y.cls ≠ "java/lang/invoke/VarHandle") (hM : Ctr l Z EL nw y cb cm cr rm as' h us' Qc) (hus : ∀ x ∈ us', x ∈ us)
    {argsL rest : List Value} {ps : List FieldType} {rt : Option FieldType} (hpd : parseMethodDescriptor y.desc = some ⟨ps, rt⟩) (hlen : argsL.length = ps.length) (has : argsL.toArray = as') (hst : st = argsL.reverse ++ rest) (hsize : Ls.size = maxL)
    (W : Nat) (hW : (rest.map fun v => v.category).sum ≤ W) (hf : rm.frames + 1 ≤ R.frames) (hl : W + (cm + 11) + rm.locals ≤ R.locals) {ck cs : Nat} (hck : cells + rm.cells = ck) (hcs : slots + rm.slots = cs) (hc : ck ≤ R.cells) (hs : cs ≤ R.slots)
    (hd : decode bytes pc = .ok (.invokestatic ix, 3)) (pc' : Nat) (hp : pc + 3 = pc')
    (K : ∀ v T' h', St p l e R s m args below meth c own bytes maxL ret nm Z EL nw us T' h' ck cs → Qc v h' → Goes p e below s Z EL nw Q kk nn (T'.setTop (mkF m pc' Ls (v.toList ++ rest)))) : Goes p e below s Z EL nw Q kk nn (T.setTop (mkF m pc Ls st)) := by
  subst hp hck hcs
  obtain ⟨cx, vm0, locs, Y, N, eT, hS, hZ, hown, hE, hC, hU, hWn⟩ := X
  obtain ⟨a1, hEL⟩ := cx.2.2.2.2.2.2
  have w4' := mvT (s := s.setVm vm0) (args := args) hZ w4
  obtain ⟨mk, hnamed⟩ := Jvm.Cond.code_named w4'
  obtain ⟨methM, cM, hmethM, -, -, -, -, -, -, hsigM⟩ := Jvm.Cond.code_spec hnamed w4'
  obtain ⟨v, vm₁, B, -, Y', h2, hg, ⟨L, q1, q2, q3, q4, q5, q6, q7, q8⟩, stp⟩ := Y.staticBackS cx.1 (own := own) (index := ix) (y := y) hown (mvT (s := s.setVm vm0) hZ w1) (mvT (s := s.setVm vm0) hZ w2) (mvT (s := s.setVm vm0) hZ w3) hnamed hmethM hsigM hy
    (backC (W := W) hM hZ w4 w3 hf hl hEL hE hC.1 fun x hx => hU x (hus x hx)) (g := mkF m pc Ls st) rfl (by rw [cx.2.2.1]; exact hsize) (Steps.refl _) (argsL := argsL) (rest := rest) (lenOf hpd hlen) hst (by show 2 * 0 + _ ≤ _; omega) (hb cx.2.1 hd)
    (fun _ _ => ⟨has, eT, hc, hs⟩)
  exact (K v B.U B.U.heap (St.back cx N hS hZ hown hC hU hWn Y' h2 (by rw [← eT]; exact hg) q2 q3 q4 q5 q6 q7 q8) q1).step fun t k => stp.trans k
theorem g_callI (X : St p l e R s m args below meth c own bytes maxL ret nm Z EL nw us T h cells slots) {y : MethodName} {cb : ByteArray} {cm : Nat} {rm : Room} {as' : Array Value} {us' : List Addr} {Qc : Option Value → Heap → Prop} {ix : Nat} (hy1 : y.name = "<init>")
    (w1 : (Jvm.Cond.methodLink own ix y).before a0 Z = true) (w2 : (Jvm.Cond.instanceMethod y).before a0 Z = true) (w3 : (Jvm.Cond.initialized y.cls).before a0 Z = true) (w4 : (Jvm.Cond.code y cb cm none).before a0 Z = true)
    (hy : y.cls ≠ "java/lang/invoke/MethodHandle" ∧ y.cls ≠ "java/lang/invoke/VarHandle") (hM : Ctr l Z EL nw y cb cm none rm as' h us' Qc) (hus : ∀ x ∈ us', x ∈ us)
    {a : Addr} {argsL rest : List Value} {ps : List FieldType} {rt : Option FieldType} (hpd : parseMethodDescriptor y.desc = some ⟨ps, rt⟩) (hlen : argsL.length = ps.length) (has : (.ref a :: argsL).toArray = as') (hst : st = argsL.reverse ++ .ref a :: rest) (hsize : Ls.size = maxL)
    (W : Nat) (hW : (rest.map fun v => v.category).sum ≤ W) (hf : rm.frames + 1 ≤ R.frames) (hl : W + (cm + 11) + rm.locals ≤ R.locals) {ck cs : Nat} (hck : cells + rm.cells = ck) (hcs : slots + rm.slots = cs) (hc : ck ≤ R.cells) (hs : cs ≤ R.slots)
    (hd : decode bytes pc = .ok (.invokespecial ix, 3)) (pc' : Nat) (hp : pc + 3 = pc')
    (K : ∀ v T' h', St p l e R s m args below meth c own bytes maxL ret nm Z EL nw us T' h' ck cs → Qc v h' → Goes p e below s Z EL nw Q kk nn (T'.setTop (mkF m pc' Ls (v.toList ++ rest)))) : Goes p e below s Z EL nw Q kk nn (T.setTop (mkF m pc Ls st)) := by
  subst hp hck hcs
  obtain ⟨cx, vm0, locs, Y, N, eT, hS, hZ, hown, hE, hC, hU, hWn⟩ := X
  obtain ⟨a1, hEL⟩ := cx.2.2.2.2.2.2
  obtain ⟨v, vm₁, B, -, Y', h2, hg, ⟨L, q1, q2, q3, q4, q5, q6, q7, q8⟩, stp⟩ := Y.specialBackS cx.1 (own := own) (index := ix) (y := y) hy1 hown (mvT (s := s.setVm vm0) hZ w1) (mvT (s := s.setVm vm0) hZ w2) (mvT (s := s.setVm vm0) hZ w4) hy
    (backC (W := W) hM hZ w4 w3 hf hl hEL hE hC.1 fun x hx => hU x (hus x hx)) (g := mkF m pc Ls st) rfl (by rw [cx.2.2.1]; exact hsize) (Steps.refl _) (a := a) (argsL := argsL) (rest := rest) (lenOf hpd hlen) hst (by show 2 * 0 + _ ≤ _; omega) (hb cx.2.1 hd)
    (fun _ _ => ⟨has, eT, hc, hs⟩)
  exact (K v B.U B.U.heap (St.back cx N hS hZ hown hC hU hWn Y' h2 (by rw [← eT]; exact hg) q2 q3 q4 q5 q6 q7 q8) q1).step fun t k => stp.trans k
theorem nfSel {C : String} {y : MethodName} (w : (Jvm.Cond.selects C y y).before a0 Z = true) : ∀ s' : State, Z.Warmed39 s'.vm → NotFace s' y := fun s' hZ => notFace_of_selects (args := #[]) (mvT (s := s') hZ w)
theorem g_callV (X : St p l e R s m args below meth c own bytes maxL ret nm Z EL nw us T h cells slots) {C : String} {y z : MethodName} {cb : ByteArray} {cm : Nat} {cr : Option FieldType} {rm : Room} {as' : Array Value} {us' : List Addr} {Qc : Option Value → Heap → Prop} {ix : Nat}
    (w1 : (Jvm.Cond.methodLink own ix y).before a0 Z = true) (w2 : (Jvm.Cond.declares y).before a0 Z = true) (w3 : (Jvm.Cond.selects C y z).before a0 Z = true) (w4 : (Jvm.Cond.instanceMethod z).before a0 Z = true) (w5 : (Jvm.Cond.initialized z.cls).before a0 Z = true) (w6 : (Jvm.Cond.code z cb cm cr).before a0 Z = true)
    (hnf : ∀ s' : State, Z.Warmed39 s'.vm → NotFace s' y) (hy : y.cls ≠ "java/lang/invoke/MethodHandle" ∧ y.cls ≠ "java/lang/invoke/VarHandle") {a : Addr} (Ex : Exa Z h a C) (hM : Ctr l Z EL nw z cb cm cr rm as' h us' Qc) (hus : ∀ x ∈ us', x ∈ us)
    {argsL rest : List Value} {ps : List FieldType} {rt : Option FieldType} (hpd : parseMethodDescriptor y.desc = some ⟨ps, rt⟩) (hlen : argsL.length = ps.length) (has : (.ref a :: argsL).toArray = as') (hst : st = argsL.reverse ++ .ref a :: rest) (hsize : Ls.size = maxL)
    (W : Nat) (hW : (rest.map fun v => v.category).sum ≤ W) (hf : rm.frames + 1 ≤ R.frames) (hl : W + (cm + 11) + rm.locals ≤ R.locals) {ck cs : Nat} (hck : cells + rm.cells = ck) (hcs : slots + rm.slots = cs) (hc : ck ≤ R.cells) (hs : cs ≤ R.slots)
    (hd : decode bytes pc = .ok (.invokevirtual ix, 3)) (pc' : Nat) (hp : pc + 3 = pc')
    (K : ∀ v T' h', St p l e R s m args below meth c own bytes maxL ret nm Z EL nw us T' h' ck cs → Qc v h' → Goes p e below s Z EL nw Q kk nn (T'.setTop (mkF m pc' Ls (v.toList ++ rest)))) : Goes p e below s Z EL nw Q kk nn (T.setTop (mkF m pc Ls st)) := by
  subst hp hck hcs
  obtain ⟨cx, vm0, locs, Y, N, eT, hS, hZ, hown, hE, hC, hU, hWn⟩ := X
  obtain ⟨a1, hEL⟩ := cx.2.2.2.2.2.2
  obtain ⟨cq, kq, qa, qb, qc⟩ := isOf (s := s.setVm vm0) hZ eT Ex
  obtain ⟨v, vm₁, B, -, Y', h2, hg, ⟨L, q1, q2, q3, q4, q5, q6, q7, q8⟩, stp⟩ := Y.virtualBackS cx.1 (own := own) (index := ix) (y := y) (z := z) hown (mvT (s := s.setVm vm0) hZ w1) (mvT (s := s.setVm vm0) hZ w2) (hnf (s.setVm vm0) hZ) (mvT (s := s.setVm vm0) hZ w3) (mvT (s := s.setVm vm0) hZ w4) hy
    (backC (W := W) hM hZ w6 w5 hf hl hEL hE hC.1 fun x hx => hU x (hus x hx)) qa qc (g := mkF m pc Ls st) rfl (by rw [cx.2.2.1]; exact hsize) (Steps.refl _) (argsL := argsL) (rest := rest) (lenOf hpd hlen) hst (by show 2 * 0 + _ ≤ _; omega) (hb cx.2.1 hd)
    (fun _ _ => ⟨has, eT, hc, hs⟩)
  exact (K v B.U B.U.heap (St.back cx N hS hZ hown hC hU hWn Y' h2 (by rw [← eT]; exact hg) q2 q3 q4 q5 q6 q7 q8) q1).step fun t k => stp.trans k
theorem g_callSp (X : St p l e R s m args below meth c own bytes maxL ret nm Z EL nw us T h cells slots) {y : MethodName} {cb : ByteArray} {cm : Nat} {cr : Option FieldType} {rm : Room} {as' : Array Value} {us' : List Addr} {Qv : Value → Prop} {ix : Nat}
    (w1 : (Jvm.Cond.methodLink own ix y).before a0 Z = true) (w2 : (Jvm.Cond.static y).before a0 Z = true) (w3 : (Jvm.Cond.initialized y.cls).before a0 Z = true) (w4 : (Jvm.Cond.code y cb cm cr).before a0 Z = true)
    (hy : y.cls ≠ "java/lang/invoke/MethodHandle" ∧ y.cls ≠ "java/lang/invoke/VarHandle") (hM : Ctr l Z EL nw y cb cm cr rm as' h us' (PureQ h Qv)) (hus : ∀ x ∈ us', x ∈ us)
    {argsL rest : List Value} {ps : List FieldType} {rt : Option FieldType} (hpd : parseMethodDescriptor y.desc = some ⟨ps, rt⟩) (hlen : argsL.length = ps.length) (has : argsL.toArray = as') (hst : st = argsL.reverse ++ rest) (hsize : Ls.size = maxL)
    (W : Nat) (hW : (rest.map fun v => v.category).sum ≤ W) (hf : rm.frames + 1 ≤ R.frames) (hl : W + (cm + 11) + rm.locals ≤ R.locals) {ck cs : Nat} (hck : cells + rm.cells = ck) (hcs : slots + rm.slots = cs) (hc : ck ≤ R.cells) (hs : cs ≤ R.slots)
    (hd : decode bytes pc = .ok (.invokestatic ix, 3)) (pc' : Nat) (hp : pc + 3 = pc')
    (K : ∀ w T', St p l e R s m args below meth c own bytes maxL ret nm Z EL nw us T' h ck cs → Qv w → Goes p e below s Z EL nw Q kk nn (T'.setTop (mkF m pc' Ls (w :: rest)))) : Goes p e below s Z EL nw Q kk nn (T.setTop (mkF m pc Ls st)) :=
  g_callS X w1 w2 w3 w4 hy hM hus hpd hlen has hst hsize W hW hf hl hck hcs hc hs hd pc' hp (by
    intro v T' h' X' hq
    obtain ⟨rfl, w, rfl, hw⟩ := hq
    exact K w T' X' hw)
theorem g_callSv (X : St p l e R s m args below meth c own bytes maxL ret nm Z EL nw us T h cells slots) {y : MethodName} {cb : ByteArray} {cm : Nat} {cr : Option FieldType} {rm : Room} {as' : Array Value} {us' : List Addr} {Qv : Value → Heap → Prop} {ix : Nat}
    (w1 : (Jvm.Cond.methodLink own ix y).before a0 Z = true) (w2 : (Jvm.Cond.static y).before a0 Z = true) (w3 : (Jvm.Cond.initialized y.cls).before a0 Z = true) (w4 : (Jvm.Cond.code y cb cm cr).before a0 Z = true)
    (hy : y.cls ≠ "java/lang/invoke/MethodHandle" ∧ y.cls ≠ "java/lang/invoke/VarHandle") (hM : Ctr l Z EL nw y cb cm cr rm as' h us' (ValQ Qv)) (hus : ∀ x ∈ us', x ∈ us)
    {argsL rest : List Value} {ps : List FieldType} {rt : Option FieldType} (hpd : parseMethodDescriptor y.desc = some ⟨ps, rt⟩) (hlen : argsL.length = ps.length) (has : argsL.toArray = as') (hst : st = argsL.reverse ++ rest) (hsize : Ls.size = maxL)
    (W : Nat) (hW : (rest.map fun v => v.category).sum ≤ W) (hf : rm.frames + 1 ≤ R.frames) (hl : W + (cm + 11) + rm.locals ≤ R.locals) {ck cs : Nat} (hck : cells + rm.cells = ck) (hcs : slots + rm.slots = cs) (hc : ck ≤ R.cells) (hs : cs ≤ R.slots)
    (hd : decode bytes pc = .ok (.invokestatic ix, 3)) (pc' : Nat) (hp : pc + 3 = pc')
    (K : ∀ w T' h', St p l e R s m args below meth c own bytes maxL ret nm Z EL nw us T' h' ck cs → Qv w h' → Goes p e below s Z EL nw Q kk nn (T'.setTop (mkF m pc' Ls (w :: rest)))) : Goes p e below s Z EL nw Q kk nn (T.setTop (mkF m pc Ls st)) :=
  g_callS X w1 w2 w3 w4 hy hM hus hpd hlen has hst hsize W hW hf hl hck hcs hc hs hd pc' hp (by
    intro v T' h' X' hq
    obtain ⟨w, rfl, hw⟩ := hq
    exact K w T' h' X' hw)
theorem g_callSn (X : St p l e R s m args below meth c own bytes maxL ret nm Z EL nw us T h cells slots) {y : MethodName} {cb : ByteArray} {cm : Nat} {cr : Option FieldType} {rm : Room} {as' : Array Value} {us' : List Addr} {Qn : Heap → Prop} {ix : Nat}
    (w1 : (Jvm.Cond.methodLink own ix y).before a0 Z = true) (w2 : (Jvm.Cond.static y).before a0 Z = true) (w3 : (Jvm.Cond.initialized y.cls).before a0 Z = true) (w4 : (Jvm.Cond.code y cb cm cr).before a0 Z = true)
    (hy : y.cls ≠ "java/lang/invoke/MethodHandle" ∧ y.cls ≠ "java/lang/invoke/VarHandle") (hM : Ctr l Z EL nw y cb cm cr rm as' h us' (VoidQ Qn)) (hus : ∀ x ∈ us', x ∈ us)
    {argsL rest : List Value} {ps : List FieldType} {rt : Option FieldType} (hpd : parseMethodDescriptor y.desc = some ⟨ps, rt⟩) (hlen : argsL.length = ps.length) (has : argsL.toArray = as') (hst : st = argsL.reverse ++ rest) (hsize : Ls.size = maxL)
    (W : Nat) (hW : (rest.map fun v => v.category).sum ≤ W) (hf : rm.frames + 1 ≤ R.frames) (hl : W + (cm + 11) + rm.locals ≤ R.locals) {ck cs : Nat} (hck : cells + rm.cells = ck) (hcs : slots + rm.slots = cs) (hc : ck ≤ R.cells) (hs : cs ≤ R.slots)
    (hd : decode bytes pc = .ok (.invokestatic ix, 3)) (pc' : Nat) (hp : pc + 3 = pc')
    (K : ∀ T' h', St p l e R s m args below meth c own bytes maxL ret nm Z EL nw us T' h' ck cs → Qn h' → Goes p e below s Z EL nw Q kk nn (T'.setTop (mkF m pc' Ls rest))) : Goes p e below s Z EL nw Q kk nn (T.setTop (mkF m pc Ls st)) :=
  g_callS X w1 w2 w3 w4 hy hM hus hpd hlen has hst hsize W hW hf hl hck hcs hc hs hd pc' hp (by
    intro v T' h' X' hq
    obtain ⟨rfl, hw⟩ := hq
    exact K T' h' X' hw)
theorem g_callIn (X : St p l e R s m args below meth c own bytes maxL ret nm Z EL nw us T h cells slots) {y : MethodName} {cb : ByteArray} {cm : Nat} {rm : Room} {as' : Array Value} {us' : List Addr} {Qn : Heap → Prop} {ix : Nat} (hy1 : y.name = "<init>")
    (w1 : (Jvm.Cond.methodLink own ix y).before a0 Z = true) (w2 : (Jvm.Cond.instanceMethod y).before a0 Z = true) (w3 : (Jvm.Cond.initialized y.cls).before a0 Z = true) (w4 : (Jvm.Cond.code y cb cm none).before a0 Z = true)
    (hy : y.cls ≠ "java/lang/invoke/MethodHandle" ∧ y.cls ≠ "java/lang/invoke/VarHandle") (hM : Ctr l Z EL nw y cb cm none rm as' h us' (VoidQ Qn)) (hus : ∀ x ∈ us', x ∈ us)
    {a : Addr} {argsL rest : List Value} {ps : List FieldType} {rt : Option FieldType} (hpd : parseMethodDescriptor y.desc = some ⟨ps, rt⟩) (hlen : argsL.length = ps.length) (has : (.ref a :: argsL).toArray = as') (hst : st = argsL.reverse ++ .ref a :: rest) (hsize : Ls.size = maxL)
    (W : Nat) (hW : (rest.map fun v => v.category).sum ≤ W) (hf : rm.frames + 1 ≤ R.frames) (hl : W + (cm + 11) + rm.locals ≤ R.locals) {ck cs : Nat} (hck : cells + rm.cells = ck) (hcs : slots + rm.slots = cs) (hc : ck ≤ R.cells) (hs : cs ≤ R.slots)
    (hd : decode bytes pc = .ok (.invokespecial ix, 3)) (pc' : Nat) (hp : pc + 3 = pc')
    (K : ∀ T' h', St p l e R s m args below meth c own bytes maxL ret nm Z EL nw us T' h' ck cs → Qn h' → Goes p e below s Z EL nw Q kk nn (T'.setTop (mkF m pc' Ls rest))) : Goes p e below s Z EL nw Q kk nn (T.setTop (mkF m pc Ls st)) :=
  g_callI X hy1 w1 w2 w3 w4 hy hM hus hpd hlen has hst hsize W hW hf hl hck hcs hc hs hd pc' hp (by
    intro v T' h' X' hq
    obtain ⟨rfl, hw⟩ := hq
    exact K T' h' X' hw)
theorem g_callVp (X : St p l e R s m args below meth c own bytes maxL ret nm Z EL nw us T h cells slots) {C : String} {y z : MethodName} {cb : ByteArray} {cm : Nat} {cr : Option FieldType} {rm : Room} {as' : Array Value} {us' : List Addr} {Qv : Value → Prop} {ix : Nat}
    (w1 : (Jvm.Cond.methodLink own ix y).before a0 Z = true) (w2 : (Jvm.Cond.declares y).before a0 Z = true) (w3 : (Jvm.Cond.selects C y z).before a0 Z = true) (w4 : (Jvm.Cond.instanceMethod z).before a0 Z = true) (w5 : (Jvm.Cond.initialized z.cls).before a0 Z = true) (w6 : (Jvm.Cond.code z cb cm cr).before a0 Z = true)
    (hnf : ∀ s' : State, Z.Warmed39 s'.vm → NotFace s' y) (hy : y.cls ≠ "java/lang/invoke/MethodHandle" ∧ y.cls ≠ "java/lang/invoke/VarHandle") {a : Addr} (Ex : Exa Z h a C) (hM : Ctr l Z EL nw z cb cm cr rm as' h us' (PureQ h Qv)) (hus : ∀ x ∈ us', x ∈ us)
    {argsL rest : List Value} {ps : List FieldType} {rt : Option FieldType} (hpd : parseMethodDescriptor y.desc = some ⟨ps, rt⟩) (hlen : argsL.length = ps.length) (has : (.ref a :: argsL).toArray = as') (hst : st = argsL.reverse ++ .ref a :: rest) (hsize : Ls.size = maxL)
    (W : Nat) (hW : (rest.map fun v => v.category).sum ≤ W) (hf : rm.frames + 1 ≤ R.frames) (hl : W + (cm + 11) + rm.locals ≤ R.locals) {ck cs : Nat} (hck : cells + rm.cells = ck) (hcs : slots + rm.slots = cs) (hc : ck ≤ R.cells) (hs : cs ≤ R.slots)
    (hd : decode bytes pc = .ok (.invokevirtual ix, 3)) (pc' : Nat) (hp : pc + 3 = pc')
    (K : ∀ w T', St p l e R s m args below meth c own bytes maxL ret nm Z EL nw us T' h ck cs → Qv w → Goes p e below s Z EL nw Q kk nn (T'.setTop (mkF m pc' Ls (w :: rest)))) : Goes p e below s Z EL nw Q kk nn (T.setTop (mkF m pc Ls st)) :=
  g_callV X w1 w2 w3 w4 w5 w6 hnf hy Ex hM hus hpd hlen has hst hsize W hW hf hl hck hcs hc hs hd pc' hp (by
    intro v T' h' X' hq
    obtain ⟨rfl, w, rfl, hw⟩ := hq
    exact K w T' X' hw)
theorem g_callVv (X : St p l e R s m args below meth c own bytes maxL ret nm Z EL nw us T h cells slots) {C : String} {y z : MethodName} {cb : ByteArray} {cm : Nat} {cr : Option FieldType} {rm : Room} {as' : Array Value} {us' : List Addr} {Qv : Value → Heap → Prop} {ix : Nat}
    (w1 : (Jvm.Cond.methodLink own ix y).before a0 Z = true) (w2 : (Jvm.Cond.declares y).before a0 Z = true) (w3 : (Jvm.Cond.selects C y z).before a0 Z = true) (w4 : (Jvm.Cond.instanceMethod z).before a0 Z = true) (w5 : (Jvm.Cond.initialized z.cls).before a0 Z = true) (w6 : (Jvm.Cond.code z cb cm cr).before a0 Z = true)
    (hnf : ∀ s' : State, Z.Warmed39 s'.vm → NotFace s' y) (hy : y.cls ≠ "java/lang/invoke/MethodHandle" ∧ y.cls ≠ "java/lang/invoke/VarHandle") {a : Addr} (Ex : Exa Z h a C) (hM : Ctr l Z EL nw z cb cm cr rm as' h us' (ValQ Qv)) (hus : ∀ x ∈ us', x ∈ us)
    {argsL rest : List Value} {ps : List FieldType} {rt : Option FieldType} (hpd : parseMethodDescriptor y.desc = some ⟨ps, rt⟩) (hlen : argsL.length = ps.length) (has : (.ref a :: argsL).toArray = as') (hst : st = argsL.reverse ++ .ref a :: rest) (hsize : Ls.size = maxL)
    (W : Nat) (hW : (rest.map fun v => v.category).sum ≤ W) (hf : rm.frames + 1 ≤ R.frames) (hl : W + (cm + 11) + rm.locals ≤ R.locals) {ck cs : Nat} (hck : cells + rm.cells = ck) (hcs : slots + rm.slots = cs) (hc : ck ≤ R.cells) (hs : cs ≤ R.slots)
    (hd : decode bytes pc = .ok (.invokevirtual ix, 3)) (pc' : Nat) (hp : pc + 3 = pc')
    (K : ∀ w T' h', St p l e R s m args below meth c own bytes maxL ret nm Z EL nw us T' h' ck cs → Qv w h' → Goes p e below s Z EL nw Q kk nn (T'.setTop (mkF m pc' Ls (w :: rest)))) : Goes p e below s Z EL nw Q kk nn (T.setTop (mkF m pc Ls st)) :=
  g_callV X w1 w2 w3 w4 w5 w6 hnf hy Ex hM hus hpd hlen has hst hsize W hW hf hl hck hcs hc hs hd pc' hp (by
    intro v T' h' X' hq
    obtain ⟨w, rfl, hw⟩ := hq
    exact K w T' h' X' hw)
theorem g_callVn (X : St p l e R s m args below meth c own bytes maxL ret nm Z EL nw us T h cells slots) {C : String} {y z : MethodName} {cb : ByteArray} {cm : Nat} {cr : Option FieldType} {rm : Room} {as' : Array Value} {us' : List Addr} {Qn : Heap → Prop} {ix : Nat}
    (w1 : (Jvm.Cond.methodLink own ix y).before a0 Z = true) (w2 : (Jvm.Cond.declares y).before a0 Z = true) (w3 : (Jvm.Cond.selects C y z).before a0 Z = true) (w4 : (Jvm.Cond.instanceMethod z).before a0 Z = true) (w5 : (Jvm.Cond.initialized z.cls).before a0 Z = true) (w6 : (Jvm.Cond.code z cb cm cr).before a0 Z = true)
    (hnf : ∀ s' : State, Z.Warmed39 s'.vm → NotFace s' y) (hy : y.cls ≠ "java/lang/invoke/MethodHandle" ∧ y.cls ≠ "java/lang/invoke/VarHandle") {a : Addr} (Ex : Exa Z h a C) (hM : Ctr l Z EL nw z cb cm cr rm as' h us' (VoidQ Qn)) (hus : ∀ x ∈ us', x ∈ us)
    {argsL rest : List Value} {ps : List FieldType} {rt : Option FieldType} (hpd : parseMethodDescriptor y.desc = some ⟨ps, rt⟩) (hlen : argsL.length = ps.length) (has : (.ref a :: argsL).toArray = as') (hst : st = argsL.reverse ++ .ref a :: rest) (hsize : Ls.size = maxL)
    (W : Nat) (hW : (rest.map fun v => v.category).sum ≤ W) (hf : rm.frames + 1 ≤ R.frames) (hl : W + (cm + 11) + rm.locals ≤ R.locals) {ck cs : Nat} (hck : cells + rm.cells = ck) (hcs : slots + rm.slots = cs) (hc : ck ≤ R.cells) (hs : cs ≤ R.slots)
    (hd : decode bytes pc = .ok (.invokevirtual ix, 3)) (pc' : Nat) (hp : pc + 3 = pc')
    (K : ∀ T' h', St p l e R s m args below meth c own bytes maxL ret nm Z EL nw us T' h' ck cs → Qn h' → Goes p e below s Z EL nw Q kk nn (T'.setTop (mkF m pc' Ls rest))) : Goes p e below s Z EL nw Q kk nn (T.setTop (mkF m pc Ls st)) :=
  g_callV X w1 w2 w3 w4 w5 w6 hnf hy Ex hM hus hpd hlen has hst hsize W hW hf hl hck hcs hc hs hd pc' hp (by
    intro v T' h' X' hq
    obtain ⟨rfl, hw⟩ := hq
    exact K T' h' X' hw)
end CallOps
end Jvm.OwnKit
namespace Jvm.OwnKit
open Sem ClassFile Op Lib Jvm.Stand Jvm.Free Jvm.LawKit Jvm.RoadKit
section StartFacts
variable {args : Array Value} {s : State} {t X F : Term} {a y : Addr}
theorem own_eqr (hF : F.eval args s none [] s = some (.ref y)) (h : (Jvm.Cond.eq X F).value args s none s [] = some true) : X.eval args s none [] s = some (.ref y) := by
  obtain ⟨x, y', e1, e2, k1, k2⟩ := cmp_v (Or.inl h)
  cases hF.symm.trans e2
  have hx : x.isRef = true := by cases x <;> simp_all [Jvm.Cond.value, Value.isRef]
  have q := gotT (eq_R e1 hF hx rfl) h
  rw [e1, q]
theorem own_fldI {C n d : String} {v : Int32} (ht : t.eval args s none [] s = some (.ref a)) (h : (Jvm.Cond.eq (.field t C n d) (.int v)).value args s none s [] = some true) : Fld s s.heap a C n d (.int v) := by
  have e := eqv_i (Term.int_eval v) h
  rw [fld_at ht] at e
  exact Fld.start e
theorem own_fld0 {C n d : String} (ht : t.eval args s none [] s = some (.ref a)) (h : (Jvm.Cond.eq (.field t C n d) .null).value args s none s [] = some true) : Fld s s.heap a C n d .null := by
  have e := null_v h
  rw [fld_at ht] at e
  exact Fld.start e
theorem own_fldR {C n d : String} {F : Term} (ht : t.eval args s none [] s = some (.ref a)) (hF : F.eval args s none [] s = some (.ref y)) (h : (Jvm.Cond.eq (.field t C n d) F).value args s none s [] = some true) : Fld s s.heap a C n d (.ref y) := by
  have e := own_eqr hF h
  rw [fld_at ht] at e
  exact Fld.start e
theorem own_len {cl : Cell} {ty : FieldType} {z : Int32} (A : Arr s s.heap a cl ty) (ht : t.eval args s none [] s = some (.ref a)) (h : (Jvm.Cond.eq (.length t) (.int z)).value args s none s [] = some true) : cl.slots.size < 2 ^ 31 ∧ cl.slots.size.toInt32 = z := by
  have e := eqv_i (Term.int_eval z) h
  have ha := Arr.fin (U := s) (Vm.Alike.refl _) A
  have e2 : (Term.length t).eval args s none [] s = if cl.slots.size < 2 ^ 31 then some (.int cl.slots.size.toInt32) else none := by simp [Term.eval, ht, ha]
  rw [e2] at e
  by_cases q : cl.slots.size < 2 ^ 31
  · rw [if_pos q] at e
    exact ⟨q, Value.int.inj (Option.some.inj e)⟩
  · rw [if_neg q] at e; cases e
theorem own_elem {cl : Cell} {ty : FieldType} {j : Int32} {F : Term} (A : Arr s s.heap a cl ty) (ht : t.eval args s none [] s = some (.ref a)) (hF : F.eval args s none [] s = some (.ref y)) (h : (Jvm.Cond.eq (.elem t (.int j)) F).value args s none s [] = some true) : cl.slots[j.toNatClampNeg]? = some (.ref y) :=
  (elem_in (own_eqr hF h) ht (Term.int_eval j) A.1).2
end StartFacts
end Jvm.OwnKit
namespace Jvm.OwnKit
open Sem ClassFile Op Lib Jvm.Stand Jvm.Free Jvm.LawKit Jvm.RoadKit
/-- a String of the signs cs (each 0 to 255), apart from what is under construction -/
def Str (Z : State) (h : Heap) (us : List Addr) (a : Addr) (cs : List Int32) : Prop :=
  ∃ (t : Addr) (kb : ClassId), Exa Z h a "java/lang/String" ∧ Fld Z h a "java/lang/String" "coder" "B" (.int 0) ∧ Fld Z h a "java/lang/String" "value" "[B" (.ref t) ∧
    Arv Z h t kb .byte (Int32.ofNat cs.length) ((cs.map fun c => c.toInt8.toInt32).map Value.int) (.int 0) ∧ (∀ c ∈ cs, ¬ c < 0 ∧ ¬ (255 : Int32) < c) ∧ cs.length ≤ 4000 ∧ ∀ x ∈ us, x ≠ a ∧ x ≠ t
section StrFacts
variable {Z : State} {h h' : Heap} {us us' ws : List Addr} {a b : Addr} {cs : List Int32} {sl : Nat} {v : Value}
theorem Str.ext (F : Str Z h us a cs) (E : Ext h h') : Str Z h' us a cs := by
  obtain ⟨t, kb, h1, h2, h3, h4, h5, h6, h7⟩ := F
  exact ⟨t, kb, h1.ext E, h2.ext E, h3.ext E, h4.ext E, h5, h6, h7⟩
theorem Str.keep (F : Str Z h us a cs) (K : Keep h h' ws) (q : ∀ x ∈ ws, x ∈ us) : Str Z h' us a cs := by
  obtain ⟨t, kb, h1, h2, h3, h4, h5, h6, h7⟩ := F
  have na : a ∉ ws := fun r => (h7 a (q a r)).1 rfl
  have nt : t ∉ ws := fun r => (h7 t (q t r)).2 rfl
  exact ⟨t, kb, h1.keep K, h2.keep K na, h3.keep K na, h4.keep K nt, h5, h6, h7⟩
theorem Str.wr (F : Str Z h us a cs) (W : Wr h h' b sl v) (q : b ∈ us) : Str Z h' us a cs := F.keep (Keep.of_wr W) (fun x hx => by cases List.mem_singleton.mp hx; exact q)
theorem Str.sub (F : Str Z h us a cs) (q : ∀ x ∈ us', x ∈ us) : Str Z h us' a cs := by
  obtain ⟨t, kb, h1, h2, h3, h4, h5, h6, h7⟩ := F
  exact ⟨t, kb, h1, h2, h3, h4, h5, h6, fun x hx => h7 x (q x hx)⟩
theorem Str.grow (F : Str Z h us a cs) (E : Ext h h') (q : b = h.size) : Str Z h' (b :: us) a cs := by
  obtain ⟨t, kb, h1, h2, h3, h4, h5, h6, h7⟩ := F
  refine ⟨t, kb, h1.ext E, h2.ext E, h3.ext E, h4.ext E, h5, h6, fun x hx => ?_⟩
  rcases List.mem_cons.mp hx with rfl | hx
  · subst q; exact ⟨Nat.ne_of_gt h1.lt, Nat.ne_of_gt h4.lt⟩
  · exact h7 x hx
theorem Str.exa (F : Str Z h us a cs) : Exa Z h a "java/lang/String" := by obtain ⟨t, kb, h1, -⟩ := F; exact h1
theorem Str.lt (F : Str Z h us a cs) : a < h.size := F.exa.lt
theorem Str.ne (F : Str Z h us a cs) {x : Addr} (q : x ∈ us) : x ≠ a := by obtain ⟨t, kb, h1, h2, h3, h4, h5, h6, h7⟩ := F; exact (h7 x q).1
theorem str_of {h0 : Heap} (q : ∃ (t : Addr) (kb : ClassId), Exa Z h' a "java/lang/String" ∧ Fld Z h' a "java/lang/String" "coder" "B" (.int 0) ∧ Fld Z h' a "java/lang/String" "value" "[B" (.ref t) ∧ Arv Z h' t kb .byte (Int32.ofNat cs.length) ((cs.map fun c => c.toInt8.toInt32).map Value.int) (.int 0) ∧ (∀ c ∈ cs, ¬ c < 0 ∧ ¬ (255 : Int32) < c) ∧ cs.length ≤ 4000 ∧ h.size ≤ t)
    (hx : ∀ x ∈ us, x < h0.size) (h1 : h0.size ≤ a) (h2 : h0.size ≤ h.size) : Str Z h' us a cs := by
  obtain ⟨t, kb, e1, e2, e3, e4, e5, e6, e7⟩ := q
  exact ⟨t, kb, e1, e2, e3, e4, e5, e6, fun x q => ⟨Nat.ne_of_lt (Nat.lt_of_lt_of_le (hx x q) h1), Nat.ne_of_lt (Nat.lt_of_lt_of_le (hx x q) (Nat.le_trans h2 e7))⟩⟩
theorem and255 (x : Int32) : ¬ (x &&& 255) < 0 ∧ ¬ (255 : Int32) < (x &&& 255) := by
  have h := c_and x 255 (by decide)
  rw [Int32.lt_iff_toInt_lt, Int32.lt_iff_toInt_lt]
  have h2 : (255 : Int32).toInt = 255 := by decide
  have h3 : (0 : Int32).toInt = 0 := by decide
  omega
theorem nar255 {c : Int32} (h : ¬ c < 0 ∧ ¬ (255 : Int32) < c) : nar .char c = c := by
  obtain ⟨h1, h2⟩ := h
  have q := c_i2c c
  rw [Int32.lt_iff_toInt_lt] at h1 h2
  have e2 : (255 : Int32).toInt = 255 := by decide
  have e3 : (0 : Int32).toInt = 0 := by decide
  have : c.toUInt32.toUInt16.toUInt32.toInt32.toInt = c.toInt := by omega
  exact Int32.toInt_inj.mp this
/-- made since the heap h0: apart from whatever stood there -/
def StrN (Z : State) (h0 h : Heap) (a : Addr) (cs : List Int32) : Prop :=
  ∃ (t : Addr) (kb : ClassId), Exa Z h a "java/lang/String" ∧ Fld Z h a "java/lang/String" "coder" "B" (.int 0) ∧ Fld Z h a "java/lang/String" "value" "[B" (.ref t) ∧
    Arv Z h t kb .byte (Int32.ofNat cs.length) ((cs.map fun c => c.toInt8.toInt32).map Value.int) (.int 0) ∧ (∀ c ∈ cs, ¬ c < 0 ∧ ¬ (255 : Int32) < c) ∧ cs.length ≤ 4000 ∧ h0.size ≤ a ∧ h0.size ≤ t
theorem StrN.str {h0 : Heap} (F : StrN Z h0 h a cs) (q : ∀ x ∈ us, x < h0.size) : Str Z h us a cs := by
  obtain ⟨t, kb, h1, h2, h3, h4, h5, h6, h7, h8⟩ := F
  exact ⟨t, kb, h1, h2, h3, h4, h5, h6, fun x hx => ⟨Nat.ne_of_lt (Nat.lt_of_lt_of_le (q x hx) h7), Nat.ne_of_lt (Nat.lt_of_lt_of_le (q x hx) h8)⟩⟩
end StrFacts
section StrOps
variable {p : Program} {l : Launch} {e : Env} {R : Room} {s : State} {m : MethodId} {args : Array Value} {below : List Frame} {meth : Method} {c : Code}
  {own : String} {bytes : ByteArray} {maxL : Nat} {ret : Option FieldType} {nm : String} {Z : State} {EL : List (String × Nat)} {nw : Bool} {us : List Addr}
  {T : State} {h : Heap} {cells slots : Nat} {Q : Option Value → Heap → Prop} {kk nn : Nat} {a0 : Array Value} {pc : Nat} {Ls : Array Slot} {st : List Value}

theorem St.news (X : St p l e R s m args below meth c own bytes maxL ret nm Z EL nw us T h cells slots) : ∀ x ∈ us, x < h.size := fun x hx => (X.new hx).2
theorem lt_ofNat {n : Nat} (q : n ≤ 4000) : ¬ (Int32.ofNat n) < 0 ∧ (Int32.ofNat n).toNatClampNeg = n := by
  have h1 : (Int32.ofNat n).toInt = n := by rw [Int32.toInt_ofNat_of_lt]; omega
  exact ⟨by rw [Int32.lt_iff_toInt_lt, h1]; simp, by simp [Int32.toNatClampNeg, h1]⟩
/-- ldc of a String constant -/
theorem g_ldcS (X : St p l e R s m args below meth c own bytes maxL ret nm Z EL nw us T h cells slots) {ix : Nat} {text : String} {cs : List Int32} (hnw : nw = false) (w : (Jvm.Cond.stringLink own ix text).before a0 Z = true) (wS : ∀ a ∈ Bundle.stringAtoms, a.before a0 Z = true) (hmem : (own, ix) ∈ EL)
    (ht : (∀ c ∈ text.toList, c.toNat < 256) ∧ text.toList.map (fun c => Value.int (Jvm.Lit.byteI c.toNat.toUInt16)) = (cs.map fun c => c.toInt8.toInt32).map Value.int) (hcs : ∀ c ∈ cs, ¬ c < 0 ∧ ¬ (255 : Int32) < c) (hlen : cs.length ≤ 4000)
    (hd : decode bytes pc = .ok (.ldc ix, 2)) (n : Nat) (hn : 4 * text.toList.length ≤ n) (hbig : n ≤ 536870912) {ck cs' : Nat} (hck : cells + 2 = ck) (hcs' : slots + (n + 4) = cs') (hc : ck ≤ R.cells) (hl : cs' ≤ R.slots) (pc' : Nat) (hp : pc + 2 = pc')
    (K : ∀ a T' h', St p l e R s m args below meth c own bytes maxL ret nm Z EL nw us T' h' ck cs' → Ext h h' → Str Z h' us a cs → Goes p e below s Z EL nw Q kk nn (T'.setTop (mkF m pc' Ls (.ref a :: st)))) : Goes p e below s Z EL nw Q kk nn (T.setTop (mkF m pc Ls st)) := by
  subst hp hck hcs'
  obtain ⟨cx, vm0, locs, Y, N, eT, hS, hZ, hown, hE, hC, hU, hW⟩ := X
  obtain ⟨a1, hEL⟩ := cx.2.2.2.2.2.2
  have hl32 : ¬ (Int32.ofNat cs.length) < 0 ∧ (Int32.ofNat cs.length).toNatClampNeg = ((cs.map fun c => c.toInt8.toInt32).map Value.int).length := by
    have := lt_ofNat hlen; simpa using this
  obtain ⟨a, T', h', k1, b, k, Y', e', E, hS2, hk1, hZ', hown', q1, q2, q3, q4, q5, q6, hC', -, hsafe, stp⟩ := ldcCH Y cx.1 hZ hown w wS eT hS (Nat.le_refl _) hEL hmem hC.1 ht hl32.1 hl32.2 (g := mkF m pc Ls st) rfl (hb cx.2.1 hd) hn hbig hc hl
  have hU' : ∀ x ∈ us, Z.heap.size ≤ x ∧ x < h'.size ∧ Safe Z EL T'.vm h' x := fun x hx => ⟨(hU x hx).1, Nat.lt_of_lt_of_le (hU x hx).2.1 E.1, hC'.safe (hU x hx).2.1 (hU x hx).2.2⟩
  exact (K a T' h' ⟨cx, T'.vm, locs, Y', N, e', ⟨hS2.1, hS2.2.mono hk1⟩, hZ', hown', hE.trans E, hC.trans hC', hU', fun q => by rw [hnw] at q; cases q⟩ E ⟨b, k, q1, q2, q3, q4, hcs, hlen, fun x hx => hsafe x (hU' x hx).2.2⟩).step stp
end StrOps
end Jvm.OwnKit
namespace Jvm.OwnKit
open Sem ClassFile Op Lib Jvm.Stand Jvm.Free Jvm.LawKit Jvm.RoadKit
section Bytes
abbrev lo (c : Int32) : Int32 := c.toInt8.toInt32
abbrev bys (cs : List Int32) : List Value := (cs.map fun c => c.toInt8.toInt32).map Value.int
theorem i0 : (0 : Int32).toInt = 0 := by decide
theorem i255 : (255 : Int32).toInt = 255 := by decide
theorem lo_mask {c : Int32} (h : ¬ c < 0 ∧ ¬ (255 : Int32) < c) : lo c &&& 255 = c := by
  obtain ⟨h1, h2⟩ := h
  rw [Int32.lt_iff_toInt_lt, i0] at h1
  rw [Int32.lt_iff_toInt_lt, i255] at h2
  have q := c_i2b c
  have r := c_mask (lo c) 255 8 (by decide) (by decide)
  apply Int32.toInt_inj.mp
  rw [r]
  have e : ((2 ^ 8 : Nat) : Int) = 256 := by decide
  rw [e]; simp only [lo]; omega
theorem lo_inj {c d : Int32} (h : ¬ c < 0 ∧ ¬ (255 : Int32) < c) (h' : ¬ d < 0 ∧ ¬ (255 : Int32) < d) (e : lo c = lo d) : c = d := by rw [← lo_mask h, ← lo_mask h', e]
theorem of_toInt {n : Nat} (h : n ≤ 4000) : (Int32.ofNat n).toInt = n := by rw [Int32.toInt_ofNat_of_lt]; omega
theorem of_nat {n : Nat} (h : n ≤ 4000) : (Int32.ofNat n).toNatClampNeg = n := by simp [Int32.toNatClampNeg, of_toInt h]
theorem of_nn {n : Nat} (h : n ≤ 4000) : ¬ Int32.ofNat n < 0 := by rw [Int32.lt_iff_toInt_lt, of_toInt h, i0]; omega
theorem of_lt {i n : Nat} (h : i < n) (hn : n ≤ 4000) : Int32.ofNat i < Int32.ofNat n := by rw [Int32.lt_iff_toInt_lt, of_toInt hn, of_toInt (by omega)]; omega
theorem of_le {i n : Nat} (h : n ≤ i) (hn : i ≤ 4000) : ¬ Int32.ofNat i < Int32.ofNat n := by rw [Int32.lt_iff_toInt_lt, of_toInt hn, of_toInt (by omega)]; omega
theorem of_succ (i : Nat) : Int32.ofNat i + 1 = Int32.ofNat (i + 1) := by simp [Int32.ofNat_add]
theorem of_eq {i n : Nat} (hi : i ≤ 4000) (hn : n ≤ 4000) (e : Int32.ofNat i = Int32.ofNat n) : i = n := by
  have := congrArg Int32.toInt e; rw [of_toInt hi, of_toInt hn] at this; omega
theorem bys_at (cs : List Int32) (i : Nat) (h : i ≤ 4000) : (bys cs).getD (Int32.ofNat i).toNatClampNeg (.int 0) = .int (lo (cs.getD i 0)) := by
  rw [of_nat h]
  by_cases q : i < cs.length
  · simp [List.getD, q]
  · have e : cs.getD i 0 = 0 := by simp [List.getD, q]
    rw [e]
    simp [List.getD, q]
    decide
theorem shr0 (x : Int32) : x >>> ((0 : Int32) &&& 31) = x := by
  apply Int32.toInt_inj.mp
  rw [c_ishr x 0 0 (by decide)]
  simp
theorem take_eq {cs ds : List Int32} (hl : cs.length = ds.length) (h : cs.take cs.length = ds.take cs.length) : cs = ds := by
  rw [List.take_length] at h; rw [hl, List.take_length] at h; exact h
theorem take_more {cs ds : List Int32} {i : Nat} (hi : i < cs.length) (hj : i < ds.length) (h : cs.take i = ds.take i) (e : cs.getD i 0 = ds.getD i 0) : cs.take (i + 1) = ds.take (i + 1) := by
  simp only [List.getD, List.getElem?_eq_getElem hi, List.getElem?_eq_getElem hj, Option.getD_some] at e
  rw [List.take_succ_eq_append_getElem hi, List.take_succ_eq_append_getElem hj, h, e]
theorem mem_at {cs : List Int32} {i : Nat} (hi : i < cs.length) : cs.getD i 0 ∈ cs := by
  simp [List.getD, List.getElem?_eq_getElem hi]
theorem str_inj {Z : State} {h : Heap} {us us' : List Addr} {a b : Addr} {cs ds : List Int32} (F : Str Z h us a cs) (G : Str Z h us' b ds) (q : a = b) : cs = ds := by
  subst q
  obtain ⟨t, kb, -, -, f3, f4, f5, f6, -⟩ := F
  obtain ⟨u, kb', -, -, g3, g4, g5, g6, -⟩ := G
  have e : t = u := Classical.byContradiction fun n => (Fld.ne f3 g3 (fun r => n (Value.ref.inj r))) rfl
  subst e
  have hl : cs.length = ds.length := Classical.byContradiction fun n => (arv_ne f4 g4 (Or.inl (by rw [of_nat f6, of_nat g6]; exact n))) rfl
  refine List.ext_getElem hl fun i hi hj => ?_
  have e2 : (bys cs).getD i (.int 0) = (bys ds).getD i (.int 0) := Classical.byContradiction fun n => (arv_ne f4 g4 (Or.inr ⟨i, by rw [of_nat f6]; exact hi, n⟩)) rfl
  simp [List.getD, hi, hj] at e2
  exact lo_inj (f5 _ (List.getElem_mem hi)) (g5 _ (List.getElem_mem hj)) e2
end Bytes
end Jvm.OwnKit
namespace Jvm.OwnKit
open Sem ClassFile Op Lib Jvm.Stand Jvm.Free Jvm.LawKit Jvm.RoadKit
def fI (c : Int32) : Int32 := if ¬ c < 97 ∧ ¬ 122 < c then c - 32 else if ¬ c < 224 ∧ ¬ 254 < c ∧ ¬ c = 247 then c - 32 else c
def ciB (x y : Int32) : Bool := decide (x = y) || (!decide (x &&& 223 < 65) && ((!decide (90 < x &&& 223)) || (!decide (x &&& 223 < 192) && !decide (222 < x &&& 223) && !decide (x &&& 223 = 215))) && decide (x &&& 223 = y &&& 223))
def uB (m : Int32) : Bool := !decide (m < 65) && ((!decide (90 < m)) || (!decide (m < 192) && !decide (222 < m) && !decide (m = 215)))
theorem fin256 {c : Int32} (h : ¬ c < 0 ∧ ¬ (255 : Int32) < c) : ∃ k : Fin 256, c = Int32.ofNat k.val := by
  obtain ⟨h1, h2⟩ := h
  rw [Int32.lt_iff_toInt_lt, i0] at h1
  rw [Int32.lt_iff_toInt_lt, i255] at h2
  refine ⟨⟨c.toInt.toNat, by omega⟩, Int32.toInt_inj.mp ?_⟩
  rw [Int32.toInt_ofNat_of_lt (by show c.toInt.toNat < _; omega)]
  show c.toInt = (c.toInt.toNat : Int)
  omega
theorem fI_tab : ∀ k : Fin 256, fI (Int32.ofNat k.val) = (if uB (lo (Int32.ofNat k.val) &&& 223) then lo (Int32.ofNat k.val) &&& 223 else Int32.ofNat k.val) ∧ (lo (lo (Int32.ofNat k.val) &&& 223) &&& 223) = lo (Int32.ofNat k.val) &&& 223 := by decide +kernel
theorem lo_inj' : ∀ k : Fin 256, lo (Int32.ofNat k.val) &&& 255 = Int32.ofNat k.val := by decide +kernel
theorem ci_key {c d : Int32} (hc : ¬ c < 0 ∧ ¬ (255 : Int32) < c) (hd : ¬ d < 0 ∧ ¬ (255 : Int32) < d) : ciB (lo c) (lo d) = decide (fI c = fI d) := by
  obtain ⟨k, rfl⟩ := fin256 hc
  obtain ⟨j, rfl⟩ := fin256 hd
  have f1 := fI_tab k
  have f2 := fI_tab j
  have g1 := lo_inj' k
  have g2 := lo_inj' j
  generalize Int32.ofNat k.val = c at *
  generalize Int32.ofNat j.val = d at *
  have e0 : ciB (lo c) (lo d) = (decide (c = d) || (uB (lo c &&& 223) && decide (lo c &&& 223 = lo d &&& 223))) := by
    unfold ciB uB
    have : decide (lo c = lo d) = decide (c = d) := by
      rw [decide_eq_decide]; exact ⟨fun q => by rw [← g1, ← g2, q], fun q => by rw [q]⟩
    rw [this]
  rw [e0, f1.1, f2.1]
  by_cases u : uB (lo c &&& 223) = true <;> by_cases v : uB (lo d &&& 223) = true
  · simp [u, v]
    intro q; rw [q]
  · rw [Bool.eq_iff_iff]
    simp [u, v]
    constructor
    · rintro (q | q)
      · rw [q] at u; exact absurd u v
      · rw [← q] at v; exact absurd u v
    · intro q
      exfalso; apply v; rw [← q, f1.2]; exact u
  · rw [Bool.eq_iff_iff]
    simp [u, v]
    constructor
    · intro q; rw [q] at u; exact absurd v u
    · intro q
      exfalso; apply u; rw [q, f2.2]; exact v
  · simp [u, v]
def ciL (cs ds : List Int32) : Bool := (List.range cs.length).all fun j => ciB (lo (cs.getD j 0)) (lo (ds.getD j 0))
def eqI (cs ds : List Int32) : Bool := decide (cs.length = ds.length) && ciL cs ds
theorem ciB_refl (x : Int32) : ciB x x = true := by simp [ciB]
theorem eqI_refl (cs : List Int32) : eqI cs cs = true := by simp [eqI, ciL, ciB_refl]
theorem ciL_yes {cs ds : List Int32} (h : ∀ j, j < cs.length → ciB (lo (cs.getD j 0)) (lo (ds.getD j 0)) = true) : ciL cs ds = true := by
  rw [ciL, List.all_eq_true]; intro j hj; exact h j (List.mem_range.mp hj)
theorem ciL_no {cs ds : List Int32} {j : Nat} (hj : j < cs.length) (h : ¬ ciB (lo (cs.getD j 0)) (lo (ds.getD j 0)) = true) : ciL cs ds = false := by
  rw [Bool.eq_false_iff]; intro q; rw [ciL, List.all_eq_true] at q; exact h (q j (List.mem_range.mpr hj))
theorem nar_b (b : Bool) : nar .boolean (if b = true then (1 : Int32) else 0) = if b = true then 1 else 0 := by cases b <;> rfl
end Jvm.OwnKit
/- laws to paste: Road.backV (cut by pick.py; bodies as the Statement names them) -/
namespace Jvm.Pilot.@@N@@
namespace StrChars
open Jvm Sem ClassFile Op Lib Jvm.Stand Jvm.Free.XT Jvm.Free.ALB Jvm.Free.JM Jvm.Free
open Jvm.Lib.Cold (StaticIs)
/-- a char array whose places are chars -/
def Ch (a : Addr) (A : Cell) (U : State) : Prop := Arr .char a A U ∧ Typed .char A
theorem Ch.mv {a : Addr} {A : Cell} {U U' : State} (h : Ch a A U) (hal : U.vm.Alike U'.vm) (hh : U'.heap = U.heap) : Ch a A U' := ⟨h.1.mv hal hh, h.2⟩
theorem Ch.keep {a : Addr} {A : Cell} {U U' : State} (h : Ch a A U) (hal : U.vm.Alike U'.vm) (hk : U'.heap[a]? = some A) : Ch a A U' := ⟨h.1.keep hal hk, h.2⟩
/-- what place i of a char[]'s cell holds -/
def cv (A : Cell) (i : Nat) : Int32 := match A.slots[i]? with | some (.int x) => x | _ => 0
theorem Ch.get {a : Addr} {A : Cell} {U : State} (h : Ch a A U) {i : Nat} (hi : i < A.slots.size) : A.slots[i]? = some (.int (cv A i)) := by
  have e := Array.getElem?_eq_getElem hi
  have f := h.2 i _ e
  unfold cv; rw [e]
  generalize A.slots[i] = v at f
  cases v <;> simp [fits] at f ⊢
/-- the byte that i2b leaves of a char -/
def lo8 (x : Int32) : Int32 := x.toInt8.toInt32
theorem fits_lo8 (y : Int32) : fits .byte (.int (lo8 y)) = true := by
  have h1 := y.toInt8.le_toInt
  have h2 := y.toInt8.toInt_lt
  simp only [lo8, fits, Bool.and_eq_true, decide_eq_true_eq, Int32.le_iff_toInt_le, Int8.toInt_toInt32, show (-128 : Int32).toInt = -128 from by decide, show (127 : Int32).toInt = 127 from by decide]
  omega
/-- A' is A but that each place j of lo .. hi - 1 holds f j -/
def Laid (A A' : Cell) (lo hi : Nat) (f : Nat → Value) : Prop := A'.cls = A.cls ∧ A'.vm = A.vm ∧ A'.slots.size = A.slots.size ∧ ∀ i, A'.slots[i]? = if lo ≤ i ∧ i < hi then some (f i) else A.slots[i]?
theorem Laid.zero (A : Cell) (lo : Nat) (f : Nat → Value) : Laid A A lo (lo + 0) f := ⟨rfl, rfl, rfl, fun i => by rw [if_neg (by omega)]⟩
theorem Laid.step {A Ak : Cell} {lo k : Nat} {f : Nat → Value} {v : Value} (h : Laid A Ak lo k f) (hlo : lo ≤ k) (hk : k < Ak.slots.size) (hv : v = f k) : Laid A (Ak.setSlot k v) lo (k + 1) f := by
  refine ⟨h.1, h.2.1, by simpa [Cell.setSlot] using h.2.2.1, fun i => ?_⟩
  by_cases e : k = i
  · subst e; rw [Cell.slots_setSlot_self v hk, if_pos (by omega), hv]
  · rw [Cell.slots_setSlot_ne v e, h.2.2.2 i]
    by_cases q : lo ≤ i ∧ i < k
    · rw [if_pos q, if_pos (by omega)]
    · rw [if_neg q, if_neg (by omega)]
def U16 : String := "java/lang/StringUTF16"
namespace Cmp5
def yN : MethodName := ⟨"java/lang/StringUTF16", "compress", "([CI[BII)I"⟩
abbrev yB : ByteArray := jdk_52_method_21_code
theorem d0 : decode yB 0 = .ok (.iconst 0, 1) := by decide +kernel
theorem d1 : decode yB 1 = .ok (.istore 5, 2) := by decide +kernel
theorem d3 : decode yB 3 = .ok (.iload 5, 2) := by decide +kernel
theorem d5 : decode yB 5 = .ok (.iload 4, 2) := by decide +kernel
theorem d7 : decode yB 7 = .ok (.if_icmp (.ge) 37, 3) := by decide +kernel
theorem d10 : decode yB 10 = .ok (.aload_n 0, 1) := by decide +kernel
theorem d11 : decode yB 11 = .ok (.iload_n 1, 1) := by decide +kernel
theorem d12 : decode yB 12 = .ok (.caload, 1) := by decide +kernel
theorem d13 : decode yB 13 = .ok (.istore 6, 2) := by decide +kernel
theorem d15 : decode yB 15 = .ok (.iload 6, 2) := by decide +kernel
theorem d17 : decode yB 17 = .ok (.sipush 255, 3) := by decide +kernel
theorem d20 : decode yB 20 = .ok (.if_icmp (.le) 6, 3) := by decide +kernel
theorem d26 : decode yB 26 = .ok (.aload_n 2, 1) := by decide +kernel
theorem d27 : decode yB 27 = .ok (.iload_n 3, 1) := by decide +kernel
theorem d28 : decode yB 28 = .ok (.iload 6, 2) := by decide +kernel
theorem d30 : decode yB 30 = .ok (.i2b, 1) := by decide +kernel
theorem d31 : decode yB 31 = .ok (.bastore, 1) := by decide +kernel
theorem d32 : decode yB 32 = .ok (.iinc 1 1, 3) := by decide +kernel
theorem d35 : decode yB 35 = .ok (.iinc 3 1, 3) := by decide +kernel
theorem d38 : decode yB 38 = .ok (.iinc 5 1, 3) := by decide +kernel
theorem d41 : decode yB 41 = .ok (.goto (-38), 3) := by decide +kernel
theorem d44 : decode yB 44 = .ok (.iload 4, 2) := by decide +kernel
theorem d46 : decode yB 46 = .ok (.ireturn, 1) := by decide +kernel
def site : List Cond := []
def tab : Cond := tabOf yN yB 7 (some .int) site
def P (b : Addr) (A : Cell) (d : Addr) (B : Cell) (o q len : Nat) (args : Array Value) (s : State) : Prop := args = #[.ref b, .int (Int32.ofNat o), .ref d, .int (Int32.ofNat q), .int (Int32.ofNat len)] ∧ Ch b A s ∧ Arr .byte d B s ∧ b ≠ d ∧ o + len ≤ A.slots.size ∧ q + len ≤ B.slots.size ∧ ∀ i, i < len → ¬ 255 < cv A (o + i)
def E (b : Addr) (A : Cell) (d : Addr) (B : Cell) (o q len : Nat) (r : Option Value) (s u : State) : Prop := r = some (.int (Int32.ofNat len)) ∧ ∃ B', Put d B' s u ∧ Laid B B' q (q + len) (fun j => Value.int (lo8 (cv A (o + (j - q)))))
/-- no char of the range above 255: len; the places written hold each char's low byte -/
theorem law (l : Launch) (b : Addr) (A : Cell) (d : Addr) (B : Cell) (o q len : Nat) : Law l yN 5 5 0 0 yB 7 (some .int) site (P b A d B o q len) (E b A d B o q len) (copyLocs d q len) 0 0 := by
  refine Law.of_walk (plainFor_of_name (by decide +kernel)) (by decide +kernel) (by decide +kernel) (by decide) (fun _ _ h => by rw [h.1]; rfl) (fun _ U U' hal hh h => ⟨h.1, h.2.1.mv hal hh, h.2.2.1.mv hal hh, h.2.2.2⟩) (fun r U U' V V' h1 hal h2 h => ⟨h.1, h.2.elim fun B' q => ⟨B', q.1.mv h1 h2, q.2⟩⟩) ?_
  intro p e s m args below meth c s₁ X0 hexec hbytes hml hret hlk hnm hown hh0 W hP
  obtain ⟨rfl, hA, hB, hne, l1, l2, hp⟩ := hP
  have c1 : Steps p.tables e below (s₁.setTop (entryFrame m #[.ref b, .int (Int32.ofNat o), .ref d, .int (Int32.ofNat q), .int (Int32.ofNat len)] 7)) (s₁.setTop (mkF m 0 #[.val (.ref b), .val (.int (Int32.ofNat o)), .val (.ref d), .val (.int (Int32.ofNat q)), .val (.int (Int32.ofNat len)), .unset, .unset] [])) := entry rfl
  have hA0 := hA.1.mv X0.warmed.alike hh0
  have hB0 := hB.mv X0.warmed.alike hh0
  have a31 := hA.1.2.2.2
  have c2 : Steps p.tables e below (s₁.setTop (entryFrame m #[.ref b, .int (Int32.ofNat o), .ref d, .int (Int32.ofNat q), .int (Int32.ofNat len)] 7)) (s₁.setTop (mkF m 3 #[.val (.ref b), .val (.int (Int32.ofNat o)), .val (.ref d), .val (.int (Int32.ofNat q)), .val (.int (Int32.ofNat len)), .val (.int 0), .unset] [])) := c1.trans (by
    refine iconstV X0.here hexec rfl 0 (hb hbytes d0) (by decide) ?_
    refine XS.istore X0.here hexec rfl (hb hbytes d1) rfl rfl ?_
    exact Steps.refl _)
  have loop : ∀ (r i : Nat), i + r = len → ∀ (z : Slot), (z = .unset ∨ ∃ w, z = .val w ∧ w.category = 1) → ∀ (Tl : State) (Bk : Cell), Stand p l e { frames := 0, locals := 0, cells := 0, slots := 0 } s m #[.ref b, .int (Int32.ofNat o), .ref d, .int (Int32.ofNat q), .int (Int32.ofNat len)] below meth c Tl ([] ++ copyLocs d q i) 0 0 → Put d Bk s₁ Tl → Laid B Bk q (q + i) (fun j => Value.int (lo8 (cv A (o + (j - q))))) →
      Steps p.tables e below (s₁.setTop (entryFrame m #[.ref b, .int (Int32.ofNat o), .ref d, .int (Int32.ofNat q), .int (Int32.ofNat len)] 7)) (Tl.setTop (mkF m 3 #[.val (.ref b), .val (.int (Int32.ofNat (o + i))), .val (.ref d), .val (.int (Int32.ofNat (q + i))), .val (.int (Int32.ofNat len)), .val (.int (Int32.ofNat i)), z] [])) → ∃ (T' : State) (B' : Cell) (z' : Slot), Stand p l e { frames := 0, locals := 0, cells := 0, slots := 0 } s m #[.ref b, .int (Int32.ofNat o), .ref d, .int (Int32.ofNat q), .int (Int32.ofNat len)] below meth c T' ([] ++ copyLocs d q len) 0 0 ∧ Put d B' s₁ T' ∧ Laid B B' q (q + len) (fun j => Value.int (lo8 (cv A (o + (j - q))))) ∧
      Steps p.tables e below (s₁.setTop (entryFrame m #[.ref b, .int (Int32.ofNat o), .ref d, .int (Int32.ofNat q), .int (Int32.ofNat len)] 7)) (T'.setTop (mkF m 3 #[.val (.ref b), .val (.int (Int32.ofNat (o + len))), .val (.ref d), .val (.int (Int32.ofNat (q + len))), .val (.int (Int32.ofNat len)), .val (.int (Int32.ofNat len)), z'] [])) := by
    intro r
    induction r with
    | zero =>
      intro i hi z hz Tl Bk Xl pl fl cl
      have hil : i = len := by omega
      rw [hil] at Xl fl cl
      exact ⟨Tl, Bk, z, Xl, pl, fl, cl⟩
    | succ r ih =>
      intro i hi z hz Tl Bk Xl pl fl cl
      have all := X0.warmed.alike.symm.trans Xl.warmed.alike
      have hAl := hA0.keep all (pl.other hne hA0.1)
      have hBk := hB0.like all pl.1 fl.1 fl.2.1 fl.2.2.1
      have hlt : q + i < Bk.slots.size := by rw [fl.2.2.1]; omega
      have c3 : Steps p.tables e below (s₁.setTop (entryFrame m #[.ref b, .int (Int32.ofNat o), .ref d, .int (Int32.ofNat q), .int (Int32.ofNat len)] 7)) (Tl.setTop (mkF m 12 #[.val (.ref b), .val (.int (Int32.ofNat (o + i))), .val (.ref d), .val (.int (Int32.ofNat (q + i))), .val (.int (Int32.ofNat len)), .val (.int (Int32.ofNat i)), z] [.int (Int32.ofNat (o + i)), .ref b])) := cl.trans (by
        refine XS.iload Xl.here hexec rfl (hb hbytes d3) rfl ?_
        refine XS.iload Xl.here hexec rfl (hb hbytes d5) rfl ?_
        refine XS.icmpNo Xl.here hexec rfl (hb hbytes d7) rfl (ii_ge_f (lt32 (by omega) (by omega))) ?_
        refine XS.aloadN Xl.here hexec rfl (hb hbytes d10) rfl rfl ?_
        refine XS.iloadN Xl.here hexec rfl (hb hbytes d11) rfl ?_
        exact Steps.refl _)
      have c4 : Steps p.tables e below (s₁.setTop (entryFrame m #[.ref b, .int (Int32.ofNat o), .ref d, .int (Int32.ofNat q), .int (Int32.ofNat len)] 7)) (Tl.setTop (mkF m 13 #[.val (.ref b), .val (.int (Int32.ofNat (o + i))), .val (.ref d), .val (.int (Int32.ofNat (q + i))), .val (.int (Int32.ofNat len)), .val (.int (Int32.ofNat i)), z] [.int (cv A (o + i))])) := c3.trans (by
        refine Xl.aget hexec hAl rfl (hA.get (i := o + i) (by omega)) rfl rfl (hb hbytes d12) ?_
        exact Steps.refl _)
      have c5 : Steps p.tables e below (s₁.setTop (entryFrame m #[.ref b, .int (Int32.ofNat o), .ref d, .int (Int32.ofNat q), .int (Int32.ofNat len)] 7)) (Tl.setTop (mkF m 15 #[.val (.ref b), .val (.int (Int32.ofNat (o + i))), .val (.ref d), .val (.int (Int32.ofNat (q + i))), .val (.int (Int32.ofNat len)), .val (.int (Int32.ofNat i)), .val (.int (cv A (o + i)))] [])) := c4.trans (by
        refine XS.istoreS Xl.here hexec rfl (hb hbytes d13) rfl rfl hz ?_
        exact Steps.refl _)
      have c6 : Steps p.tables e below (s₁.setTop (entryFrame m #[.ref b, .int (Int32.ofNat o), .ref d, .int (Int32.ofNat q), .int (Int32.ofNat len)] 7)) (Tl.setTop (mkF m 31 #[.val (.ref b), .val (.int (Int32.ofNat (o + i))), .val (.ref d), .val (.int (Int32.ofNat (q + i))), .val (.int (Int32.ofNat len)), .val (.int (Int32.ofNat i)), .val (.int (cv A (o + i)))] [.int (lo8 (cv A (o + i))), .int (Int32.ofNat (q + i)), .ref d])) := c5.trans (by
        refine XS.iload Xl.here hexec rfl (hb hbytes d15) rfl ?_
        refine sipushV Xl.here hexec rfl 255 (hb hbytes d17) (by decide) ?_
        refine XS.icmpYes Xl.here hexec rfl (pc0 := 20) rfl (hb hbytes d20) rfl (ii_le_t (hp i (by omega))) (by decide) rfl ?_
        refine XS.aloadN Xl.here hexec rfl (hb hbytes d26) rfl rfl ?_
        refine XS.iloadN Xl.here hexec rfl (hb hbytes d27) rfl ?_
        refine XS.iload Xl.here hexec rfl (hb hbytes d28) rfl ?_
        refine i2b Xl.here hexec rfl (hb hbytes d30) rfl ?_
        exact Steps.refl _)
      obtain ⟨T7, X7, p7, st7⟩ := Xl.aput hexec hBk rfl hlt rfl (fits_lo8 (cv A (o + i))) (g := (mkF m 31 #[.val (.ref b), .val (.int (Int32.ofNat (o + i))), .val (.ref d), .val (.int (Int32.ofNat (q + i))), .val (.int (Int32.ofNat len)), .val (.int (Int32.ofNat i)), .val (.int (cv A (o + i)))] [.int (lo8 (cv A (o + i))), .int (Int32.ofNat (q + i)), .ref d])) rfl (rest := []) rfl (hb hbytes d31)
      have c8 : Steps p.tables e below (s₁.setTop (entryFrame m #[.ref b, .int (Int32.ofNat o), .ref d, .int (Int32.ofNat q), .int (Int32.ofNat len)] 7)) (T7.setTop (mkF m 32 #[.val (.ref b), .val (.int (Int32.ofNat (o + i))), .val (.ref d), .val (.int (Int32.ofNat (q + i))), .val (.int (Int32.ofNat len)), .val (.int (Int32.ofNat i)), .val (.int (cv A (o + i)))] [])) := c6.trans (st7 _ (Steps.refl _))
      have c9 : Steps p.tables e below (s₁.setTop (entryFrame m #[.ref b, .int (Int32.ofNat o), .ref d, .int (Int32.ofNat q), .int (Int32.ofNat len)] 7)) (T7.setTop (mkF m 3 #[.val (.ref b), .val (.int (Int32.ofNat (o + i) + 1)), .val (.ref d), .val (.int (Int32.ofNat (q + i) + 1)), .val (.int (Int32.ofNat len)), .val (.int (Int32.ofNat i + 1)), .val (.int (cv A (o + i)))] [])) := c8.trans (by
        refine iincV X7.here hexec rfl 1 (hb hbytes d32) (by decide) rfl rfl ?_
        refine iincV X7.here hexec rfl 1 (hb hbytes d35) (by decide) rfl rfl ?_
        refine iincV X7.here hexec rfl 1 (hb hbytes d38) (by decide) rfl rfl ?_
        refine XS.goto X7.here hexec rfl (pc0 := 41) rfl (hb hbytes d41) (by decide) rfl ?_
        exact Steps.refl _)
      have c10 : Steps p.tables e below (s₁.setTop (entryFrame m #[.ref b, .int (Int32.ofNat o), .ref d, .int (Int32.ofNat q), .int (Int32.ofNat len)] 7)) (T7.setTop (mkF m 3 #[.val (.ref b), .val (.int (Int32.ofNat (o + (i + 1)))), .val (.ref d), .val (.int (Int32.ofNat (q + (i + 1)))), .val (.int (Int32.ofNat len)), .val (.int (Int32.ofNat (i + 1))), .val (.int (cv A (o + i)))] [])) := by
        have := c9
        rw [succ32, succ32, succ32] at this
        exact this
      exact ih (i + 1) (by omega) _ (Or.inr ⟨_, rfl, rfl⟩) T7 _ (by rw [copyLocs_step, ← List.append_assoc]; exact X7) (pl.trans p7) (fl.step (by omega) hlt (by simp)) c10
  obtain ⟨T9, B9, z9, X9, p9, f9, g9⟩ := loop len 0 (by omega) .unset (Or.inl rfl) s₁ B (by simpa [copyLocs] using X0) ⟨hB0.1, fun _ _ => rfl, rfl⟩ (Laid.zero _ _ _) c2
  have c11 : Steps p.tables e below (s₁.setTop (entryFrame m #[.ref b, .int (Int32.ofNat o), .ref d, .int (Int32.ofNat q), .int (Int32.ofNat len)] 7)) (T9.setTop (mkF m 46 #[.val (.ref b), .val (.int (Int32.ofNat (o + len))), .val (.ref d), .val (.int (Int32.ofNat (q + len))), .val (.int (Int32.ofNat len)), .val (.int (Int32.ofNat len)), z9] [.int (Int32.ofNat len)])) := g9.trans (by
    refine XS.iload X9.here hexec rfl (hb hbytes d3) rfl ?_
    refine XS.iload X9.here hexec rfl (hb hbytes d5) rfl ?_
    refine XS.icmpYes X9.here hexec rfl (pc0 := 7) rfl (hb hbytes d7) rfl (ii_ge_t (nlt32 (by omega) (Nat.le_refl _))) (by decide) rfl ?_
    refine XS.iload X9.here hexec rfl (hb hbytes d44) rfl ?_
    exact Steps.refl _)
  exact ⟨T9, some (.int (Int32.ofNat len)), _, _, _, X9, by simp, rfl, rfl, (fun h => by cases h), ⟨rfl, B9, p9.from hh0, f9⟩, fun fs hl => c11.trans (X9.ireturnOut hexec hret rfl (Or.inl rfl) (hb hbytes d46) hl)⟩
end Cmp5
namespace Cmp3
def yN : MethodName := ⟨"java/lang/StringUTF16", "compress", "([CII)[B"⟩
abbrev yB : ByteArray := jdk_52_method_16_code
theorem d0 : decode yB 0 = .ok (.iload_n 2, 1) := by decide +kernel
theorem d1 : decode yB 1 = .ok (.newarray .byte, 2) := by decide +kernel
theorem d3 : decode yB 3 = .ok (.astore_n 3, 1) := by decide +kernel
theorem d4 : decode yB 4 = .ok (.aload_n 0, 1) := by decide +kernel
theorem d5 : decode yB 5 = .ok (.iload_n 1, 1) := by decide +kernel
theorem d6 : decode yB 6 = .ok (.aload_n 3, 1) := by decide +kernel
theorem d7 : decode yB 7 = .ok (.iconst 0, 1) := by decide +kernel
theorem d8 : decode yB 8 = .ok (.iload_n 2, 1) := by decide +kernel
theorem d9 : decode yB 9 = .ok (.invokestatic 115, 3) := by decide +kernel
theorem d12 : decode yB 12 = .ok (.istore 4, 2) := by decide +kernel
theorem d14 : decode yB 14 = .ok (.iload 4, 2) := by decide +kernel
theorem d16 : decode yB 16 = .ok (.iload_n 2, 1) := by decide +kernel
theorem d17 : decode yB 17 = .ok (.if_icmp (.eq) 40, 3) := by decide +kernel
theorem d57 : decode yB 57 = .ok (.aload_n 3, 1) := by decide +kernel
theorem d58 : decode yB 58 = .ok (.areturn, 1) := by decide +kernel
def site : List Cond := [.arrayClass .byte, Cmp5.tab] ++ staticW U16 115 Cmp5.yN
def tab : Cond := tabOf yN yB 6 (some (.array .byte)) site
def P (b : Addr) (A : Cell) (o len : Nat) (args : Array Value) (s : State) : Prop := args = #[.ref b, .int (Int32.ofNat o), .int (Int32.ofNat len)] ∧ Ch b A s ∧ o + len ≤ A.slots.size ∧ len ≤ 536870912 ∧ ∀ i, i < len → ¬ 255 < cv A (o + i)
def E (b : Addr) (A : Cell) (o len : Nat) (r : Option Value) (s u : State) : Prop := NewArr .byte "[B" len (fun j => .int (lo8 (cv A (o + j)))) r s u ∧ u.heap.size = s.heap.size + 1
/-- no char of the range above 255: a new byte[] of their low bytes -/
theorem law (l : Launch) (b : Addr) (A : Cell) (o len : Nat) : Law l yN 3 3 1 18 yB 6 (some (.array .byte)) site (P b A o len) (E b A o len) [] 1 len := by
  refine Law.of_walk (plainFor_of_name (by decide +kernel)) (by decide +kernel) (by decide +kernel) (by decide) (fun _ _ h => by rw [h.1]; rfl) (fun _ U U' hal hh h => ⟨h.1, h.2.1.mv hal hh, h.2.2⟩) (fun r U U' V V' h1 hal h2 h => ⟨NewArr.mv r U U' V V' h1 hal h2 h.1, by rw [h1, h2]; exact h.2⟩) ?_
  intro p e s m args below meth c s₁ X0 hexec hbytes hml hret hlk hnm hown hh0 W hP
  obtain ⟨rfl, hA, l1, l2, hp⟩ := hP
  have a31 := hA.1.2.2.2
  have c1 : Steps p.tables e below (s₁.setTop (entryFrame m #[.ref b, .int (Int32.ofNat o), .int (Int32.ofNat len)] 6)) (s₁.setTop (mkF m 0 #[.val (.ref b), .val (.int (Int32.ofNat o)), .val (.int (Int32.ofNat len)), .unset, .unset, .unset] [])) := entry rfl
  have c2 : Steps p.tables e below (s₁.setTop (entryFrame m #[.ref b, .int (Int32.ofNat o), .int (Int32.ofNat len)] 6)) (s₁.setTop (mkF m 1 #[.val (.ref b), .val (.int (Int32.ofNat o)), .val (.int (Int32.ofNat len)), .unset, .unset, .unset] [.int (Int32.ofNat len)])) := c1.trans (by
    refine XS.iloadN X0.here hexec rfl (hb hbytes d0) rfl ?_
    exact Steps.refl _)
  obtain ⟨T3, B3, X3, ba3, bs3, bv3, bh3, bf3, st3⟩ := X0.anew hexec (atype := .byte) (wk W (.arrayClass .byte)) rfl (by show len * 1 ≤ _; omega) (by omega) (g := (mkF m 1 #[.val (.ref b), .val (.int (Int32.ofNat o)), .val (.int (Int32.ofNat len)), .unset, .unset, .unset] [.int (Int32.ofNat len)])) rfl (hb hbytes d1) (rest := []) rfl (Nat.le_refl _) (by show 0 + len ≤ len; omega)
  rw [hh0] at ba3 st3
  have kp3 : XT.Kept s T3 := (XT.Kept.of_eq hh0).push bh3
  have hA3 := hA.keep X3.warmed.alike (kp3 _ _ hA.1.1)
  have hne : b ≠ s.heap.size := hA.1.ne
  have c4 : Steps p.tables e below (s₁.setTop (entryFrame m #[.ref b, .int (Int32.ofNat o), .int (Int32.ofNat len)] 6)) (T3.setTop (mkF m 3 #[.val (.ref b), .val (.int (Int32.ofNat o)), .val (.int (Int32.ofNat len)), .unset, .unset, .unset] [.ref s.heap.size])) := c2.trans (st3 _ (Steps.refl _))
  have c5 : Steps p.tables e below (s₁.setTop (entryFrame m #[.ref b, .int (Int32.ofNat o), .int (Int32.ofNat len)] 6)) (T3.setTop (mkF m 9 #[.val (.ref b), .val (.int (Int32.ofNat o)), .val (.int (Int32.ofNat len)), .val (.ref s.heap.size), .unset, .unset] [.int (Int32.ofNat len), .int 0, .ref s.heap.size, .int (Int32.ofNat o), .ref b])) := c4.trans (by
    refine XS.astoreN X3.here hexec rfl (hb hbytes d3) rfl rfl rfl ?_
    refine XS.aloadN X3.here hexec rfl (hb hbytes d4) rfl rfl ?_
    refine XS.iloadN X3.here hexec rfl (hb hbytes d5) rfl ?_
    refine XS.aloadN X3.here hexec rfl (hb hbytes d6) rfl rfl ?_
    refine iconstV X3.here hexec rfl 0 (hb hbytes d7) (by decide) ?_
    refine XS.iloadN X3.here hexec rfl (hb hbytes d8) rfl ?_
    exact Steps.refl _)
  obtain ⟨v6, T6, X6, E6, g6⟩ := X3.callS hexec (Cmp5.law l b A s.heap.size B3 o 0 len) hown (wks W (staticW U16 115 Cmp5.yN)) (wk W Cmp5.tab) (W := 0) (Nat.le_of_ble_eq_true rfl) (Nat.le_of_ble_eq_true rfl) (Nat.le_refl _) (by show 0 + len + 0 ≤ len; omega) (g := (mkF m 9 #[.val (.ref b), .val (.int (Int32.ofNat o)), .val (.int (Int32.ofNat len)), .val (.ref s.heap.size), .unset, .unset] [.int (Int32.ofNat len), .int (Int32.ofNat 0), .ref s.heap.size, .int (Int32.ofNat o), .ref b])) rfl (by rw [hml]; rfl) c5 (argsL := [.ref b, .int (Int32.ofNat o), .ref s.heap.size, .int (Int32.ofNat 0), .int (Int32.ofNat len)]) (rest := []) rfl rfl (by show 2 * 0 + 0 ≤ _; decide) (hb hbytes d9) (⟨rfl, hA3, ba3, hne, l1, by rw [bs3]; simp, hp⟩)
  obtain ⟨rfl, B6, p6, f6⟩ := E6
  have c7 : Steps p.tables e below (s₁.setTop (entryFrame m #[.ref b, .int (Int32.ofNat o), .int (Int32.ofNat len)] 6)) (T6.setTop (mkF m 12 #[.val (.ref b), .val (.int (Int32.ofNat o)), .val (.int (Int32.ofNat len)), .val (.ref s.heap.size), .unset, .unset] [.int (Int32.ofNat len)])) := g6
  have c8 : Steps p.tables e below (s₁.setTop (entryFrame m #[.ref b, .int (Int32.ofNat o), .int (Int32.ofNat len)] 6)) (T6.setTop (mkF m 58 #[.val (.ref b), .val (.int (Int32.ofNat o)), .val (.int (Int32.ofNat len)), .val (.ref s.heap.size), .val (.int (Int32.ofNat len)), .unset] [.ref s.heap.size])) := c7.trans (by
    refine XS.istore X6.here hexec rfl (hb hbytes d12) rfl rfl ?_
    refine XS.iload X6.here hexec rfl (hb hbytes d14) rfl ?_
    refine XS.iloadN X6.here hexec rfl (hb hbytes d16) rfl ?_
    refine XS.icmpYes X6.here hexec rfl (pc0 := 17) rfl (hb hbytes d17) rfl (ii_eq_t rfl) (by decide) rfl ?_
    refine XS.aloadN X6.here hexec rfl (hb hbytes d57) rfl rfl ?_
    exact Steps.refl _)
  have X8 := X6.wide (L' := []) (cells' := 1) (slots' := len) (fun x hx hlt => by
    simp only [List.nil_append, copyLocs, List.mem_map, List.mem_range] at hx
    obtain ⟨i, -, rfl⟩ := hx
    exact absurd hlt (Nat.lt_irrefl _)) (Nat.le_refl _) (by omega)
  exact ⟨T6, some (.ref s.heap.size), _, _, _, X8, rfl, rfl, rfl, (fun h => by cases h), ⟨⟨rfl, B6, ba3.like (X3.warmed.alike.symm.trans X6.warmed.alike) p6.1 f6.1 f6.2.1 f6.2.2.1, f6.2.1.trans bv3, by rw [X6.warmed.alike.findClass, f6.1]; exact bf3, by rw [f6.2.2.1, bs3]; simp, fun j hj => by rw [f6.2.2.2 j, if_pos (by omega)]; rfl, kp3.put p6 (Nat.le_refl _)⟩, by rw [p6.2.2, bh3, hh0]; simp⟩, fun fs hl => c8.trans (X8.areturnOut hexec rfl hret rfl (hb hbytes d58) hl)⟩
end Cmp3
namespace CodL
def yN : MethodName := ⟨"java/lang/StringUTF16", "coderFromArrayLen", "([BI)B"⟩
abbrev yB : ByteArray := jdk_52_method_15_code
theorem d0 : decode yB 0 = .ok (.iload_n 1, 1) := by decide +kernel
theorem d1 : decode yB 1 = .ok (.aload_n 0, 1) := by decide +kernel
theorem d2 : decode yB 2 = .ok (.arraylength, 1) := by decide +kernel
theorem d3 : decode yB 3 = .ok (.isub, 1) := by decide +kernel
theorem d4 : decode yB 4 = .ok (.bipush 31, 2) := by decide +kernel
theorem d6 : decode yB 6 = .ok (.iushr, 1) := by decide +kernel
theorem d7 : decode yB 7 = .ok (.i2b, 1) := by decide +kernel
theorem d8 : decode yB 8 = .ok (.ireturn, 1) := by decide +kernel
def site : List Cond := []
def tab : Cond := tabOf yN yB 2 (some .byte) site
def P (d : Addr) (B : Cell) (args : Array Value) (s : State) : Prop := args = #[.ref d, .int (Int32.ofNat B.slots.size)] ∧ Arr .byte d B s
def E (r : Option Value) (s u : State) : Prop := XT.PureE (some (.int 0)) r s u
/-- an array as long as the number of chars: LATIN1 -/
theorem law (l : Launch) (d : Addr) (B : Cell) : Law l yN 2 2 0 0 yB 2 (some .byte) site (P d B) E [] 0 0 := by
  refine Law.of_walk (plainFor_of_name (by decide +kernel)) (by decide +kernel) (by decide +kernel) (by decide) (fun _ _ h => by rw [h.1]; rfl) (fun _ U U' hal hh h => ⟨h.1, h.2.mv hal hh⟩) (fun r U U' V V' h1 hal h2 h => XT.PureE.mv r U U' V V' h1 hal h2 h) ?_
  intro p e s m args below meth c s₁ X0 hexec hbytes hml hret hlk hnm hown hh0 W hP
  obtain ⟨rfl, hB⟩ := hP
  have hB0 := hB.mv X0.warmed.alike hh0
  have c1 : Steps p.tables e below (s₁.setTop (entryFrame m #[.ref d, .int (Int32.ofNat B.slots.size)] 2)) (s₁.setTop (mkF m 0 #[.val (.ref d), .val (.int (Int32.ofNat B.slots.size))] [])) := entry rfl
  have c2 : Steps p.tables e below (s₁.setTop (entryFrame m #[.ref d, .int (Int32.ofNat B.slots.size)] 2)) (s₁.setTop (mkF m 2 #[.val (.ref d), .val (.int (Int32.ofNat B.slots.size))] [.ref d, .int (Int32.ofNat B.slots.size)])) := c1.trans (by
    refine XS.iloadN X0.here hexec rfl (hb hbytes d0) rfl ?_
    refine XS.aloadN X0.here hexec rfl (hb hbytes d1) rfl rfl ?_
    exact Steps.refl _)
  have c3 : Steps p.tables e below (s₁.setTop (entryFrame m #[.ref d, .int (Int32.ofNat B.slots.size)] 2)) (s₁.setTop (mkF m 8 #[.val (.ref d), .val (.int (Int32.ofNat B.slots.size))] [.int (lo8 (ushr (Int32.ofNat B.slots.size - Int32.ofNat B.slots.size) 31))])) := c2.trans (by
    refine X0.alen hexec hB0 rfl rfl (hb hbytes d2) ?_
    refine XS.isub X0.here hexec rfl (hb hbytes d3) rfl ?_
    refine bipushV X0.here hexec rfl 31 (hb hbytes d4) (by decide) ?_
    refine iushr X0.here hexec rfl (hb hbytes d6) rfl ?_
    refine i2b X0.here hexec rfl (hb hbytes d7) rfl ?_
    exact Steps.refl _)
  have e0 : lo8 (ushr (Int32.ofNat B.slots.size - Int32.ofNat B.slots.size) 31) = 0 := by rw [Int32.sub_self]; decide
  rw [e0] at c3
  exact ⟨s₁, some (.int 0), _, _, _, X0, rfl, rfl, rfl, (fun h => by cases h), ⟨rfl, hh0⟩, fun fs hl => c3.trans (X0.ireturnOut hexec hret rfl (Or.inr (Or.inr (Or.inl rfl))) (hb hbytes d8) hl)⟩
end CodL
/-- the String at a is Latin-1 over a new byte[] (the heap's one new cell): the low bytes of the len chars of A from o on; every cell but a is kept -/
def Got (a : Addr) (D : Cell) (fV fC : Field) (A : Cell) (o len : Nat) (r : Option Value) (s u : State) : Prop := r = none ∧ ∃ D' V : Cell, Blank "java/lang/String" a D' u ∧ Same D D' [fV.slot, fC.slot] ∧ D'.slots[fV.slot]? = some (.ref s.heap.size) ∧ D'.slots[fC.slot]? = some (.int 0) ∧ Arr .byte s.heap.size V u ∧ V.vm = .none ∧ u.vm.findClass "[B" = some V.cls ∧ V.slots.size = len ∧ (∀ j, j < len → V.slots[j]? = some (.int (lo8 (cv A (o + j))))) ∧ (∀ (y : Addr) (c : Cell), y ≠ a → s.heap[y]? = some c → u.heap[y]? = some c) ∧ u.heap.size = s.heap.size + 1
theorem Got.mv {a : Addr} {D A : Cell} {fV fC : Field} {o len : Nat} : ∀ r (U U' V V' : State), U'.heap = U.heap → V.vm.Alike V'.vm → V'.heap = V.heap → Got a D fV fC A o len r U V → Got a D fV fC A o len r U' V' :=
  fun r U U' V V' h1 hal h2 ⟨e0, D', X, a1, a2, a3, a4, a5, a6, a7, a8, a9, a10, a11⟩ => ⟨e0, D', X, a1.mv hal h2, a2, by rw [h1]; exact a3, a4, by rw [h1]; exact a5.mv hal h2, a6, by rw [hal.findClass]; exact a7, a8, a9, by rw [h1, h2]; exact a10, by rw [h1, h2]; exact a11⟩
namespace New4
def yN : MethodName := ⟨"java/lang/String", "<init>", "([CIILjava/lang/Void;)V"⟩
abbrev yB : ByteArray := jdk_42_method_149_code
theorem d0 : decode yB 0 = .ok (.aload_n 0, 1) := by decide +kernel
theorem d1 : decode yB 1 = .ok (.invokespecial 1, 3) := by decide +kernel
theorem d4 : decode yB 4 = .ok (.iload_n 3, 1) := by decide +kernel
theorem d5 : decode yB 5 = .ok (.ifCond (.ne) 22, 3) := by decide +kernel
theorem d27 : decode yB 27 = .ok (.getstatic 38, 3) := by decide +kernel
theorem d30 : decode yB 30 = .ok (.ifCond (.eq) 28, 3) := by decide +kernel
theorem d33 : decode yB 33 = .ok (.aload_n 1, 1) := by decide +kernel
theorem d34 : decode yB 34 = .ok (.iload_n 2, 1) := by decide +kernel
theorem d35 : decode yB 35 = .ok (.iload_n 3, 1) := by decide +kernel
theorem d36 : decode yB 36 = .ok (.invokestatic 177, 3) := by decide +kernel
theorem d39 : decode yB 39 = .ok (.astore 5, 2) := by decide +kernel
theorem d41 : decode yB 41 = .ok (.aload_n 0, 1) := by decide +kernel
theorem d42 : decode yB 42 = .ok (.aload 5, 2) := by decide +kernel
theorem d44 : decode yB 44 = .ok (.iload_n 3, 1) := by decide +kernel
theorem d45 : decode yB 45 = .ok (.invokestatic 47, 3) := by decide +kernel
theorem d48 : decode yB 48 = .ok (.putfield 15, 3) := by decide +kernel
theorem d51 : decode yB 51 = .ok (.aload_n 0, 1) := by decide +kernel
theorem d52 : decode yB 52 = .ok (.aload 5, 2) := by decide +kernel
theorem d54 : decode yB 54 = .ok (.putfield 9, 3) := by decide +kernel
theorem d57 : decode yB 57 = .ok (.return_, 1) := by decide +kernel
def site : List Cond := [.fieldLink "java/lang/String" 38 "java/lang/String" "COMPACT_STRINGS" "Z", Cmp3.tab, CodL.tab, .laysFinal "java/lang/String" "java/lang/String" "value" "[B", .fieldLink "java/lang/String" 9 "java/lang/String" "value" "[B", .laysFinal "java/lang/String" "java/lang/String" "coder" "B", .fieldLink "java/lang/String" 15 "java/lang/String" "coder" "B"] ++ objW "java/lang/String" 1 ++ staticW "java/lang/String" 177 Cmp3.yN ++ staticW "java/lang/String" 47 CodL.yN
def tab : Cond := tabOf yN yB 6 none site
def P (a : Addr) (D : Cell) (fV fC : Field) (b : Addr) (A : Cell) (z : Int32) (o len : Nat) (args : Array Value) (s : State) : Prop := args = #[.ref a, .ref b, .int (Int32.ofNat o), .int (Int32.ofNat len), .null] ∧ Blank "java/lang/String" a D s ∧ Found "java/lang/String" "value" "[B" fV s ∧ Found "java/lang/String" "coder" "B" fC s ∧ Ch b A s ∧ StaticIs s "java/lang/String" "COMPACT_STRINGS" "Z" (.int z) ∧ ¬ z = 0 ∧ 0 < len ∧ o + len ≤ A.slots.size ∧ len ≤ 536870912 ∧ ∀ i, i < len → ¬ 255 < cv A (o + i)
def E (a : Addr) (D : Cell) (fV fC : Field) (A : Cell) (o len : Nat) (r : Option Value) (s u : State) : Prop := Got a D fV fC A o len r s u
/-- len > 0, no char of the range above 255: a Latin-1 String of their low bytes -/
theorem law (l : Launch) (a : Addr) (D : Cell) (fV fC : Field) (b : Addr) (A : Cell) (z : Int32) (o len : Nat) : Law l yN 5 4 2 35 yB 6 none site (P a D fV fC b A z o len) (E a D fV fC A o len) [⟨a, fC.slot⟩, ⟨a, fV.slot⟩] 1 len := by
  refine Law.of_walk (plainFor_of_name (by decide +kernel)) (by decide +kernel) (by decide +kernel) (by decide) (fun _ _ h => by rw [h.1]; rfl) (fun _ U U' hal hh h => ⟨h.1, h.2.1.mv hal hh, h.2.2.1.al hal, h.2.2.2.1.al hal, h.2.2.2.2.1.mv hal hh, h.2.2.2.2.2.1.there hal hh, h.2.2.2.2.2.2⟩) (fun r U U' V V' h1 hal h2 h => Got.mv r U U' V V' h1 hal h2 h) ?_
  intro p e s m args below meth c s₁ X0 hexec hbytes hml hret hlk hnm hown hh0 W hP
  obtain ⟨rfl, hB, f1, f2, hA, s1, hz, l0, l1, l2, hp⟩ := hP
  have a31 := hA.1.2.2.2
  have c1 : Steps p.tables e below (s₁.setTop (entryFrame m #[.ref a, .ref b, .int (Int32.ofNat o), .int (Int32.ofNat len), .null] 6)) (s₁.setTop (mkF m 0 #[.val (.ref a), .val (.ref b), .val (.int (Int32.ofNat o)), .val (.int (Int32.ofNat len)), .val .null, .unset] [])) := entry rfl
  have c2 : Steps p.tables e below (s₁.setTop (entryFrame m #[.ref a, .ref b, .int (Int32.ofNat o), .int (Int32.ofNat len), .null] 6)) (s₁.setTop (mkF m 1 #[.val (.ref a), .val (.ref b), .val (.int (Int32.ofNat o)), .val (.int (Int32.ofNat len)), .val .null, .unset] [.ref a])) := c1.trans (by
    refine XS.aloadN X0.here hexec rfl (hb hbytes d0) rfl rfl ?_
    exact Steps.refl _)
  obtain ⟨T3, X3, q3, st3⟩ := X0.oinit hexec hown (wks W (objW "java/lang/String" 1)) (g := (mkF m 1 #[.val (.ref a), .val (.ref b), .val (.int (Int32.ofNat o)), .val (.int (Int32.ofNat len)), .val .null, .unset] [.ref a])) rfl (by rw [hml]; rfl) (rest := []) rfl (hb hbytes d1) (W := 0) (by show 2 * 0 + 0 ≤ _; decide) (Nat.le_of_ble_eq_true rfl) (Nat.le_of_ble_eq_true rfl)
  have hh3 := q3.trans hh0
  have c4 : Steps p.tables e below (s₁.setTop (entryFrame m #[.ref a, .ref b, .int (Int32.ofNat o), .int (Int32.ofNat len), .null] 6)) (T3.setTop (mkF m 27 #[.val (.ref a), .val (.ref b), .val (.int (Int32.ofNat o)), .val (.int (Int32.ofNat len)), .val .null, .unset] [])) := (c2.trans (st3 _ (Steps.refl _))).trans (by
    refine XS.iloadN X3.here hexec rfl (hb hbytes d4) rfl ?_
    refine XS.ifYes X3.here hexec rfl (pc0 := 5) rfl (hb hbytes d5) rfl (i0_ne_t (nz32 (by omega) l0)) (by decide) rfl ?_
    exact Steps.refl _)
  obtain ⟨T5, X5, q5, st5⟩ := X3.sget hexec hown (wk W (.fieldLink "java/lang/String" 38 "java/lang/String" "COMPACT_STRINGS" "Z")) s1 (fun _ _ h => by rw [hh3]; exact h) (g := (mkF m 27 #[.val (.ref a), .val (.ref b), .val (.int (Int32.ofNat o)), .val (.int (Int32.ofNat len)), .val .null, .unset] [])) rfl (hb hbytes d27)
  have hh5 := q5.trans hh3
  have c6 : Steps p.tables e below (s₁.setTop (entryFrame m #[.ref a, .ref b, .int (Int32.ofNat o), .int (Int32.ofNat len), .null] 6)) (T5.setTop (mkF m 30 #[.val (.ref a), .val (.ref b), .val (.int (Int32.ofNat o)), .val (.int (Int32.ofNat len)), .val .null, .unset] [.int z])) := c4.trans (st5 _ (Steps.refl _))
  have c7 : Steps p.tables e below (s₁.setTop (entryFrame m #[.ref a, .ref b, .int (Int32.ofNat o), .int (Int32.ofNat len), .null] 6)) (T5.setTop (mkF m 36 #[.val (.ref a), .val (.ref b), .val (.int (Int32.ofNat o)), .val (.int (Int32.ofNat len)), .val .null, .unset] [.int (Int32.ofNat len), .int (Int32.ofNat o), .ref b])) := c6.trans (by
    refine XS.ifNo X5.here hexec rfl (hb hbytes d30) rfl (i0_eq_f hz) ?_
    refine XS.aloadN X5.here hexec rfl (hb hbytes d33) rfl rfl ?_
    refine XS.iloadN X5.here hexec rfl (hb hbytes d34) rfl ?_
    refine XS.iloadN X5.here hexec rfl (hb hbytes d35) rfl ?_
    exact Steps.refl _)
  obtain ⟨v8, T8, X8, E8, g8⟩ := X5.callS hexec (Cmp3.law l b A o len) hown (wks W (staticW "java/lang/String" 177 Cmp3.yN)) (wk W Cmp3.tab) (W := 0) (Nat.le_of_ble_eq_true rfl) (Nat.le_of_ble_eq_true rfl) (Nat.le_refl _) (by show 0 + len ≤ len; omega) (g := (mkF m 36 #[.val (.ref a), .val (.ref b), .val (.int (Int32.ofNat o)), .val (.int (Int32.ofNat len)), .val .null, .unset] [.int (Int32.ofNat len), .int (Int32.ofNat o), .ref b])) rfl (by rw [hml]; rfl) c7 (argsL := [.ref b, .int (Int32.ofNat o), .int (Int32.ofNat len)]) (rest := []) rfl rfl (by show 2 * 0 + 0 ≤ _; decide) (hb hbytes d36) (⟨rfl, hA.mv X5.warmed.alike hh5, l1, l2, hp⟩)
  obtain ⟨e8, z8⟩ := E8
  obtain ⟨rfl, N, n1, n2, n3, n4, n5, n6⟩ := NewArr.mv _ T5 s _ _ hh5.symm (Vm.Alike.refl _) rfl e8
  rw [hh5] at z8
  have hB1 := hB.keep X8.warmed.alike (n6 _ _ hB.1)
  have hne : s.heap.size ≠ a := (Nat.ne_of_lt (Array.getElem?_eq_some_iff.mp hB.1).1).symm
  have c9 : Steps p.tables e below (s₁.setTop (entryFrame m #[.ref a, .ref b, .int (Int32.ofNat o), .int (Int32.ofNat len), .null] 6)) (T8.setTop (mkF m 39 #[.val (.ref a), .val (.ref b), .val (.int (Int32.ofNat o)), .val (.int (Int32.ofNat len)), .val .null, .unset] [.ref s.heap.size])) := g8
  have c10 : Steps p.tables e below (s₁.setTop (entryFrame m #[.ref a, .ref b, .int (Int32.ofNat o), .int (Int32.ofNat len), .null] 6)) (T8.setTop (mkF m 45 #[.val (.ref a), .val (.ref b), .val (.int (Int32.ofNat o)), .val (.int (Int32.ofNat len)), .val .null, .val (.ref s.heap.size)] [.int (Int32.ofNat N.slots.size), .ref s.heap.size, .ref a])) := by
    have hc : Steps p.tables e below (s₁.setTop (entryFrame m #[.ref a, .ref b, .int (Int32.ofNat o), .int (Int32.ofNat len), .null] 6)) (T8.setTop (mkF m 45 #[.val (.ref a), .val (.ref b), .val (.int (Int32.ofNat o)), .val (.int (Int32.ofNat len)), .val .null, .val (.ref s.heap.size)] [.int (Int32.ofNat len), .ref s.heap.size, .ref a])) := c9.trans (by
      refine XS.astore X8.here hexec rfl (hb hbytes d39) rfl rfl rfl ?_
      refine XS.aloadN X8.here hexec rfl (hb hbytes d41) rfl rfl ?_
      refine XS.aload X8.here hexec rfl (hb hbytes d42) rfl rfl ?_
      refine XS.iloadN X8.here hexec rfl (hb hbytes d44) rfl ?_
      exact Steps.refl _)
    rw [n4]; exact hc
  obtain ⟨v11, T11, X11, E11, g11⟩ := X8.callS hexec (CodL.law l s.heap.size N) hown (wks W (staticW "java/lang/String" 47 CodL.yN)) (wk W CodL.tab) (W := 1) (Nat.le_of_ble_eq_true rfl) (Nat.le_of_ble_eq_true rfl) (Nat.le_refl _) (by show 0 + len + 0 ≤ len; omega) (g := (mkF m 45 #[.val (.ref a), .val (.ref b), .val (.int (Int32.ofNat o)), .val (.int (Int32.ofNat len)), .val .null, .val (.ref s.heap.size)] [.int (Int32.ofNat N.slots.size), .ref s.heap.size, .ref a])) rfl (by rw [hml]; rfl) c10 (argsL := [.ref s.heap.size, .int (Int32.ofNat N.slots.size)]) (rest := [.ref a]) rfl rfl (by show 2 * 0 + (1 + 0) ≤ _; decide) (hb hbytes d45) (⟨rfl, n1⟩)
  obtain ⟨rfl, q11⟩ := E11
  have hB11 := hB1.mv (X8.warmed.alike.symm.trans X11.warmed.alike) q11
  have c12 : Steps p.tables e below (s₁.setTop (entryFrame m #[.ref a, .ref b, .int (Int32.ofNat o), .int (Int32.ofNat len), .null] 6)) (T11.setTop (mkF m 48 #[.val (.ref a), .val (.ref b), .val (.int (Int32.ofNat o)), .val (.int (Int32.ofNat len)), .val .null, .val (.ref s.heap.size)] [.int 0, .ref a])) := g11
  obtain ⟨T13, X13, p13, bl13, sl13, st13⟩ := X11.finit hexec hown (wk W (.fieldLink "java/lang/String" 15 "java/lang/String" "coder" "B")) (Or.inr ⟨_, (wk W (.laysFinal "java/lang/String" "java/lang/String" "coder" "B"))⟩) (Or.inl ⟨rfl, hnm⟩) f2 (Or.inl rfl) hB11 (t := .byte) (by decide +kernel) rfl (g := (mkF m 48 #[.val (.ref a), .val (.ref b), .val (.int (Int32.ofNat o)), .val (.int (Int32.ofNat len)), .val .null, .val (.ref s.heap.size)] [.int 0, .ref a])) rfl (rest := []) rfl (hb hbytes d48)
  have c14 : Steps p.tables e below (s₁.setTop (entryFrame m #[.ref a, .ref b, .int (Int32.ofNat o), .int (Int32.ofNat len), .null] 6)) (T13.setTop (mkF m 54 #[.val (.ref a), .val (.ref b), .val (.int (Int32.ofNat o)), .val (.int (Int32.ofNat len)), .val .null, .val (.ref s.heap.size)] [.ref s.heap.size, .ref a])) := (c12.trans (st13 _ (Steps.refl _))).trans (by
    refine XS.aloadN X13.here hexec rfl (hb hbytes d51) rfl rfl ?_
    refine XS.aload X13.here hexec rfl (hb hbytes d52) rfl rfl ?_
    exact Steps.refl _)
  obtain ⟨T15, X15, p15, bl15, sl15, st15⟩ := X13.finit hexec hown (wk W (.fieldLink "java/lang/String" 9 "java/lang/String" "value" "[B")) (Or.inr ⟨_, (wk W (.laysFinal "java/lang/String" "java/lang/String" "value" "[B"))⟩) (Or.inl ⟨rfl, hnm⟩) f1 (Or.inl rfl) bl13 (t := (.array .byte)) (by decide +kernel) rfl (g := (mkF m 54 #[.val (.ref a), .val (.ref b), .val (.int (Int32.ofNat o)), .val (.int (Int32.ofNat len)), .val .null, .val (.ref s.heap.size)] [.ref s.heap.size, .ref a])) rfl (rest := []) rfl (hb hbytes d54)
  have c16 : Steps p.tables e below (s₁.setTop (entryFrame m #[.ref a, .ref b, .int (Int32.ofNat o), .int (Int32.ofNat len), .null] 6)) (T15.setTop (mkF m 57 #[.val (.ref a), .val (.ref b), .val (.int (Int32.ofNat o)), .val (.int (Int32.ofNat len)), .val .null, .val (.ref s.heap.size)] [])) := c14.trans (st15 _ (Steps.refl _))
  have ap := apart (Or.inr ⟨_, (wk W (.laysFinal "java/lang/String" "java/lang/String" "value" "[B"))⟩) (Or.inr ⟨_, (wk W (.laysFinal "java/lang/String" "java/lang/String" "coder" "B"))⟩) f1 f2 (t₁ := .array .byte) (t₂ := .byte) (by decide +kernel) (by decide +kernel) (by decide)
  have al := X8.warmed.alike.symm.trans X15.warmed.alike
  have n7 : T11.heap[s.heap.size]? = some N := by rw [q11]; exact n1.1
  exact ⟨T15, none, _, _, _, X15, by simp, rfl, by omega, (fun _ => rfl), ⟨rfl, _, N, bl15, ((Same.refl D _).set _ (by simp)).set _ (by simp), sl15, (Cell.slots_setSlot_ne _ ap).trans sl13, n1.keep al (p15.other hne (p13.other hne n7)), n2, by rw [al.findClass]; exact n3, n4, n5, fun y c h1 h2 => p15.other h1 (p13.other h1 (by rw [q11]; exact n6 y c h2)), by rw [p15.2.2, p13.2.2, q11]; exact z8⟩, fun fs hl => c16.trans (X15.returnOut hexec hret (hb hbytes d57) hl)⟩
end New4
namespace New1
def yN : MethodName := ⟨"java/lang/String", "<init>", "([C)V"⟩
abbrev yB : ByteArray := jdk_42_method_3_code
theorem d0 : decode yB 0 = .ok (.aload_n 0, 1) := by decide +kernel
theorem d1 : decode yB 1 = .ok (.aload_n 1, 1) := by decide +kernel
theorem d2 : decode yB 2 = .ok (.iconst 0, 1) := by decide +kernel
theorem d3 : decode yB 3 = .ok (.aload_n 1, 1) := by decide +kernel
theorem d4 : decode yB 4 = .ok (.arraylength, 1) := by decide +kernel
theorem d5 : decode yB 5 = .ok (.aconst_null, 1) := by decide +kernel
theorem d6 : decode yB 6 = .ok (.invokespecial 27, 3) := by decide +kernel
theorem d9 : decode yB 9 = .ok (.return_, 1) := by decide +kernel
def site : List Cond := [New4.tab] ++ initW "java/lang/String" 27 New4.yN
def tab : Cond := tabOf yN yB 2 none site
def P (a : Addr) (D : Cell) (fV fC : Field) (b : Addr) (A : Cell) (z : Int32) (args : Array Value) (s : State) : Prop := args = #[.ref a, .ref b] ∧ Blank "java/lang/String" a D s ∧ Found "java/lang/String" "value" "[B" fV s ∧ Found "java/lang/String" "coder" "B" fC s ∧ Ch b A s ∧ StaticIs s "java/lang/String" "COMPACT_STRINGS" "Z" (.int z) ∧ ¬ z = 0 ∧ 0 < A.slots.size ∧ A.slots.size ≤ 536870912 ∧ ∀ i, i < A.slots.size → ¬ 255 < cv A i
def E (a : Addr) (D : Cell) (fV fC : Field) (A : Cell) (r : Option Value) (s u : State) : Prop := Got a D fV fC A 0 A.slots.size r s u
/-- new String(chars), not empty, no char above 255: a Latin-1 String of their low bytes -/
theorem law (l : Launch) (a : Addr) (D : Cell) (fV fC : Field) (b : Addr) (A : Cell) (z : Int32) : Law l yN 2 1 3 52 yB 2 none site (P a D fV fC b A z) (E a D fV fC A) [⟨a, fC.slot⟩, ⟨a, fV.slot⟩] 1 A.slots.size := by
  refine Law.of_walk (plainFor_of_name (by decide +kernel)) (by decide +kernel) (by decide +kernel) (by decide) (fun _ _ h => by rw [h.1]; rfl) (fun _ U U' hal hh h => ⟨h.1, h.2.1.mv hal hh, h.2.2.1.al hal, h.2.2.2.1.al hal, h.2.2.2.2.1.mv hal hh, h.2.2.2.2.2.1.there hal hh, h.2.2.2.2.2.2⟩) (fun r U U' V V' h1 hal h2 h => Got.mv r U U' V V' h1 hal h2 h) ?_
  intro p e s m args below meth c s₁ X0 hexec hbytes hml hret hlk hnm hown hh0 W hP
  obtain ⟨rfl, hB, f1, f2, hA, s1, hz, l0, l2, hp⟩ := hP
  have c1 : Steps p.tables e below (s₁.setTop (entryFrame m #[.ref a, .ref b] 2)) (s₁.setTop (mkF m 0 #[.val (.ref a), .val (.ref b)] [])) := entry rfl
  have c2 : Steps p.tables e below (s₁.setTop (entryFrame m #[.ref a, .ref b] 2)) (s₁.setTop (mkF m 6 #[.val (.ref a), .val (.ref b)] [.null, .int (Int32.ofNat A.slots.size), .int 0, .ref b, .ref a])) := c1.trans (by
    refine XS.aloadN X0.here hexec rfl (hb hbytes d0) rfl rfl ?_
    refine XS.aloadN X0.here hexec rfl (hb hbytes d1) rfl rfl ?_
    refine iconstV X0.here hexec rfl 0 (hb hbytes d2) (by decide) ?_
    refine XS.aloadN X0.here hexec rfl (hb hbytes d3) rfl rfl ?_
    refine X0.alen hexec (hA.1.mv X0.warmed.alike hh0) rfl rfl (hb hbytes d4) ?_
    refine XS.aconstNull X0.here hexec rfl (hb hbytes d5) ?_
    exact Steps.refl _)
  obtain ⟨v3, T3, X3, E3, g3⟩ := X0.callN hexec (New4.law l a D fV fC b A z 0 A.slots.size) rfl hown (wks W (initW "java/lang/String" 27 New4.yN)) (W New4.tab (by simp only [site, List.mem_cons, List.mem_append, true_or, or_true])) (W := 0) (Nat.le_of_ble_eq_true rfl) (Nat.le_of_ble_eq_true rfl) (Nat.le_refl _) (by show 0 + A.slots.size ≤ A.slots.size; omega) (g := (mkF m 6 #[.val (.ref a), .val (.ref b)] [.null, .int (Int32.ofNat A.slots.size), .int (Int32.ofNat 0), .ref b, .ref a])) rfl (by rw [hml]; rfl) c2 (argsL := [.ref b, .int (Int32.ofNat 0), .int (Int32.ofNat A.slots.size), .null]) (rest := []) rfl rfl (by show 2 * 0 + 0 ≤ _; decide) (hb hbytes d6) (⟨rfl, hB.mv X0.warmed.alike hh0, f1.al X0.warmed.alike, f2.al X0.warmed.alike, hA.mv X0.warmed.alike hh0, s1.there X0.warmed.alike hh0, hz, l0, by omega, l2, fun i hi => by rw [Nat.zero_add]; exact hp i hi⟩)
  have e0 := Got.mv _ s₁ s _ _ hh0.symm (Vm.Alike.refl _) rfl E3
  obtain rfl := e0.1
  have c4 : Steps p.tables e below (s₁.setTop (entryFrame m #[.ref a, .ref b] 2)) (T3.setTop (mkF m 9 #[.val (.ref a), .val (.ref b)] [])) := g3
  exact ⟨T3, none, _, _, _, X3, by simp, rfl, by omega, (fun _ => rfl), e0, fun fs hl => c4.trans (X3.returnOut hexec hret (hb hbytes d9) hl)⟩
theorem pays {l : Launch} {R : Room} {p : Program} {e : Env} {below : List Frame} {s : State} {sargs : Array Value} {len W : Nat} (a : Addr) (D : Cell) (fV fC : Field) (b : Addr) (A : Cell) (z : Int32) (htab : tab.before sargs s = true) (hfr : 4 ≤ R.frames) (hlo : W + 65 ≤ R.locals) :
    Back l R p e below s sargs yN len W (fun A₁ a₁ => A₁.cells + 1 ≤ R.cells ∧ A₁.slots + A.slots.size ≤ R.slots ∧ P a D fV fC b A z a₁ A₁.U) (fun A₁ _ v₁ B₁ => E a D fV fC A v₁ A₁.U B₁.U ∧ B₁.locs = A₁.locs ++ [⟨a, fC.slot⟩, ⟨a, fV.slot⟩] ∧ B₁.cells = A₁.cells + 1 ∧ B₁.slots = A₁.slots + A.slots.size) :=
  (law l a D fV fC b A z).pays htab hfr (by omega)
end New1
end StrChars
namespace StrChars.Road
open Jvm Sem ClassFile Op Lib Jvm.Stand Jvm.Free Jvm.Free.XT
open Jvm.Lib.Cold (StaticIs)
abbrev ST : String := "java/lang/String"
/-- every table word that New1's law asks, flat -/
abbrev words : List Jvm.Cond := [.code New1.yN New1.yB 2 none, .initialized ST, .methodLink ST 27 New4.yN, .instanceMethod New4.yN,
  .code New4.yN New4.yB 6 none, .fieldLink ST 38 ST "COMPACT_STRINGS" "Z", .laysFinal ST ST "value" "[B", .fieldLink ST 9 ST "value" "[B", .laysFinal ST ST "coder" "B", .fieldLink ST 15 ST "coder" "B",
  .methodLink ST 1 Lib.objectInit, .instanceMethod Lib.objectInit, .code Lib.objectInit ⟨#[0xb1]⟩ 1 none, .methodLink ST 177 Cmp3.yN, .static Cmp3.yN, .methodLink ST 47 CodL.yN, .static CodL.yN,
  .code Cmp3.yN Cmp3.yB 6 (some (.array .byte)), .initialized U16, .arrayClass .byte, .methodLink U16 115 Cmp5.yN, .static Cmp5.yN, .code Cmp5.yN Cmp5.yB 7 (some .int), .code CodL.yN CodL.yB 2 (some .byte)]
theorem tab_of {a : Array Value} {s : State} (h : ∀ w ∈ words, w.before a s = true) : New1.tab.before a s = true := by
  have h5 : Cmp5.tab.before a s = true := unparts (wk h (.code Cmp5.yN Cmp5.yB 7 (some .int))) (wks h (.initialized Cmp5.yN.cls :: Cmp5.site))
  have hc : CodL.tab.before a s = true := unparts (wk h (.code CodL.yN CodL.yB 2 (some .byte))) (wks h (.initialized CodL.yN.cls :: CodL.site))
  have q5 : ∀ w ∈ Cmp5.tab :: words, w.before a s = true := fun w hw => (List.mem_cons.mp hw).elim (fun e => e ▸ h5) (h w)
  have h3 : Cmp3.tab.before a s = true := unparts (wk q5 (.code Cmp3.yN Cmp3.yB 6 (some (.array .byte)))) (wks q5 (.initialized Cmp3.yN.cls :: Cmp3.site))
  have q3 : ∀ w ∈ Cmp3.tab :: CodL.tab :: words, w.before a s = true := fun w hw => (List.mem_cons.mp hw).elim (fun e => e ▸ h3) fun hw => (List.mem_cons.mp hw).elim (fun e => e ▸ hc) (h w)
  have h4 : New4.tab.before a s = true := unparts (wk q3 (.code New4.yN New4.yB 6 none)) (wks q3 (.initialized New4.yN.cls :: New4.site))
  have q4 : ∀ w ∈ New4.tab :: words, w.before a s = true := fun w hw => (List.mem_cons.mp hw).elim (fun e => e ▸ h4) (h w)
  exact unparts (wk q4 (.code New1.yN New1.yB 2 none)) (wks q4 (.initialized New1.yN.cls :: New1.site))
/-- the words ride from the start Z to the walk's own state -/
theorem moved {Z s : State} {a0 args : Array Value} (hZ : Z.Warmed39 s.vm) (hw : ∀ d ∈ words, d.before a0 Z = true) : ∀ d ∈ words, d.before args s = true := fun d hd => by
  have q := hw d hd
  have t : ∀ d ∈ words, d = .arrayClass .byte ∨ (d.onTables && d.keepsFace) = true := by decide +kernel
  rcases t d hd with rfl | t
  · exact RoadKit.mvA hZ q
  · exact RoadKit.mv hZ q t
/-- WHAT COMES BACK, over the tables of the start Z: h the heap at the call, h' behind it -/
def Q (Z : State) (x : Addr) (A : Cell) (h : Heap) (v : Option Value) (h' : Heap) (L : List Loc) : Prop := v = none ∧ (∀ y ∈ L, y.base = x) ∧ RoadKit.Keep h h' [x] ∧ h'.size = h.size + 1 ∧ RoadKit.Exa Z h' x ST ∧ RoadKit.Fld Z h' x ST "value" "[B" (.ref h.size) ∧ RoadKit.Fld Z h' x ST "coder" "B" (.int 0) ∧
  (∃ V : Cell, RoadKit.Arr Z h' h.size V .byte ∧ V.vm = .none ∧ Z.vm.findClass "[B" = some V.cls ∧ V.slots.size = A.slots.size ∧ ∀ j, j < A.slots.size → V.slots[j]? = some (.int (lo8 (cv A j)))) ∧
  ∀ (O n d : String) (w : Value), RoadKit.Fld Z h x O n d w → RoadKit.slotOf Z O n d ≠ RoadKit.slotOf Z ST "value" "[B" → RoadKit.slotOf Z O n d ≠ RoadKit.slotOf Z ST "coder" "B" → RoadKit.Fld Z h' x O n d w
/-- **new String(chars) AT A CALL, IN THE ROAD'S FORM**: for specialBack behind newO: x the fresh String, b the char[] with the cell A -/
theorem back {p : Program} {l : Launch} {e : Env} {R : Room} {s : State} {args : Array Value} {below : List Frame} {len W : Nat} {Z : State} {a0 : Array Value} {h : Heap} (hZ : Z.Warmed39 s.vm) (hw : ∀ d ∈ words, d.before a0 Z = true) {kI : Nat} (wi : (Jvm.Cond.instantiable ST kI).before a0 Z = true)
    {x b : Addr} {A : Cell} {z : Int32} {v0 c0 : Value} (E : RoadKit.Exa Z h x ST) (V : RoadKit.Fld Z h x ST "value" "[B" v0) (C : RoadKit.Fld Z h x ST "coder" "B" c0) (K : RoadKit.Arr Z h b A .char) (hty : Typed .char A) (S : RoadKit.Sta Z h ST "COMPACT_STRINGS" "Z" (.int z)) (hz : ¬ z = 0)
    (l0 : 0 < A.slots.size) (l2 : A.slots.size ≤ 536870912) (hp : ∀ i, i < A.slots.size → ¬ 255 < cv A i) (hfr : 4 ≤ R.frames) (hlo : W + 65 ≤ R.locals) :
    Back l R p e below s args New1.yN len W (fun P a => a = #[.ref x, .ref b] ∧ P.U.heap = h ∧ P.cells + 1 ≤ R.cells ∧ P.slots + A.slots.size ≤ R.slots)
      (fun P _ v B => ∃ L, Q Z x A h v B.U.heap L ∧ B.locs = P.locs ++ L ∧ B.cells = P.cells + 1 ∧ B.slots = P.slots + A.slots.size) := by
  intro m meth c P g ig mk a X hg hsize hdg hW hn hp'
  obtain ⟨rfl, rfl, r1, r2⟩ := hp'
  have al : Z.vm.Alike P.U.vm := hZ.alike.trans X.warmed.alike
  obtain ⟨D, cfV, kV, iV, fV, hD, gV, stV, knV, obV, asV, slV⟩ := id V
  obtain ⟨D', cfC, kC, iC, fC, hD', gC, stC, -, -, asC, slC⟩ := id C
  cases hD.symm.trans hD'
  obtain ⟨D2, kD, e1, e2, e3, e4, e5⟩ := id E
  cases hD.symm.trans e1
  obtain ⟨c2, k2, i1, i2, i3, -⟩ := Cond.instantiable_spec wi
  cases e2.symm.trans i1
  cases e3.symm.trans i2
  obtain ⟨kU, u1, u2⟩ := al.2.2 _ _ e3
  have hB : Blank ST x D P.U := ⟨hD, ⟨knV, fun q hq => by rw [hq] at obV; cases obV⟩, by rw [al.findClass]; exact e2, kU, u1, by rw [u2]; exact i3, by rw [u2]; exact e5 i3⟩
  have F1 : Found ST "value" "[B" fV P.U := ⟨SBG.found_only al ⟨cfV, kV, iV, gV⟩, stV⟩
  have F2 : Found ST "coder" "B" fC P.U := ⟨SBG.found_only al ⟨cfC, kC, iC, gC⟩, stC⟩
  have hA : Ch b A P.U := ⟨⟨K.1, State.isArrayOf_alike al K.2.1, K.2.2, by omega⟩, hty⟩
  have hS : StaticIs P.U ST "COMPACT_STRINGS" "Z" (.int z) := by
    obtain ⟨cfS, iS, kS, fS, st, cS, t1, t2, t3, t4, t5, t6, t7⟩ := S
    exact StaticIs.there (s := { Z with heap := P.U.heap }) ⟨cfS, iS, kS, fS, st, cS, t1, t2, t3, t4, t5, (fun q => by rw [q] at t6; cases t6), t7⟩ al rfl
  obtain ⟨v, B, X', ⟨⟨hv, E', V', q1, q2, q3, q4, q5, q6, q7, q8, q9, q10, q11⟩, hl, hc, hs⟩, st⟩ := New1.pays x D fV fC b A z (tab_of (moved hZ hw)) hfr hlo m meth c P g ig mk _ X hg hsize hdg hW hn ⟨r1, r2, rfl, hB, F1, F2, hA, hS, hz, l0, l2, hp⟩
  have al' : Z.vm.Alike B.U.vm := hZ.alike.trans X'.warmed.alike
  have hsz : E'.slots.size = D.slots.size := by
    obtain ⟨-, -, -, kB, w1, w2, w3⟩ := q1
    obtain ⟨kB', y1, y2⟩ := al'.2.2 _ _ e3
    rw [q2.2.1] at w1
    cases w1.symm.trans y1
    rw [w3, e5 i3, y2]
  refine ⟨v, B, X', ⟨_, ⟨hv, ?_, ⟨by omega, fun y cy hy hn' => q10 y cy (by simpa using hn') hy, fun y cy hy => ?_⟩, q11, ⟨E', _, q1.1, by rw [q2.2.1]; exact e2, by rw [q2.2.1]; exact e3, by rw [q2.1]; exact obV, fun _ => by rw [hsz]; exact e5 i3⟩,
    ⟨E', cfV, kV, iV, fV, q1.1, gV, stV, by rw [q2.1]; exact knV, by rw [q2.1]; exact obV, by rw [q2.2.1]; exact asV, q3⟩, ⟨E', cfC, kC, iC, fC, q1.1, gC, stC, by rw [q2.1]; exact knV, by rw [q2.1]; exact obV, by rw [q2.2.1]; exact asC, q4⟩,
    ⟨V', ⟨q5.1, State.isArrayOf_alike al'.symm q5.2.1, q5.2.2.1⟩, q6, by rw [← al'.findClass]; exact q7, q8, fun j hj => by have := q9 j hj; rwa [Nat.zero_add] at this⟩, fun O n d w F n1 n2 => ?_⟩, hl, hc, hs⟩, st⟩
  · intro y hy
    simp only [List.mem_cons, List.not_mem_nil, or_false] at hy
    rcases hy with rfl | rfl <;> rfl
  · by_cases q : y = x
    · subst q
      cases hD.symm.trans hy
      exact ⟨E', q1.1, q2.2.1, q2.1, hsz⟩
    · exact ⟨cy, q10 y cy q hy, rfl, rfl, rfl⟩
  · obtain ⟨D3, cf, k, i, f, g1, g2, g3, g4, g5, g6, g7⟩ := F
    cases hD.symm.trans g1
    simp only [RoadKit.slotOf, g2, gV, gC, Option.map_some, Option.getD_some] at n1 n2
    exact ⟨E', cf, k, i, f, q1.1, g2, g3, by rw [q2.1]; exact g4, by rw [q2.1]; exact g5, by rw [q2.2.1]; exact g6, by rw [q2.2.2 f.slot (by simp [n1, n2])]; exact g7⟩
end StrChars.Road
namespace StrChars.Road
open Jvm Sem ClassFile Op Lib Jvm.Stand Jvm.Free Jvm.Free.XT
/-- WHAT COMES BACK, the byte[] as a list of values -/
def QA (Z : State) (x : Addr) (zn : Int32) (cs : List Int32) (h : Heap) (v : Option Value) (h' : Heap) (L : List Loc) : Prop := v = none ∧ (∀ y ∈ L, y.base = x) ∧ RoadKit.Keep h h' [x] ∧ h'.size = h.size + 1 ∧ RoadKit.Exa Z h' x ST ∧ RoadKit.Fld Z h' x ST "value" "[B" (.ref h.size) ∧ RoadKit.Fld Z h' x ST "coder" "B" (.int 0) ∧
  (∃ kb, Z.vm.findClass "[B" = some kb ∧ RoadKit.Arv Z h' h.size kb .byte zn (cs.map fun c => .int (lo8 c)) (.int 0)) ∧
  ∀ (O n d : String) (w : Value), RoadKit.Fld Z h x O n d w → RoadKit.slotOf Z O n d ≠ RoadKit.slotOf Z ST "value" "[B" → RoadKit.slotOf Z O n d ≠ RoadKit.slotOf Z ST "coder" "B" → RoadKit.Fld Z h' x O n d w
/-- **new String(chars) AT A CALL, THE ARRAYS AS LISTS**: the char[] at b holds cs, not empty, no char above 255 -/
theorem backArv {p : Program} {l : Launch} {e : Env} {R : Room} {s : State} {args : Array Value} {below : List Frame} {len W : Nat} {Z : State} {a0 : Array Value} {h : Heap} (hZ : Z.Warmed39 s.vm) (hw : ∀ d ∈ words, d.before a0 Z = true) {kI : Nat} (wi : (Jvm.Cond.instantiable ST kI).before a0 Z = true)
    {x b : Addr} {k : ClassId} {zn z : Int32} {cs : List Int32} {dv v0 c0 : Value} (E : RoadKit.Exa Z h x ST) (V : RoadKit.Fld Z h x ST "value" "[B" v0) (C : RoadKit.Fld Z h x ST "coder" "B" c0) (K : RoadKit.Arv Z h b k .char zn (cs.map Value.int) dv) (S : RoadKit.Sta Z h ST "COMPACT_STRINGS" "Z" (.int z)) (hz : ¬ z = 0)
    (hlen : zn.toNatClampNeg = cs.length) (h0 : 0 < cs.length) (hbig : cs.length ≤ 536870912) (hall : ∀ c ∈ cs, ¬ 255 < c) (hfr : 4 ≤ R.frames) (hlo : W + 65 ≤ R.locals) :
    Back l R p e below s args New1.yN len W (fun P a => a = #[.ref x, .ref b] ∧ P.U.heap = h ∧ P.cells + 1 ≤ R.cells ∧ P.slots + cs.length ≤ R.slots)
      (fun P _ v B => ∃ L, QA Z x zn cs h v B.U.heap L ∧ B.locs = P.locs ++ L ∧ B.cells = P.cells + 1 ∧ B.slots = P.slots + cs.length) := by
  obtain ⟨A, K1, K2, K3, K4, K5, K6⟩ := K
  have e : A.slots.size = cs.length := K3.trans hlen
  have hat : ∀ (i : Nat) (hi : i < cs.length), A.slots[i]? = some (.int cs[i]) := fun i hi => by rw [K5 i (by omega)]; simp [List.getD_eq_getElem?_getD, hi]
  have hcv : ∀ (i : Nat) (hi : i < cs.length), cv A i = cs[i] := fun i hi => by unfold cv; rw [hat i hi]
  have hty : Typed .char A := fun i v hv => by
    have hi : i < A.slots.size := (Array.getElem?_eq_some_iff.mp hv).1
    have q := K5 i hi
    rw [hv] at q
    rw [Option.some.inj q]
    exact K6 i hi
  refine Back.mono (back hZ hw wi E V C K1 hty S hz (by omega) (by omega) (fun i hi => by rw [hcv i (by omega)]; exact hall _ (List.getElem_mem _)) hfr hlo) (fun P a hp => ⟨hp.1, hp.2.1, hp.2.2.1, by rw [e]; exact hp.2.2.2⟩) (fun P a v B hp hq => ?_)
  obtain ⟨L, ⟨q1, q2, q3, q4, q5, q6, q7, ⟨V', v1, v2, v3, v4, v5⟩, q9⟩, hl, hc, hs⟩ := hq
  refine ⟨L, ⟨q1, q2, q3, q4, q5, q6, q7, ⟨V'.cls, v3, V', v1, rfl, by rw [v4, e, hlen], K4, fun i hi => ?_, fun i hi => ?_⟩, q9⟩, hl, hc, by rw [hs, e]⟩
  · have hi' : i < cs.length := by omega
    rw [v5 i (by omega), hcv i hi']; simp [List.getD_eq_getElem?_getD, hi']
  · have hi' : i < cs.length := by omega
    simp only [List.getD_eq_getElem?_getD, List.getElem?_map, List.getElem?_eq_getElem hi', Option.map_some, Option.getD_some]
    exact fits_lo8 _
end StrChars.Road
namespace StrChars.Road
open Jvm Sem ClassFile Op Lib Jvm.Stand Jvm.Free Jvm.Free.XT
/-- WHAT COMES BACK, in the writer's own shape -/
def QV (Z : State) (x : Addr) (N : Int32) (bs : List Int32) (h : Heap) (n0 : Nat) (v : Option Value) (h' : Heap) (L : List Loc) : Prop := v = none ∧ RoadKit.Fr n0 L ∧ RoadKit.Keep h h' [x] ∧ RoadKit.Exa Z h' x ST ∧ RoadKit.Fld Z h' x ST "coder" "B" (.int 0) ∧
  ∃ (t : Addr) (kb : ClassId), n0 ≤ t ∧ h.size ≤ t ∧ ¬ t = x ∧ RoadKit.Fld Z h' x ST "value" "[B" (.ref t) ∧ RoadKit.Arv Z h' t kb .byte N (bs.map Value.int) (.int 0)
/-- **new String(chars) AT A CALL, FOR THE WRITER**: a char[] of n known ints, each 0 to 255 -/
theorem backV {p : Program} {l : Launch} {e : Env} {R : Room} {s : State} {args : Array Value} {below : List Frame} {len W : Nat} {Z : State} {a0 : Array Value} {h : Heap} (hZ : Z.Warmed39 s.vm) (hw : ∀ d ∈ words, d.before a0 Z = true) {kI : Nat} (wi : (Jvm.Cond.instantiable ST kI).before a0 Z = true)
    {x b : Addr} {kC : ClassId} {cs bs : List Int32} {d v0 c0 : Value} {z N : Int32} {n n0 : Nat} (hx0 : n0 ≤ x) (hh0 : n0 ≤ h.size) (E : RoadKit.Exa Z h x ST) (V : RoadKit.Fld Z h x ST "value" "[B" v0) (C : RoadKit.Fld Z h x ST "coder" "B" c0) (K : RoadKit.Arv Z h b kC .char N (cs.map Value.int) d) (S : RoadKit.Sta Z h ST "COMPACT_STRINGS" "Z" (.int z)) (hz : ¬ z = 0)
    (hn : cs.length = n) (hN : N = Int32.ofNat n) (l0 : 0 < n) (l2 : n ≤ 4000) (hp : ∀ c ∈ cs, ¬ c < 0 ∧ ¬ (255 : Int32) < c) (hb : bs = cs.map (fun c => c.toInt8.toInt32)) (hfr : 4 ≤ R.frames) (hlo : W + 65 ≤ R.locals) :
    Back l R p e below s args (⟨"java/lang/String", "<init>", "([C)V"⟩ : MethodName) len W (fun P a => a = #[.ref x, .ref b] ∧ P.U.heap = h ∧ P.cells + 1 ≤ R.cells ∧ P.slots + n ≤ R.slots)
      (fun P _ v B => ∃ L, QV Z x N bs h n0 v B.U.heap L ∧ B.locs = P.locs ++ L ∧ B.cells = P.cells + 1 ∧ B.slots = P.slots + n) := by
  subst hn hN hb
  refine Back.mono (backArv hZ hw wi E V C K S hz (n32 (by omega)) l0 (by omega) (fun c hc => (hp c hc).2) hfr hlo) (fun P a hp => hp) (fun P a v B hp hq => ?_)
  obtain ⟨L, ⟨q1, q2, q3, q4, q5, q6, q7, ⟨kb, v1, v2⟩, q9⟩, hl, hc, hs⟩ := hq
  exact ⟨L, ⟨q1, fun y hy => by rw [q2 y hy]; exact hx0, q3, q5, q7, h.size, kb, hh0, Nat.le_refl _, Nat.ne_of_gt E.lt, q6, by rw [List.map_map]; exact v2⟩, hl, hc, hs⟩
end StrChars.Road
end Jvm.Pilot.@@N@@
namespace Jvm.Pilot.@@N@@
open Jvm Jvm.ClassFile Sem Op Lib Jvm.Free Jvm.Stand Jvm.LawKit Jvm.RoadKit Bundle Jvm.OwnKit Jvm.Pilot.@@N@@.Jvm.D
section StrCalls
variable {p : Program} {l : Launch} {e : Env} {R : Room} {s : State} {m : MethodId} {args : Array Value} {below : List Frame} {meth : Method} {c : Code}
  {own : String} {bytes : ByteArray} {maxL : Nat} {ret : Option FieldType} {nm : String} {Z : State} {EL : List (String × Nat)} {nw : Bool} {us : List Addr}
  {T : State} {h : Heap} {cells slots : Nat} {Q : Option Value → Heap → Prop} {kk nn : Nat} {a0 : Array Value} {pc : Nat} {Ls : Array Slot} {st : List Value}

theorem pd_len : parseMethodDescriptor "()I" = some ⟨[], some .int⟩ := by decide +kernel
theorem pd_cha : parseMethodDescriptor "(I)C" = some ⟨[.int], some .char⟩ := by decide +kernel
theorem pd_seq : parseMethodDescriptor "(Ljava/lang/Object;)Z" = some ⟨[.object "java/lang/Object"], some .boolean⟩ := by decide +kernel
theorem pd_emp : parseMethodDescriptor "()Z" = some ⟨[], some .boolean⟩ := by decide +kernel
theorem pd_sin : parseMethodDescriptor "([C)V" = some ⟨[.array .char], none⟩ := by decide +kernel
abbrev yLen : MethodName := ⟨"java/lang/String", "length", "()I"⟩
abbrev yCha : MethodName := ⟨"java/lang/String", "charAt", "(I)C"⟩
abbrev ySeq : MethodName := ⟨"java/lang/String", "equals", "(Ljava/lang/Object;)Z"⟩
abbrev yEmp : MethodName := ⟨"java/lang/String", "isEmpty", "()Z"⟩
abbrev ySin : MethodName := ⟨"java/lang/String", "<init>", "([C)V"⟩
theorem up255 {cs : List Int32} (h : ∀ c ∈ cs, ¬ c < 0 ∧ ¬ (255 : Int32) < c) : ∀ c ∈ cs, ¬ c < 0 ∧ ¬ (65535 : Int32) < c := fun c hc => ⟨(h c hc).1, fun q => (h c hc).2 (by
  have h1 := (h c hc).2
  rw [Int32.lt_iff_toInt_lt] at q ⊢
  have : (65535 : Int32).toInt = 65535 := by decide
  have : (255 : Int32).toInt = 255 := by decide
  omega)⟩
/-- new String(char[]) of one or more signs below 256 -/
theorem g_strNew (X : St p l e R s m args below meth c own bytes maxL ret nm Z EL nw us T h cells slots) {ix : Nat} {a b : Addr} {kC : ClassId} {cs : List Int32} {vs : List Value} {dv v0 c0 : Value} {zc N0 : Int32} {k : Nat} (w1 : (Jvm.Cond.methodLink own ix ySin).before a0 Z = true) (w2 : (Jvm.Cond.instanceMethod ySin).before a0 Z = true) (w4 : (Jvm.Cond.code ySin StrChars.New1.yB 2 none).before a0 Z = true)
    (hws : ∀ d ∈ StrChars.Road.words, d.before a0 Z = true) (wI : (Jvm.Cond.instantiable "java/lang/String" k).before a0 Z = true) (C : Sta Z h "java/lang/String" "COMPACT_STRINGS" "Z" (.int zc)) (hz : ¬ zc = 0) (E : Exa Z h a "java/lang/String") (V : Fld Z h a "java/lang/String" "value" "[B" v0) (Co : Fld Z h a "java/lang/String" "coder" "B" c0)
    (A : Arv Z h b kC .char N0 vs dv) (hvs : vs = cs.map Value.int) (n : Nat) (hn : cs.length = n) (hN : N0 = Int32.ofNat n) (l0 : 0 < n) (l2 : n ≤ 4000) (hp255 : ∀ c ∈ cs, ¬ c < 0 ∧ ¬ (255 : Int32) < c) (ha : a ∈ us) (hsize : Ls.size = maxL)
    (W : Nat) (hW : (st.map fun v => v.category).sum ≤ W) (hf : 4 ≤ R.frames) (hl : W + 65 ≤ R.locals) {ck cs' : Nat} (hck : cells + 1 = ck) (hcs : slots + n = cs') (hc : ck ≤ R.cells) (hs : cs' ≤ R.slots) (hd : decode bytes pc = .ok (.invokespecial ix, 3)) (pc' : Nat) (hp : pc + 3 = pc')
    (K : ∀ T' h', St p l e R s m args below meth c own bytes maxL ret nm Z EL nw us T' h' ck cs' → Keep h h' [a] →
      (∃ (t : Addr) (kb : ClassId), Exa Z h' a "java/lang/String" ∧ Fld Z h' a "java/lang/String" "coder" "B" (.int 0) ∧ Fld Z h' a "java/lang/String" "value" "[B" (.ref t) ∧ Arv Z h' t kb .byte (Int32.ofNat cs.length) ((cs.map fun c => c.toInt8.toInt32).map Value.int) (.int 0) ∧ (∀ c ∈ cs, ¬ c < 0 ∧ ¬ (255 : Int32) < c) ∧ cs.length ≤ 4000 ∧ h.size ≤ t) →
      Goes p e below s Z EL nw Q kk nn (T'.setTop (mkF m pc' Ls st))) : Goes p e below s Z EL nw Q kk nn (T.setTop (mkF m pc Ls (.ref b :: .ref a :: st))) := by
  subst hp hck hcs hvs hN
  obtain ⟨cx, vm0, locs, Y, N, eT, hS, hZ, hown, hE, hC, hU, hWn⟩ := X
  obtain ⟨u1, u2, u3⟩ := hU a ha
  obtain ⟨v, vm₁, B, -, Y', ⟨L, ⟨rfl, N', K', E', Co', t, kb, -, q2, -, V', A'⟩, q4, q5, q6⟩, stp⟩ := Y.specialBack cx.1 (own := own) (index := ix) (y := ySin) rfl hown (mvT (s := s.setVm vm0) hZ w1) (mvT (s := s.setVm vm0) hZ w2) (mvT (s := s.setVm vm0) hZ w4) (by decide)
    (StrChars.Road.backV (W := W) (s := s.setVm vm0) hZ hws wI (bs := cs.map fun c => c.toInt8.toInt32) u1 hE.1 E V Co A C hz hn rfl l0 l2 hp255 rfl hf hl) (g := mkF m pc Ls (.ref b :: .ref a :: st)) rfl (by rw [cx.2.2.1]; exact hsize) (Steps.refl _) (a := a) (argsL := [.ref b]) (rest := st) (lenOf pd_sin rfl) rfl (by show 2 * 0 + _ ≤ _; omega) (hb cx.2.1 hd)
    (fun _ _ => ⟨rfl, eT, hc, hs⟩)
  dsimp only [Pt.U, Pt.locs, Pt.cells, Pt.slots] at q4 q5 q6 Y'
  have hsf : ∀ x ∈ [a], Safe Z EL vm0 h x := fun x hx => by cases List.mem_singleton.mp hx; exact u3
  refine (K B.U B.U.heap ⟨cx, vm0, locs ++ L, ?_, N.app N', rfl, ⟨hS.1, hS.2.mono K'.1⟩, hZ, hown, ext_keep hE K' (fun x hx => by cases List.mem_singleton.mp hx; exact u1), hC.trans (CHr.keep K' hsf hC.1), fun x hx => ⟨(hU x hx).1, Nat.lt_of_lt_of_le (hU x hx).2.1 K'.1, Safe.keep K' hsf hC.1 (hU x hx).2.2⟩, hWn⟩ K' ⟨t, kb, E', Co', V', by rw [hn]; exact A', hp255, by omega, q2⟩).step fun t k => stp.trans k
  rw [q4, q5, q6] at Y'; exact Y'
end StrCalls
end Jvm.Pilot.@@N@@
namespace Jvm.Pilot.@@N@@
open Jvm Jvm.ClassFile Sem Op Lib Jvm.Free Jvm.Stand Jvm.LawKit Jvm.RoadKit Bundle Jvm.OwnKit Jvm.Pilot.@@N@@.Jvm.D
def EL : List (String × Nat) := consts_1
abbrev nw : Bool := false
/-- what holds of the tables and of the JDK's statics at the start -/
def Gl (Z : State) (a0 : Array Value) : Prop := (∀ d ∈ tables_1, d.before a0 Z = true) ∧ EW Z a0 EL ∧ (∀ a ∈ Bundle.stringAtoms, a.before a0 Z = true) ∧
  (∃ zc : Int32, Sta Z Z.heap "java/lang/String" "COMPACT_STRINGS" "Z" (.int zc) ∧ ¬ zc = 0) ∧
  (∃ fm : Value, Sta Z Z.heap "jdk/internal/util/Preconditions" "SIOOBE_FORMATTER" "Ljava/util/function/BiFunction;" fm ∧ fm.isRef = true)
theorem hwsV {Z : State} {a0 : Array Value} (hw : ∀ d ∈ tables_1, d.before a0 Z = true) : ∀ d ∈ StrChars.Road.words, d.before a0 Z = true := fun d hd => hw d ((by decide +kernel : ∀ d ∈ StrChars.Road.words, d ∈ tables_1) d hd)
theorem pd_0 : parseMethodDescriptor "(I)Ljava/lang/String;" = some ⟨[.int], (some (.object "java/lang/String"))⟩ := by decide +kernel
theorem pd_1 : parseMethodDescriptor "(I)I" = some ⟨[.int], (some .int)⟩ := by decide +kernel
theorem pd_2 : parseMethodDescriptor "(II)Z" = some ⟨[.int, .int], (some .boolean)⟩ := by decide +kernel
theorem pd_3 : parseMethodDescriptor "(Ljava/lang/String;Ljava/lang/String;)V" = some ⟨[(.object "java/lang/String"), (.object "java/lang/String")], none⟩ := by decide +kernel
theorem pd_4 : parseMethodDescriptor "(Ljava/lang/Object;)Z" = some ⟨[(.object "java/lang/Object")], (some .boolean)⟩ := by decide +kernel
theorem pd_5 : parseMethodDescriptor "(Ljava/lang/String;)Z" = some ⟨[(.object "java/lang/String")], (some .boolean)⟩ := by decide +kernel
theorem pd_6 : parseMethodDescriptor "(ZILjava/lang/String;II)Z" = some ⟨[.boolean, .int, (.object "java/lang/String"), .int, .int], (some .boolean)⟩ := by decide +kernel
theorem pd_7 : parseMethodDescriptor "([BI[BII)Z" = some ⟨[(.array .byte), .int, (.array .byte), .int, .int], (some .boolean)⟩ := by decide +kernel
theorem pd_8 : parseMethodDescriptor "(BB)Z" = some ⟨[.byte, .byte], (some .boolean)⟩ := by decide +kernel
abbrev nnP (p : Int32) : Int32 := XT.ushr p (30 : Int32) &&& (3 : Int32)
def mkL (p : Int32) : List Int32 := if nnP p = 0 then [] else if nnP p = 1 then [p &&& 255] else if nnP p = 2 then [p &&& 255, XT.ushr p 8 &&& 255] else [p &&& 255, XT.ushr p 8 &&& 255, XT.ushr p 16 &&& 255]
def sameB (p q : Int32) : Bool := decide (nnP p = nnP q) && ((decide (nnP p < 1) || decide (fI (p &&& 255) = fI (q &&& 255))) && ((decide (nnP p < 2) || decide (fI (XT.ushr p 8 &&& 255) = fI (XT.ushr q 8 &&& 255))) && (decide (nnP p < 3) || decide (fI (XT.ushr p 16 &&& 255) = fI (XT.ushr q 16 &&& 255)))))
theorem and3 (x : Int32) : x &&& 3 = 0 ∨ x &&& 3 = 1 ∨ x &&& 3 = 2 ∨ x &&& 3 = 3 := by
  have h := c_and x 3 (by decide)
  have e3 : (3 : Int32).toInt = 3 := by decide
  have e : ∀ k : Int32, (x &&& 3).toInt = k.toInt → x &&& 3 = k := fun k q => Int32.toInt_inj.mp q
  have e1 : (1 : Int32).toInt = 1 := by decide
  have e2 : (2 : Int32).toInt = 2 := by decide
  by_cases q0 : (x &&& 3).toInt = 0
  · exact Or.inl (e 0 (by rw [q0]; decide))
  by_cases q1 : (x &&& 3).toInt = 1
  · exact Or.inr (Or.inl (e 1 (by rw [q1]; decide)))
  by_cases q2 : (x &&& 3).toInt = 2
  · exact Or.inr (Or.inr (Or.inl (e 2 (by rw [q2]; decide))))
  exact Or.inr (Or.inr (Or.inr (e 3 (by rw [e3]; omega))))
theorem key (p q : Int32) : eqI (mkL p) (mkL q) = sameB p q := by
  have k0 := ci_key (and255 p) (and255 q)
  have k1 := ci_key (and255 (XT.ushr p 8)) (and255 (XT.ushr q 8))
  have k2 := ci_key (and255 (XT.ushr p 16)) (and255 (XT.ushr q 16))
  have l01 : ((0 : Int32) < 1) = True := by decide
  have l02 : ((0 : Int32) < 2) = True := by decide
  have l03 : ((0 : Int32) < 3) = True := by decide
  have l11 : ((1 : Int32) < 1) = False := by decide
  have l12 : ((1 : Int32) < 2) = True := by decide
  have l13 : ((1 : Int32) < 3) = True := by decide
  have l21 : ((2 : Int32) < 1) = False := by decide
  have l22 : ((2 : Int32) < 2) = False := by decide
  have l23 : ((2 : Int32) < 3) = True := by decide
  have l31 : ((3 : Int32) < 1) = False := by decide
  have l32 : ((3 : Int32) < 2) = False := by decide
  have l33 : ((3 : Int32) < 3) = False := by decide
  have r1 : List.range 1 = [0] := by decide
  have r2 : List.range 2 = [0, 1] := by decide
  have r3 : List.range 3 = [0, 1, 2] := by decide
  rcases and3 (XT.ushr p 30) with hp | hp | hp | hp <;> rcases and3 (XT.ushr q 30) with hq | hq | hq | hq <;>
    simp [eqI, ciL, mkL, sameB, nnP, hp, hq, l01, l02, l03, l11, l12, l13, l21, l22, l23, l31, l32, l33, r1, r2, r3, k0, k1, k2]
theorem same_comm (p q : Int32) : sameB p q = sameB q p := by
  by_cases h : nnP p = nnP q
  · simp only [sameB, h, eq_comm (a := fI (p &&& 255)), eq_comm (a := fI (XT.ushr p 8 &&& 255)), eq_comm (a := fI (XT.ushr p 16 &&& 255))]
  · have h' : ¬ nnP q = nnP p := fun e => h e.symm
    simp [sameB, h, h']
theorem mkL_ok (p : Int32) : (∀ c ∈ mkL p, ¬ c < 0 ∧ ¬ (255 : Int32) < c) := by
  unfold mkL
  intro c hc
  split at hc
  · simp at hc
  · split at hc
    · simp at hc; subst hc; exact and255 _
    · split at hc
      · simp at hc; rcases hc with rfl | rfl <;> exact and255 _
      · simp at hc; rcases hc with rfl | rfl | rfl <;> exact and255 _
theorem pd_9 : parseMethodDescriptor "()I" = some ⟨[], (some .int)⟩ := by decide +kernel
theorem pd_10 : parseMethodDescriptor "()B" = some ⟨[], (some .byte)⟩ := by decide +kernel
theorem pd_11 : parseMethodDescriptor "()Z" = some ⟨[], (some .boolean)⟩ := by decide +kernel
theorem pd_12 : parseMethodDescriptor "(I)C" = some ⟨[.int], (some .char)⟩ := by decide +kernel
theorem pd_13 : parseMethodDescriptor "([BI)C" = some ⟨[(.array .byte), .int], (some .char)⟩ := by decide +kernel
theorem pd_14 : parseMethodDescriptor "(II)V" = some ⟨[.int, .int], none⟩ := by decide +kernel
theorem pd_15 : parseMethodDescriptor "(IILjava/util/function/BiFunction;)I" = some ⟨[.int, .int, (.object "java/util/function/BiFunction")], (some .int)⟩ := by decide +kernel
theorem pd_16 : parseMethodDescriptor "([B[B)Z" = some ⟨[(.array .byte), (.array .byte)], (some .boolean)⟩ := by decide +kernel
theorem d10_0 : decode jdk_42_method_152_code 0 = .ok (.getstatic 38, 3) := by decide +kernel
theorem d10_3 : decode jdk_42_method_152_code 3 = .ok (.ifCond .eq 10, 3) := by decide +kernel
theorem d10_6 : decode jdk_42_method_152_code 6 = .ok (.aload_n 0, 1) := by decide +kernel
theorem d10_7 : decode jdk_42_method_152_code 7 = .ok (.getfield 15, 3) := by decide +kernel
theorem d10_10 : decode jdk_42_method_152_code 10 = .ok (.goto 4, 3) := by decide +kernel
theorem d10_13 : decode jdk_42_method_152_code 13 = .ok (.iconst 1, 1) := by decide +kernel
theorem d10_14 : decode jdk_42_method_152_code 14 = .ok (.ireturn, 1) := by decide +kernel
theorem pn_0 : plainName "java/lang/String" = true := by first | (simp [plainName, overriddenIn]; done) | decide +kernel
set_option maxRecDepth 65536 in
set_option maxHeartbeats 40000000 in
theorem c_cod (l : Launch) (Z : State) (a0 : Array Value) (G : Gl Z a0) (a : Addr) (h : Heap) (C : Fld Z h a "java/lang/String" "coder" "B" (.int (0 : Int32))) :
    Ctr l Z EL nw (⟨"java/lang/String", "coder", "()B"⟩ : MethodName) jdk_42_method_152_code 1 (Option.some Jvm.ClassFile.FieldType.byte) ({ frames := 0, cells := 0, slots := 0, locals := 0 } : Room) #[.ref a] h [] (PureQ h fun w => w = .int 0) := by
  obtain ⟨hw, hEL, hSA, ⟨zc, SC, hz⟩, ⟨fm, SF, hfm⟩⟩ := id G
  refine Ctr.enter (own := "java/lang/String") (nm := "coder") rfl rfl hEL (plainFor_of_name pn_0) #[.val (.ref a)] (fun m => by first | rfl | (simp [entryFrame, mkF, argsToLocals, Value.category, maxLocals]; done)) ?_
  intro p e s m below meth c T X
  refine g_getS X (Or.inl (hw _ (List.mem_of_getElem? (i := 62) rfl))) (host := "") Via.refl (SC.ext X.old) d10_0 3 rfl ?_
  intro T1 X2
  refine g_ifNo X2 d10_3 (XT.ii_eq_f hz) 6 rfl ?_
  refine g_aloadN X2 d10_6 rfl rfl 7 rfl ?_
  refine g_getF X2 (Or.inl (hw _ (List.mem_of_getElem? (i := 25) rfl))) (host := "") Via.refl C d10_7 10 rfl ?_
  intro T3 X4
  refine g_goto X4 d10_10 14 (by decide) (by decide) ?_
  exact g_retN X4 (t := .byte) rfl (by simp) d10_14 _ rfl (by decide) (by decide) ⟨rfl, _, rfl, rfl⟩
theorem d9_0 : decode jdk_42_method_54_code 0 = .ok (.aload_n 0, 1) := by decide +kernel
theorem d9_1 : decode jdk_42_method_54_code 1 = .ok (.getfield 9, 3) := by decide +kernel
theorem d9_4 : decode jdk_42_method_54_code 4 = .ok (.arraylength, 1) := by decide +kernel
theorem d9_5 : decode jdk_42_method_54_code 5 = .ok (.aload_n 0, 1) := by decide +kernel
theorem d9_6 : decode jdk_42_method_54_code 6 = .ok (.invokevirtual 335, 3) := by decide +kernel
theorem d9_9 : decode jdk_42_method_54_code 9 = .ok (.ishr, 1) := by decide +kernel
theorem d9_10 : decode jdk_42_method_54_code 10 = .ok (.ireturn, 1) := by decide +kernel
set_option maxRecDepth 65536 in
set_option maxHeartbeats 40000000 in
theorem c_len (l : Launch) (Z : State) (a0 : Array Value) (G : Gl Z a0) (a t : Addr) (kb : ClassId) (cs : List Int32) (h : Heap) (E : Exa Z h a "java/lang/String") (C : Fld Z h a "java/lang/String" "coder" "B" (.int (0 : Int32))) (V : Fld Z h a "java/lang/String" "value" "[B" (.ref t)) (A : Arv Z h t kb .byte (Int32.ofNat cs.length) (bys cs) (.int (0 : Int32))) (hcs : ∀ c ∈ cs, ¬ c < 0 ∧ ¬ (255 : Int32) < c) (hlen : cs.length ≤ 4000) :
    Ctr l Z EL nw (⟨"java/lang/String", "length", "()I"⟩ : MethodName) jdk_42_method_54_code 1 (Option.some Jvm.ClassFile.FieldType.int) ({ frames := 1, cells := 0, slots := 0, locals := 13 } : Room) #[.ref a] h [] (PureQ h fun w => w = .int (Int32.ofNat cs.length)) := by
  obtain ⟨hw, hEL, hSA, ⟨zc, SC, hz⟩, ⟨fm, SF, hfm⟩⟩ := id G
  refine Ctr.enter (own := "java/lang/String") (nm := "length") rfl rfl hEL (plainFor_of_name pn_0) #[.val (.ref a)] (fun m => by first | rfl | (simp [entryFrame, mkF, argsToLocals, Value.category, maxLocals]; done)) ?_
  intro p e s m below meth c T X
  refine g_aloadN X d9_0 rfl rfl 1 rfl ?_
  refine g_getF X (Or.inl (hw _ (List.mem_of_getElem? (i := 24) rfl))) (host := "") Via.refl V d9_1 4 rfl ?_
  intro T1 X2
  refine g_arrlen X2 A d9_4 5 rfl ?_
  refine g_aloadN X2 d9_5 rfl rfl 6 rfl ?_
  refine g_callVp X2 (hw _ (List.mem_of_getElem? (i := 57) rfl)) (hw _ (List.mem_of_getElem? (i := 58) rfl)) (hw _ (List.mem_of_getElem? (i := 60) rfl)) (hw _ (List.mem_of_getElem? (i := 59) rfl)) (hw _ (List.mem_of_getElem? (i := 6) rfl)) (hw _ (List.mem_of_getElem? (i := 61) rfl)) (nfSel (hw _ (List.mem_of_getElem? (i := 60) rfl))) (by decide) E (c_cod l Z a0 G a h C) (by simp) (argsL := []) (rest := [.int (Int32.ofNat cs.length)]) pd_10 rfl rfl rfl rfl 1 (Nat.le_of_eq rfl) (by decide) (by decide) (ck := 0) rfl (cs := 0) rfl (by decide) (by decide) d9_6 9 rfl ?_
  intro w5 T3 X4 hq6
  subst hq6
  refine g_ishr X4 d9_9 (Int32.ofNat cs.length) (shr0 _) 10 rfl ?_
  exact g_retI X4 rfl d9_10 (by decide) (by decide) ⟨rfl, _, rfl, rfl⟩
theorem pd_17 : parseMethodDescriptor "([C)V" = some ⟨[(.array .char)], none⟩ := by decide +kernel
theorem pd_18 : parseMethodDescriptor "([CIILjava/lang/Void;)V" = some ⟨[(.array .char), .int, .int, (.object "java/lang/Void")], none⟩ := by decide +kernel
theorem d3_0 : decode jdk_42_method_149_code 0 = .ok (.aload_n 0, 1) := by decide +kernel
theorem d3_1 : decode jdk_42_method_149_code 1 = .ok (.invokespecial 1, 3) := by decide +kernel
theorem d3_4 : decode jdk_42_method_149_code 4 = .ok (.iload_n 3, 1) := by decide +kernel
theorem d3_5 : decode jdk_42_method_149_code 5 = .ok (.ifCond .ne 22, 3) := by decide +kernel
theorem d3_8 : decode jdk_42_method_149_code 8 = .ok (.aload_n 0, 1) := by decide +kernel
theorem d3_9 : decode jdk_42_method_149_code 9 = .ok (.ldc 7, 2) := by decide +kernel
theorem d3_11 : decode jdk_42_method_149_code 11 = .ok (.getfield 9, 3) := by decide +kernel
theorem d3_14 : decode jdk_42_method_149_code 14 = .ok (.putfield 9, 3) := by decide +kernel
theorem d3_17 : decode jdk_42_method_149_code 17 = .ok (.aload_n 0, 1) := by decide +kernel
theorem d3_18 : decode jdk_42_method_149_code 18 = .ok (.ldc 7, 2) := by decide +kernel
theorem d3_20 : decode jdk_42_method_149_code 20 = .ok (.getfield 15, 3) := by decide +kernel
theorem d3_23 : decode jdk_42_method_149_code 23 = .ok (.putfield 15, 3) := by decide +kernel
theorem d3_26 : decode jdk_42_method_149_code 26 = .ok (.return_, 1) := by decide +kernel
theorem d3_27 : decode jdk_42_method_149_code 27 = .ok (.getstatic 38, 3) := by decide +kernel
theorem d3_30 : decode jdk_42_method_149_code 30 = .ok (.ifCond .eq 28, 3) := by decide +kernel
theorem d3_33 : decode jdk_42_method_149_code 33 = .ok (.aload_n 1, 1) := by decide +kernel
theorem d3_34 : decode jdk_42_method_149_code 34 = .ok (.iload_n 2, 1) := by decide +kernel
theorem d3_35 : decode jdk_42_method_149_code 35 = .ok (.iload_n 3, 1) := by decide +kernel
theorem d3_36 : decode jdk_42_method_149_code 36 = .ok (.invokestatic 177, 3) := by decide +kernel
theorem d3_39 : decode jdk_42_method_149_code 39 = .ok (.astore 5, 2) := by decide +kernel
theorem d3_41 : decode jdk_42_method_149_code 41 = .ok (.aload_n 0, 1) := by decide +kernel
theorem d3_42 : decode jdk_42_method_149_code 42 = .ok (.aload 5, 2) := by decide +kernel
theorem d3_44 : decode jdk_42_method_149_code 44 = .ok (.iload_n 3, 1) := by decide +kernel
theorem d3_45 : decode jdk_42_method_149_code 45 = .ok (.invokestatic 47, 3) := by decide +kernel
theorem d3_48 : decode jdk_42_method_149_code 48 = .ok (.putfield 15, 3) := by decide +kernel
theorem d3_51 : decode jdk_42_method_149_code 51 = .ok (.aload_n 0, 1) := by decide +kernel
theorem d3_52 : decode jdk_42_method_149_code 52 = .ok (.aload 5, 2) := by decide +kernel
theorem d3_54 : decode jdk_42_method_149_code 54 = .ok (.putfield 9, 3) := by decide +kernel
theorem d3_57 : decode jdk_42_method_149_code 57 = .ok (.return_, 1) := by decide +kernel
theorem d3_58 : decode jdk_42_method_149_code 58 = .ok (.aload_n 0, 1) := by decide +kernel
theorem d3_59 : decode jdk_42_method_149_code 59 = .ok (.iconst 1, 1) := by decide +kernel
theorem d3_60 : decode jdk_42_method_149_code 60 = .ok (.putfield 15, 3) := by decide +kernel
theorem d3_63 : decode jdk_42_method_149_code 63 = .ok (.aload_n 0, 1) := by decide +kernel
theorem d3_64 : decode jdk_42_method_149_code 64 = .ok (.aload_n 1, 1) := by decide +kernel
theorem d3_65 : decode jdk_42_method_149_code 65 = .ok (.iload_n 2, 1) := by decide +kernel
theorem d3_66 : decode jdk_42_method_149_code 66 = .ok (.iload_n 3, 1) := by decide +kernel
theorem d3_67 : decode jdk_42_method_149_code 67 = .ok (.invokestatic 180, 3) := by decide +kernel
theorem d3_70 : decode jdk_42_method_149_code 70 = .ok (.putfield 9, 3) := by decide +kernel
theorem d3_73 : decode jdk_42_method_149_code 73 = .ok (.return_, 1) := by decide +kernel
set_option maxRecDepth 65536 in
set_option maxHeartbeats 40000000 in
theorem c_s149 (l : Launch) (Z : State) (a0 : Array Value) (G : Gl Z a0) (a b : Addr) (us : List Addr) (h : Heap) (E : Exa Z h a "java/lang/String") (V : Fld Z h a "java/lang/String" "value" "[B" .null) (C : Fld Z h a "java/lang/String" "coder" "B" (.int (0 : Int32))) (hne : ∀ x ∈ us, x ≠ a) :
    Ctr l Z EL nw (⟨"java/lang/String", "<init>", "([CIILjava/lang/Void;)V"⟩ : MethodName) jdk_42_method_149_code 6 (Option.none : Option Jvm.ClassFile.FieldType) ({ frames := 1, cells := 4, slots := 8, locals := 12 } : Room) #[.ref a, .ref b, .int (0 : Int32), .int (0 : Int32), .null] h (a :: us) (VoidQ fun h' => Keep h h' [a] ∧ Str Z h' us a []) := by
  obtain ⟨hw, hEL, hSA, ⟨zc, SC, hz⟩, ⟨fm, SF, hfm⟩⟩ := id G
  refine Ctr.enter (own := "java/lang/String") (nm := "<init>") rfl rfl hEL (plainFor_of_name pn_0) #[.val (.ref a), .val (.ref b), .val (.int (0 : Int32)), .val (.int (0 : Int32)), .val (.null), .unset] (fun m => by first | rfl | (simp [entryFrame, mkF, argsToLocals, Value.category, maxLocals]; done)) ?_
  intro p e s m below meth c T X
  refine g_aloadN X d3_0 rfl rfl 1 rfl ?_
  refine g_initO X (hw _ (List.mem_of_getElem? (i := 15) rfl)) (hw _ (List.mem_of_getElem? (i := 16) rfl)) (hw _ (List.mem_of_getElem? (i := 17) rfl)) rfl d3_1 (by decide) 0 (Nat.le_of_eq rfl) (by decide) 4 rfl ?_
  intro T1 X2
  refine g_iloadN X2 d3_4 rfl 5 rfl ?_
  refine g_ifNo X2 d3_5 (XT.ii_ne_f (by decide)) 8 rfl ?_
  refine g_aloadN X2 d3_8 rfl rfl 9 rfl ?_
  refine g_ldcS X2 (cs := []) rfl (hw _ (List.mem_of_getElem? (i := 18) rfl)) hSA (by simp [EL, consts_1]) ⟨by decide, by decide⟩ (by decide) (by decide) d3_9 0 (by decide) (by decide) (ck := 2) rfl (cs' := 4) rfl (by decide) (by decide) 11 rfl ?_
  intro s3 T4 h5 X6 E7 S8
  obtain ⟨t11, kb12, e13, f14, f15, k16, b17, l18, n19⟩ := id S8
  refine g_getF X6 (Or.inl (hw _ (List.mem_of_getElem? (i := 24) rfl))) (host := "") Via.refl f15 d3_11 14 rfl ?_
  intro T9 X10
  refine g_putF X10 (Or.inl (hw _ (List.mem_of_getElem? (i := 24) rfl))) (host := "") Via.refl (V.ext E7) (E.ext E7) (Or.inr ⟨(hw _ (List.mem_of_getElem? (i := 20) rfl)), rfl, rfl⟩) (hw _ (List.mem_of_getElem? (i := 5) rfl)) (ty := (.array .byte)) (by rfl) rfl rfl (by simp) d3_14 17 rfl ?_
  intro T20 h21 X22 W23 F24 E25
  refine g_aloadN X22 d3_17 rfl rfl 18 rfl ?_
  refine g_ldcS X22 (cs := []) rfl (hw _ (List.mem_of_getElem? (i := 18) rfl)) hSA (by simp [EL, consts_1]) ⟨by decide, by decide⟩ (by decide) (by decide) d3_18 0 (by decide) (by decide) (ck := 4) rfl (cs' := 8) rfl (by decide) (by decide) 20 rfl ?_
  intro s26 T27 h28 X29 E30 S31
  obtain ⟨t34, kb35, e36, f37, f38, k39, b40, l41, n42⟩ := id S31
  refine g_getF X29 (Or.inl (hw _ (List.mem_of_getElem? (i := 25) rfl))) (host := "") Via.refl f37 d3_20 23 rfl ?_
  intro T32 X33
  refine g_putF X33 (Or.inl (hw _ (List.mem_of_getElem? (i := 25) rfl))) (host := "") Via.refl (((C.ext E7).other W23 (Or.inr (slot_ne (Or.inr (hw _ (List.mem_of_getElem? (i := 21) rfl))) (Or.inr (hw _ (List.mem_of_getElem? (i := 20) rfl))) (by decide) (by rfl) (by rfl)))).ext E30) (E25.ext E30) (Or.inr ⟨(hw _ (List.mem_of_getElem? (i := 21) rfl)), rfl, rfl⟩) (hw _ (List.mem_of_getElem? (i := 5) rfl)) (ty := .byte) (by rfl) rfl rfl (by simp) d3_23 26 rfl ?_
  intro T43 h44 X45 W46 F47 E48
  exact g_ret X45 rfl d3_26 (by decide) (by decide) ⟨rfl, ⟨(((((Keep.refl h [a]).ext E7).wr W23 (Or.inl (by simp))).ext E30).wr W46 (Or.inl (by simp))), t11, kb12, E48, F47, ((F24.ext E30).other W46 (Or.inr (slot_ne (Or.inr (hw _ (List.mem_of_getElem? (i := 20) rfl))) (Or.inr (hw _ (List.mem_of_getElem? (i := 21) rfl))) (by decide) (by rfl) (by rfl)))), (((k16.other W23 (Ne.symm (n19 a (by simp)).2)).ext E30).other W46 (Ne.symm (n19 a (by simp)).2)), b17, l18, fun x hx => ⟨hne x hx, (n19 x (List.mem_cons_of_mem _ hx)).2⟩⟩⟩
theorem d2_0 : decode jdk_42_method_3_code 0 = .ok (.aload_n 0, 1) := by decide +kernel
theorem d2_1 : decode jdk_42_method_3_code 1 = .ok (.aload_n 1, 1) := by decide +kernel
theorem d2_2 : decode jdk_42_method_3_code 2 = .ok (.iconst 0, 1) := by decide +kernel
theorem d2_3 : decode jdk_42_method_3_code 3 = .ok (.aload_n 1, 1) := by decide +kernel
theorem d2_4 : decode jdk_42_method_3_code 4 = .ok (.arraylength, 1) := by decide +kernel
theorem d2_5 : decode jdk_42_method_3_code 5 = .ok (.aconst_null, 1) := by decide +kernel
theorem d2_6 : decode jdk_42_method_3_code 6 = .ok (.invokespecial 27, 3) := by decide +kernel
theorem d2_9 : decode jdk_42_method_3_code 9 = .ok (.return_, 1) := by decide +kernel
set_option maxRecDepth 65536 in
set_option maxHeartbeats 40000000 in
theorem c_s3 (l : Launch) (Z : State) (a0 : Array Value) (G : Gl Z a0) (a b : Addr) (kb : ClassId) (us : List Addr) (h : Heap) (E : Exa Z h a "java/lang/String") (V : Fld Z h a "java/lang/String" "value" "[B" .null) (C : Fld Z h a "java/lang/String" "coder" "B" (.int (0 : Int32))) (hne : ∀ x ∈ us, x ≠ a) (A : Arv Z h b kb .char (0 : Int32) [] (.int (0 : Int32))) :
    Ctr l Z EL nw (⟨"java/lang/String", "<init>", "([C)V"⟩ : MethodName) jdk_42_method_3_code 2 (Option.none : Option Jvm.ClassFile.FieldType) ({ frames := 2, cells := 4, slots := 8, locals := 29 } : Room) #[.ref a, .ref b] h (a :: us) (VoidQ fun h' => Keep h h' [a] ∧ Str Z h' us a []) := by
  obtain ⟨hw, hEL, hSA, ⟨zc, SC, hz⟩, ⟨fm, SF, hfm⟩⟩ := id G
  refine Ctr.enter (own := "java/lang/String") (nm := "<init>") rfl rfl hEL (plainFor_of_name pn_0) #[.val (.ref a), .val (.ref b)] (fun m => by first | rfl | (simp [entryFrame, mkF, argsToLocals, Value.category, maxLocals]; done)) ?_
  intro p e s m below meth c T X
  refine g_aloadN X d2_0 rfl rfl 1 rfl ?_
  refine g_aloadN X d2_1 rfl rfl 2 rfl ?_
  refine g_iconst X (0 : Int32) d2_2 (by decide) 3 rfl ?_
  refine g_aloadN X d2_3 rfl rfl 4 rfl ?_
  refine g_arrlen X A d2_4 5 rfl ?_
  refine g_aconstNull X d2_5 6 rfl ?_
  refine g_callIn X rfl (hw _ (List.mem_of_getElem? (i := 11) rfl)) (hw _ (List.mem_of_getElem? (i := 12) rfl)) (hw _ (List.mem_of_getElem? (i := 6) rfl)) (hw _ (List.mem_of_getElem? (i := 14) rfl)) (by decide) (c_s149 l Z a0 G a b us h E V C hne) (fun _ q => q) (argsL := [.ref b, .int (0 : Int32), .int (0 : Int32), .null]) (rest := []) pd_18 rfl rfl rfl rfl 0 (Nat.le_of_eq rfl) (by decide) (by decide) (ck := 4) rfl (cs := 8) rfl (by decide) (by decide) d2_6 9 rfl ?_
  intro T1 h4 X2 hq3
  obtain ⟨K5, S6⟩ := hq3
  exact g_ret X2 rfl d2_9 (by decide) (by decide) ⟨rfl, ⟨K5, S6⟩⟩
theorem d16_0 : decode method_3_code 0 = .ok (.iload_n 0, 1) := by decide +kernel
theorem d16_1 : decode method_3_code 1 = .ok (.bipush 97, 2) := by decide +kernel
theorem d16_3 : decode method_3_code 3 = .ok (.if_icmp .lt 14, 3) := by decide +kernel
theorem d16_6 : decode method_3_code 6 = .ok (.iload_n 0, 1) := by decide +kernel
theorem d16_7 : decode method_3_code 7 = .ok (.bipush 122, 2) := by decide +kernel
theorem d16_9 : decode method_3_code 9 = .ok (.if_icmp .gt 8, 3) := by decide +kernel
theorem d16_12 : decode method_3_code 12 = .ok (.iload_n 0, 1) := by decide +kernel
theorem d16_13 : decode method_3_code 13 = .ok (.bipush 32, 2) := by decide +kernel
theorem d16_15 : decode method_3_code 15 = .ok (.isub, 1) := by decide +kernel
theorem d16_16 : decode method_3_code 16 = .ok (.ireturn, 1) := by decide +kernel
theorem d16_17 : decode method_3_code 17 = .ok (.iload_n 0, 1) := by decide +kernel
theorem d16_18 : decode method_3_code 18 = .ok (.sipush 224, 3) := by decide +kernel
theorem d16_21 : decode method_3_code 21 = .ok (.if_icmp .lt 22, 3) := by decide +kernel
theorem d16_24 : decode method_3_code 24 = .ok (.iload_n 0, 1) := by decide +kernel
theorem d16_25 : decode method_3_code 25 = .ok (.sipush 254, 3) := by decide +kernel
theorem d16_28 : decode method_3_code 28 = .ok (.if_icmp .gt 15, 3) := by decide +kernel
theorem d16_31 : decode method_3_code 31 = .ok (.iload_n 0, 1) := by decide +kernel
theorem d16_32 : decode method_3_code 32 = .ok (.sipush 247, 3) := by decide +kernel
theorem d16_35 : decode method_3_code 35 = .ok (.if_icmp .eq 8, 3) := by decide +kernel
theorem d16_38 : decode method_3_code 38 = .ok (.iload_n 0, 1) := by decide +kernel
theorem d16_39 : decode method_3_code 39 = .ok (.bipush 32, 2) := by decide +kernel
theorem d16_41 : decode method_3_code 41 = .ok (.isub, 1) := by decide +kernel
theorem d16_42 : decode method_3_code 42 = .ok (.ireturn, 1) := by decide +kernel
theorem d16_43 : decode method_3_code 43 = .ok (.iload_n 0, 1) := by decide +kernel
theorem d16_44 : decode method_3_code 44 = .ok (.ireturn, 1) := by decide +kernel
theorem pn_1 : plainName "com/example/thalwil/thalwil/JoinColumnEqualsPinLaw" = true := by first | (simp [plainName, overriddenIn]; done) | decide +kernel
set_option maxRecDepth 65536 in
set_option maxHeartbeats 40000000 in
theorem c_fold (l : Launch) (Z : State) (a0 : Array Value) (G : Gl Z a0) (c0 : Int32) (h : Heap)  :
    Ctr l Z EL nw (⟨"com/example/thalwil/thalwil/JoinColumnEqualsPinLaw", "fold", "(I)I"⟩ : MethodName) method_3_code 1 (Option.some Jvm.ClassFile.FieldType.int) ({ frames := 0, cells := 0, slots := 0, locals := 0 } : Room) #[.int c0] h [] (PureQ h fun v => v = .int (fI c0)) := by
  obtain ⟨hw, hEL, hSA, ⟨zc, SC, hz⟩, ⟨fm, SF, hfm⟩⟩ := id G
  refine Ctr.enter (own := "com/example/thalwil/thalwil/JoinColumnEqualsPinLaw") (nm := "fold") rfl rfl hEL (plainFor_of_name pn_1) #[.val (.int c0)] (fun m => by first | rfl | (simp [entryFrame, mkF, argsToLocals, Value.category, maxLocals]; done)) ?_
  intro p e s m below meth c T X
  refine g_iloadN X d16_0 rfl 1 rfl ?_
  refine g_bipush X (97 : Int32) d16_1 (by decide) 3 rfl ?_
  by_cases hb3 : c0 < (97 : Int32)
  · refine g_icmpYes X d16_3 (XT.ii_lt_t hb3) 17 (by decide) (by decide) ?_
    refine g_iloadN X d16_17 rfl 18 rfl ?_
    refine g_sipush X (224 : Int32) d16_18 (by decide) 21 rfl ?_
    by_cases hb21 : c0 < (224 : Int32)
    · refine g_icmpYes X d16_21 (XT.ii_lt_t hb21) 43 (by decide) (by decide) ?_
      refine g_iloadN X d16_43 rfl 44 rfl ?_
      exact g_retI X rfl d16_44 (by decide) (by decide) ⟨rfl, _, rfl, (by simp [fI, hb21, hb3])⟩
    · refine g_icmpNo X d16_21 (XT.ii_lt_f hb21) 24 rfl ?_
      refine g_iloadN X d16_24 rfl 25 rfl ?_
      refine g_sipush X (254 : Int32) d16_25 (by decide) 28 rfl ?_
      by_cases hb28 : (254 : Int32) < c0
      · refine g_icmpYes X d16_28 (XT.ii_gt_t hb28) 43 (by decide) (by decide) ?_
        refine g_iloadN X d16_43 rfl 44 rfl ?_
        exact g_retI X rfl d16_44 (by decide) (by decide) ⟨rfl, _, rfl, (by simp [fI, hb21, hb28, hb3])⟩
      · refine g_icmpNo X d16_28 (XT.ii_gt_f hb28) 31 rfl ?_
        refine g_iloadN X d16_31 rfl 32 rfl ?_
        refine g_sipush X (247 : Int32) d16_32 (by decide) 35 rfl ?_
        by_cases hb35 : c0 = (247 : Int32)
        · refine g_icmpYes X d16_35 (XT.ii_eq_t hb35) 43 (by decide) (by decide) ?_
          refine g_iloadN X d16_43 rfl 44 rfl ?_
          exact g_retI X rfl d16_44 (by decide) (by decide) ⟨rfl, _, rfl, (by simp [fI, hb21, hb28, hb3, hb35])⟩
        · refine g_icmpNo X d16_35 (XT.ii_eq_f hb35) 38 rfl ?_
          refine g_iloadN X d16_38 rfl 39 rfl ?_
          refine g_bipush X (32 : Int32) d16_39 (by decide) 41 rfl ?_
          refine g_isub X d16_41 _ rfl 42 rfl ?_
          exact g_retI X rfl d16_42 (by decide) (by decide) ⟨rfl, _, rfl, (by simp [fI, hb21, hb28, hb3, hb35])⟩
  · refine g_icmpNo X d16_3 (XT.ii_lt_f hb3) 6 rfl ?_
    refine g_iloadN X d16_6 rfl 7 rfl ?_
    refine g_bipush X (122 : Int32) d16_7 (by decide) 9 rfl ?_
    by_cases hb9 : (122 : Int32) < c0
    · refine g_icmpYes X d16_9 (XT.ii_gt_t hb9) 17 (by decide) (by decide) ?_
      refine g_iloadN X d16_17 rfl 18 rfl ?_
      refine g_sipush X (224 : Int32) d16_18 (by decide) 21 rfl ?_
      by_cases hb21 : c0 < (224 : Int32)
      · refine g_icmpYes X d16_21 (XT.ii_lt_t hb21) 43 (by decide) (by decide) ?_
        refine g_iloadN X d16_43 rfl 44 rfl ?_
        exact g_retI X rfl d16_44 (by decide) (by decide) ⟨rfl, _, rfl, (by simp [fI, hb21, hb3, hb9])⟩
      · refine g_icmpNo X d16_21 (XT.ii_lt_f hb21) 24 rfl ?_
        refine g_iloadN X d16_24 rfl 25 rfl ?_
        refine g_sipush X (254 : Int32) d16_25 (by decide) 28 rfl ?_
        by_cases hb28 : (254 : Int32) < c0
        · refine g_icmpYes X d16_28 (XT.ii_gt_t hb28) 43 (by decide) (by decide) ?_
          refine g_iloadN X d16_43 rfl 44 rfl ?_
          exact g_retI X rfl d16_44 (by decide) (by decide) ⟨rfl, _, rfl, (by simp [fI, hb21, hb28, hb3, hb9])⟩
        · refine g_icmpNo X d16_28 (XT.ii_gt_f hb28) 31 rfl ?_
          refine g_iloadN X d16_31 rfl 32 rfl ?_
          refine g_sipush X (247 : Int32) d16_32 (by decide) 35 rfl ?_
          by_cases hb35 : c0 = (247 : Int32)
          · refine g_icmpYes X d16_35 (XT.ii_eq_t hb35) 43 (by decide) (by decide) ?_
            refine g_iloadN X d16_43 rfl 44 rfl ?_
            exact g_retI X rfl d16_44 (by decide) (by decide) ⟨rfl, _, rfl, (by simp [fI, hb21, hb28, hb3, hb35, hb9])⟩
          · refine g_icmpNo X d16_35 (XT.ii_eq_f hb35) 38 rfl ?_
            refine g_iloadN X d16_38 rfl 39 rfl ?_
            refine g_bipush X (32 : Int32) d16_39 (by decide) 41 rfl ?_
            refine g_isub X d16_41 _ rfl 42 rfl ?_
            exact g_retI X rfl d16_42 (by decide) (by decide) ⟨rfl, _, rfl, (by simp [fI, hb21, hb28, hb3, hb35, hb9])⟩
    · refine g_icmpNo X d16_9 (XT.ii_gt_f hb9) 12 rfl ?_
      refine g_iloadN X d16_12 rfl 13 rfl ?_
      refine g_bipush X (32 : Int32) d16_13 (by decide) 15 rfl ?_
      refine g_isub X d16_15 _ rfl 16 rfl ?_
      exact g_retI X rfl d16_16 (by decide) (by decide) ⟨rfl, _, rfl, (by simp [fI, hb3, hb9])⟩
theorem d1_0 : decode method_2_code 0 = .ok (.iload_n 0, 1) := by decide +kernel
theorem d1_1 : decode method_2_code 1 = .ok (.bipush 30, 2) := by decide +kernel
theorem d1_3 : decode method_2_code 3 = .ok (.iushr, 1) := by decide +kernel
theorem d1_4 : decode method_2_code 4 = .ok (.iconst 3, 1) := by decide +kernel
theorem d1_5 : decode method_2_code 5 = .ok (.iand, 1) := by decide +kernel
theorem d1_6 : decode method_2_code 6 = .ok (.istore_n 1, 1) := by decide +kernel
theorem d1_7 : decode method_2_code 7 = .ok (.iload_n 0, 1) := by decide +kernel
theorem d1_8 : decode method_2_code 8 = .ok (.sipush 255, 3) := by decide +kernel
theorem d1_11 : decode method_2_code 11 = .ok (.iand, 1) := by decide +kernel
theorem d1_12 : decode method_2_code 12 = .ok (.i2c, 1) := by decide +kernel
theorem d1_13 : decode method_2_code 13 = .ok (.istore_n 2, 1) := by decide +kernel
theorem d1_14 : decode method_2_code 14 = .ok (.iload_n 0, 1) := by decide +kernel
theorem d1_15 : decode method_2_code 15 = .ok (.bipush 8, 2) := by decide +kernel
theorem d1_17 : decode method_2_code 17 = .ok (.iushr, 1) := by decide +kernel
theorem d1_18 : decode method_2_code 18 = .ok (.sipush 255, 3) := by decide +kernel
theorem d1_21 : decode method_2_code 21 = .ok (.iand, 1) := by decide +kernel
theorem d1_22 : decode method_2_code 22 = .ok (.i2c, 1) := by decide +kernel
theorem d1_23 : decode method_2_code 23 = .ok (.istore_n 3, 1) := by decide +kernel
theorem d1_24 : decode method_2_code 24 = .ok (.iload_n 0, 1) := by decide +kernel
theorem d1_25 : decode method_2_code 25 = .ok (.bipush 16, 2) := by decide +kernel
theorem d1_27 : decode method_2_code 27 = .ok (.iushr, 1) := by decide +kernel
theorem d1_28 : decode method_2_code 28 = .ok (.sipush 255, 3) := by decide +kernel
theorem d1_31 : decode method_2_code 31 = .ok (.iand, 1) := by decide +kernel
theorem d1_32 : decode method_2_code 32 = .ok (.i2c, 1) := by decide +kernel
theorem d1_33 : decode method_2_code 33 = .ok (.istore 4, 2) := by decide +kernel
theorem d1_35 : decode method_2_code 35 = .ok (.iload_n 1, 1) := by decide +kernel
theorem d1_36 : decode method_2_code 36 = .ok (.ifCond .ne 14, 3) := by decide +kernel
theorem d1_39 : decode method_2_code 39 = .ok (.new 7, 3) := by decide +kernel
theorem d1_42 : decode method_2_code 42 = .ok (.dup, 1) := by decide +kernel
theorem d1_43 : decode method_2_code 43 = .ok (.iconst 0, 1) := by decide +kernel
theorem d1_44 : decode method_2_code 44 = .ok (.newarray .char, 2) := by decide +kernel
theorem d1_46 : decode method_2_code 46 = .ok (.invokespecial 9, 3) := by decide +kernel
theorem d1_49 : decode method_2_code 49 = .ok (.areturn, 1) := by decide +kernel
theorem d1_50 : decode method_2_code 50 = .ok (.iload_n 1, 1) := by decide +kernel
theorem d1_51 : decode method_2_code 51 = .ok (.iconst 1, 1) := by decide +kernel
theorem d1_52 : decode method_2_code 52 = .ok (.if_icmp .ne 18, 3) := by decide +kernel
theorem d1_55 : decode method_2_code 55 = .ok (.new 7, 3) := by decide +kernel
theorem d1_58 : decode method_2_code 58 = .ok (.dup, 1) := by decide +kernel
theorem d1_59 : decode method_2_code 59 = .ok (.iconst 1, 1) := by decide +kernel
theorem d1_60 : decode method_2_code 60 = .ok (.newarray .char, 2) := by decide +kernel
theorem d1_62 : decode method_2_code 62 = .ok (.dup, 1) := by decide +kernel
theorem d1_63 : decode method_2_code 63 = .ok (.iconst 0, 1) := by decide +kernel
theorem d1_64 : decode method_2_code 64 = .ok (.iload_n 2, 1) := by decide +kernel
theorem d1_65 : decode method_2_code 65 = .ok (.castore, 1) := by decide +kernel
theorem d1_66 : decode method_2_code 66 = .ok (.invokespecial 9, 3) := by decide +kernel
theorem d1_69 : decode method_2_code 69 = .ok (.areturn, 1) := by decide +kernel
theorem d1_70 : decode method_2_code 70 = .ok (.iload_n 1, 1) := by decide +kernel
theorem d1_71 : decode method_2_code 71 = .ok (.iconst 2, 1) := by decide +kernel
theorem d1_72 : decode method_2_code 72 = .ok (.if_icmp .ne 22, 3) := by decide +kernel
theorem d1_75 : decode method_2_code 75 = .ok (.new 7, 3) := by decide +kernel
theorem d1_78 : decode method_2_code 78 = .ok (.dup, 1) := by decide +kernel
theorem d1_79 : decode method_2_code 79 = .ok (.iconst 2, 1) := by decide +kernel
theorem d1_80 : decode method_2_code 80 = .ok (.newarray .char, 2) := by decide +kernel
theorem d1_82 : decode method_2_code 82 = .ok (.dup, 1) := by decide +kernel
theorem d1_83 : decode method_2_code 83 = .ok (.iconst 0, 1) := by decide +kernel
theorem d1_84 : decode method_2_code 84 = .ok (.iload_n 2, 1) := by decide +kernel
theorem d1_85 : decode method_2_code 85 = .ok (.castore, 1) := by decide +kernel
theorem d1_86 : decode method_2_code 86 = .ok (.dup, 1) := by decide +kernel
theorem d1_87 : decode method_2_code 87 = .ok (.iconst 1, 1) := by decide +kernel
theorem d1_88 : decode method_2_code 88 = .ok (.iload_n 3, 1) := by decide +kernel
theorem d1_89 : decode method_2_code 89 = .ok (.castore, 1) := by decide +kernel
theorem d1_90 : decode method_2_code 90 = .ok (.invokespecial 9, 3) := by decide +kernel
theorem d1_93 : decode method_2_code 93 = .ok (.areturn, 1) := by decide +kernel
theorem d1_94 : decode method_2_code 94 = .ok (.new 7, 3) := by decide +kernel
theorem d1_97 : decode method_2_code 97 = .ok (.dup, 1) := by decide +kernel
theorem d1_98 : decode method_2_code 98 = .ok (.iconst 3, 1) := by decide +kernel
theorem d1_99 : decode method_2_code 99 = .ok (.newarray .char, 2) := by decide +kernel
theorem d1_101 : decode method_2_code 101 = .ok (.dup, 1) := by decide +kernel
theorem d1_102 : decode method_2_code 102 = .ok (.iconst 0, 1) := by decide +kernel
theorem d1_103 : decode method_2_code 103 = .ok (.iload_n 2, 1) := by decide +kernel
theorem d1_104 : decode method_2_code 104 = .ok (.castore, 1) := by decide +kernel
theorem d1_105 : decode method_2_code 105 = .ok (.dup, 1) := by decide +kernel
theorem d1_106 : decode method_2_code 106 = .ok (.iconst 1, 1) := by decide +kernel
theorem d1_107 : decode method_2_code 107 = .ok (.iload_n 3, 1) := by decide +kernel
theorem d1_108 : decode method_2_code 108 = .ok (.castore, 1) := by decide +kernel
theorem d1_109 : decode method_2_code 109 = .ok (.dup, 1) := by decide +kernel
theorem d1_110 : decode method_2_code 110 = .ok (.iconst 2, 1) := by decide +kernel
theorem d1_111 : decode method_2_code 111 = .ok (.iload 4, 2) := by decide +kernel
theorem d1_113 : decode method_2_code 113 = .ok (.castore, 1) := by decide +kernel
theorem d1_114 : decode method_2_code 114 = .ok (.invokespecial 9, 3) := by decide +kernel
theorem d1_117 : decode method_2_code 117 = .ok (.areturn, 1) := by decide +kernel
set_option maxRecDepth 65536 in
set_option maxHeartbeats 40000000 in
theorem c_mk (l : Launch) (Z : State) (a0 : Array Value) (G : Gl Z a0) (p0 : Int32) (us : List Addr) (h : Heap)  :
    Ctr l Z EL nw (⟨"com/example/thalwil/thalwil/JoinColumnEqualsPinLaw", "mk", "(I)Ljava/lang/String;"⟩ : MethodName) method_2_code 5 (Option.some (Jvm.ClassFile.FieldType.object "java/lang/String")) ({ frames := 4, cells := 6, slots := 12, locals := 66 } : Room) #[.int p0] h us (ValQ fun w h' => ∃ a, w = .ref a ∧ Ext h h' ∧ Str Z h' us a (mkL p0)) := by
  obtain ⟨hw, hEL, hSA, ⟨zc, SC, hz⟩, ⟨fm, SF, hfm⟩⟩ := id G
  refine Ctr.enter (own := "com/example/thalwil/thalwil/JoinColumnEqualsPinLaw") (nm := "mk") rfl rfl hEL (plainFor_of_name pn_1) #[.val (.int p0), .unset, .unset, .unset, .unset] (fun m => by first | rfl | (simp [entryFrame, mkF, argsToLocals, Value.category, maxLocals]; done)) ?_
  intro p e s m below meth c T X
  refine g_iloadN X d1_0 rfl 1 rfl ?_
  refine g_bipush X (30 : Int32) d1_1 (by decide) 3 rfl ?_
  refine g_iushr X d1_3 _ rfl 4 rfl ?_
  refine g_iconst X (3 : Int32) d1_4 (by decide) 5 rfl ?_
  refine g_iand X d1_5 _ rfl 6 rfl ?_
  refine g_istoreN X d1_6 (Ls' := #[.val (.int p0), .val (.int ((XT.ushr p0 (30 : Int32)) &&& (3 : Int32))), .unset, .unset, .unset]) rfl 7 rfl ?_
  refine g_iloadN X d1_7 rfl 8 rfl ?_
  refine g_sipush X (255 : Int32) d1_8 (by decide) 11 rfl ?_
  refine g_iand X d1_11 _ rfl 12 rfl ?_
  refine g_i2c X d1_12 (p0 &&& (255 : Int32)) (i2c_mask _) 13 rfl ?_
  refine g_istoreN X d1_13 (Ls' := #[.val (.int p0), .val (.int ((XT.ushr p0 (30 : Int32)) &&& (3 : Int32))), .val (.int (p0 &&& (255 : Int32))), .unset, .unset]) rfl 14 rfl ?_
  refine g_iloadN X d1_14 rfl 15 rfl ?_
  refine g_bipush X (8 : Int32) d1_15 (by decide) 17 rfl ?_
  refine g_iushr X d1_17 _ rfl 18 rfl ?_
  refine g_sipush X (255 : Int32) d1_18 (by decide) 21 rfl ?_
  refine g_iand X d1_21 _ rfl 22 rfl ?_
  refine g_i2c X d1_22 ((XT.ushr p0 (8 : Int32)) &&& (255 : Int32)) (i2c_mask _) 23 rfl ?_
  refine g_istoreN X d1_23 (Ls' := #[.val (.int p0), .val (.int ((XT.ushr p0 (30 : Int32)) &&& (3 : Int32))), .val (.int (p0 &&& (255 : Int32))), .val (.int ((XT.ushr p0 (8 : Int32)) &&& (255 : Int32))), .unset]) rfl 24 rfl ?_
  refine g_iloadN X d1_24 rfl 25 rfl ?_
  refine g_bipush X (16 : Int32) d1_25 (by decide) 27 rfl ?_
  refine g_iushr X d1_27 _ rfl 28 rfl ?_
  refine g_sipush X (255 : Int32) d1_28 (by decide) 31 rfl ?_
  refine g_iand X d1_31 _ rfl 32 rfl ?_
  refine g_i2c X d1_32 ((XT.ushr p0 (16 : Int32)) &&& (255 : Int32)) (i2c_mask _) 33 rfl ?_
  refine g_istore X d1_33 (Ls' := #[.val (.int p0), .val (.int ((XT.ushr p0 (30 : Int32)) &&& (3 : Int32))), .val (.int (p0 &&& (255 : Int32))), .val (.int ((XT.ushr p0 (8 : Int32)) &&& (255 : Int32))), .val (.int ((XT.ushr p0 (16 : Int32)) &&& (255 : Int32)))]) rfl 35 rfl ?_
  refine g_iloadN X d1_35 rfl 36 rfl ?_
  by_cases hb36 : ((XT.ushr p0 (30 : Int32)) &&& (3 : Int32)) = (0 : Int32)
  · refine g_ifNo X d1_36 (XT.ii_ne_f hb36) 39 rfl ?_
    refine g_new X (hw _ (List.mem_of_getElem? (i := 4) rfl)) (hw _ (List.mem_of_getElem? (i := 5) rfl)) (hw _ (List.mem_of_getElem? (i := 6) rfl)) d1_39 (ck := 1) rfl (cs := 4) rfl (by decide) (by decide) 42 rfl ?_
    intro a1 T2 h3 ea4 X5 E6 A7 D8
    have le_a1 : h.size ≤ a1 := by rw [ea4]; exact (Ext.refl h).1
    have F9 : Fld Z h3 a1 "java/lang/String" "value" "[B" (.null) := D8 (Or.inr (hw _ (List.mem_of_getElem? (i := 20) rfl))) (ty := (.array .byte)) (by rfl)
    have F10 : Fld Z h3 a1 "java/lang/String" "coder" "B" (.int (0 : Int32)) := D8 (Or.inr (hw _ (List.mem_of_getElem? (i := 21) rfl))) (ty := .byte) (by rfl)
    refine g_dup X5 d1_42 rfl 43 rfl ?_
    refine g_iconst X5 (0 : Int32) d1_43 (by decide) 44 rfl ?_
    refine g_newP X5 (hw _ (List.mem_of_getElem? (i := 7) rfl)) d1_44 (by decide) 0 (by decide) (by decide) (ck := 2) rfl (cs := 4) rfl (by decide) (by decide) 46 rfl ?_
    intro a11 T12 h13 k14 ea15 X16 E17 A18
    have A19 : Arv Z h13 a11 k14 .char (0 : Int32) [] (.int (0 : Int32)) := A18.pad (fun i => by rcases i with _ | _ | _ | _ | _ | i <;> rfl)
    have le_a11 : h.size ≤ a11 := by rw [ea15]; exact ((Ext.refl h).trans E6).1
    have ne_a1_a11 : a1 ≠ a11 := by rw [ea15]; exact Nat.ne_of_lt A7.lt
    refine g_callIn X16 rfl (hw _ (List.mem_of_getElem? (i := 8) rfl)) (hw _ (List.mem_of_getElem? (i := 9) rfl)) (hw _ (List.mem_of_getElem? (i := 6) rfl)) (hw _ (List.mem_of_getElem? (i := 10) rfl)) (by decide) (c_s3 l Z a0 G a1 a11 k14 (us) h13 (A7.ext E17) (F9.ext E17) (F10.ext E17) (fun x hx => Nat.ne_of_lt (Nat.lt_of_lt_of_le (X.news x hx) le_a1)) A19) (fun _ hx => List.mem_cons_of_mem _ hx) (argsL := [.ref a11]) (rest := [.ref a1]) pd_17 rfl rfl rfl rfl 1 (Nat.le_of_eq rfl) (by decide) (by decide) (ck := 6) rfl (cs := 12) rfl (by decide) (by decide) d1_46 49 rfl ?_
    intro T20 h23 X21 hq22
    obtain ⟨K24, S25⟩ := hq22
    have X26 := X21.sub (us' := us) (by intro x hx; simp [hx])
    exact g_retA X26 rfl rfl rfl d1_49 (by decide) (by decide) ⟨_, rfl, ⟨a1, rfl, (ext_keep (((Ext.refl h).trans E6).trans E17) K24 (fun x hx => by cases List.mem_singleton.mp hx; exact le_a1)), (by rw [show mkL p0 = ([] : List Int32) from by simp [mkL, nnP, hb36]]; exact S25)⟩⟩
  · refine g_ifYes X d1_36 (XT.ii_ne_t hb36) 50 (by decide) (by decide) ?_
    refine g_iloadN X d1_50 rfl 51 rfl ?_
    refine g_iconst X (1 : Int32) d1_51 (by decide) 52 rfl ?_
    by_cases hb52 : ((XT.ushr p0 (30 : Int32)) &&& (3 : Int32)) = (1 : Int32)
    · refine g_icmpNo X d1_52 (XT.ii_ne_f hb52) 55 rfl ?_
      refine g_new X (hw _ (List.mem_of_getElem? (i := 4) rfl)) (hw _ (List.mem_of_getElem? (i := 5) rfl)) (hw _ (List.mem_of_getElem? (i := 6) rfl)) d1_55 (ck := 1) rfl (cs := 4) rfl (by decide) (by decide) 58 rfl ?_
      intro a27 T28 h29 ea30 X31 E32 A33 D34
      have le_a27 : h.size ≤ a27 := by rw [ea30]; exact (Ext.refl h).1
      have F35 : Fld Z h29 a27 "java/lang/String" "value" "[B" (.null) := D34 (Or.inr (hw _ (List.mem_of_getElem? (i := 20) rfl))) (ty := (.array .byte)) (by rfl)
      have F36 : Fld Z h29 a27 "java/lang/String" "coder" "B" (.int (0 : Int32)) := D34 (Or.inr (hw _ (List.mem_of_getElem? (i := 21) rfl))) (ty := .byte) (by rfl)
      refine g_dup X31 d1_58 rfl 59 rfl ?_
      refine g_iconst X31 (1 : Int32) d1_59 (by decide) 60 rfl ?_
      refine g_newP X31 (hw _ (List.mem_of_getElem? (i := 7) rfl)) d1_60 (by decide) 1 (by decide) (by decide) (ck := 2) rfl (cs := 5) rfl (by decide) (by decide) 62 rfl ?_
      intro a37 T38 h39 k40 ea41 X42 E43 A44
      have A45 : Arv Z h39 a37 k40 .char (1 : Int32) [.int (0 : Int32)] (.int (0 : Int32)) := A44.pad (fun i => by rcases i with _ | _ | _ | _ | _ | i <;> rfl)
      have le_a37 : h.size ≤ a37 := by rw [ea41]; exact ((Ext.refl h).trans E32).1
      have ne_a27_a37 : a27 ≠ a37 := by rw [ea41]; exact Nat.ne_of_lt A33.lt
      refine g_dup X42 d1_62 rfl 63 rfl ?_
      refine g_iconst X42 (0 : Int32) d1_63 (by decide) 64 rfl ?_
      refine g_iloadN X42 d1_64 rfl 65 rfl ?_
      refine g_castore X42 A45 0 (by decide) (by decide) (by decide) (by simp) (p0 &&& (255 : Int32)) (nar_mask _) (by simp) d1_65 66 rfl ?_
      intro T46 h47 X48 W49 B51
      have A50 : Arv Z h47 a37 k40 .char (1 : Int32) [.int (p0 &&& (255 : Int32))] (.int (0 : Int32)) := B51
      refine g_strNew X48 (cs := [p0 &&& (255 : Int32)]) (hw _ (List.mem_of_getElem? (i := 8) rfl)) (hw _ (List.mem_of_getElem? (i := 9) rfl)) (hw _ (List.mem_of_getElem? (i := 10) rfl)) (hwsV hw) (hw _ (List.mem_of_getElem? (i := 5) rfl)) (SC.ext X48.old) hz ((A33.ext E43).wr W49) ((F35.ext E43).other W49 (Or.inl ne_a27_a37)) ((F36.ext E43).other W49 (Or.inl ne_a27_a37)) A50 rfl 1 rfl rfl (by decide) (by decide) (by intro c hc; simp only [List.mem_cons, List.not_mem_nil, or_false] at hc; rcases hc with rfl <;> exact and255 _) (by simp) rfl 1 (Nat.le_of_eq rfl) (by decide) (by decide) (ck := 3) rfl (cs' := 6) rfl (by decide) (by decide) d1_66 69 rfl ?_
      intro T52 h53 X54 K55 Q56
      have S57 : Str Z h53 (us) a27 [p0 &&& (255 : Int32)] := str_of Q56 X.news le_a27 (ext_wr (((Ext.refl h).trans E32).trans E43) W49 le_a37).1
      have X58 := X54.sub (us' := us) (by intro x hx; simp [hx])
      exact g_retA X58 rfl rfl rfl d1_69 (by decide) (by decide) ⟨_, rfl, ⟨a27, rfl, (ext_keep (ext_wr (((Ext.refl h).trans E32).trans E43) W49 le_a37) K55 (fun x hx => by cases List.mem_singleton.mp hx; exact le_a27)), (by rw [show mkL p0 = [p0 &&& (255 : Int32)] from by simp [mkL, nnP, hb36, hb52]]; exact S57)⟩⟩
    · refine g_icmpYes X d1_52 (XT.ii_ne_t hb52) 70 (by decide) (by decide) ?_
      refine g_iloadN X d1_70 rfl 71 rfl ?_
      refine g_iconst X (2 : Int32) d1_71 (by decide) 72 rfl ?_
      by_cases hb72 : ((XT.ushr p0 (30 : Int32)) &&& (3 : Int32)) = (2 : Int32)
      · refine g_icmpNo X d1_72 (XT.ii_ne_f hb72) 75 rfl ?_
        refine g_new X (hw _ (List.mem_of_getElem? (i := 4) rfl)) (hw _ (List.mem_of_getElem? (i := 5) rfl)) (hw _ (List.mem_of_getElem? (i := 6) rfl)) d1_75 (ck := 1) rfl (cs := 4) rfl (by decide) (by decide) 78 rfl ?_
        intro a59 T60 h61 ea62 X63 E64 A65 D66
        have le_a59 : h.size ≤ a59 := by rw [ea62]; exact (Ext.refl h).1
        have F67 : Fld Z h61 a59 "java/lang/String" "value" "[B" (.null) := D66 (Or.inr (hw _ (List.mem_of_getElem? (i := 20) rfl))) (ty := (.array .byte)) (by rfl)
        have F68 : Fld Z h61 a59 "java/lang/String" "coder" "B" (.int (0 : Int32)) := D66 (Or.inr (hw _ (List.mem_of_getElem? (i := 21) rfl))) (ty := .byte) (by rfl)
        refine g_dup X63 d1_78 rfl 79 rfl ?_
        refine g_iconst X63 (2 : Int32) d1_79 (by decide) 80 rfl ?_
        refine g_newP X63 (hw _ (List.mem_of_getElem? (i := 7) rfl)) d1_80 (by decide) 2 (by decide) (by decide) (ck := 2) rfl (cs := 6) rfl (by decide) (by decide) 82 rfl ?_
        intro a69 T70 h71 k72 ea73 X74 E75 A76
        have A77 : Arv Z h71 a69 k72 .char (2 : Int32) [.int (0 : Int32), .int (0 : Int32)] (.int (0 : Int32)) := A76.pad (fun i => by rcases i with _ | _ | _ | _ | _ | i <;> rfl)
        have le_a69 : h.size ≤ a69 := by rw [ea73]; exact ((Ext.refl h).trans E64).1
        have ne_a59_a69 : a59 ≠ a69 := by rw [ea73]; exact Nat.ne_of_lt A65.lt
        refine g_dup X74 d1_82 rfl 83 rfl ?_
        refine g_iconst X74 (0 : Int32) d1_83 (by decide) 84 rfl ?_
        refine g_iloadN X74 d1_84 rfl 85 rfl ?_
        refine g_castore X74 A77 0 (by decide) (by decide) (by decide) (by simp) (p0 &&& (255 : Int32)) (nar_mask _) (by simp) d1_85 86 rfl ?_
        intro T78 h79 X80 W81 B83
        have A82 : Arv Z h79 a69 k72 .char (2 : Int32) [.int (p0 &&& (255 : Int32)), .int (0 : Int32)] (.int (0 : Int32)) := B83
        refine g_dup X80 d1_86 rfl 87 rfl ?_
        refine g_iconst X80 (1 : Int32) d1_87 (by decide) 88 rfl ?_
        refine g_iloadN X80 d1_88 rfl 89 rfl ?_
        refine g_castore X80 A82 1 (by decide) (by decide) (by decide) (by simp) ((XT.ushr p0 (8 : Int32)) &&& (255 : Int32)) (nar_mask _) (by simp) d1_89 90 rfl ?_
        intro T84 h85 X86 W87 B89
        have A88 : Arv Z h85 a69 k72 .char (2 : Int32) [.int (p0 &&& (255 : Int32)), .int ((XT.ushr p0 (8 : Int32)) &&& (255 : Int32))] (.int (0 : Int32)) := B89
        refine g_strNew X86 (cs := [p0 &&& (255 : Int32), (XT.ushr p0 (8 : Int32)) &&& (255 : Int32)]) (hw _ (List.mem_of_getElem? (i := 8) rfl)) (hw _ (List.mem_of_getElem? (i := 9) rfl)) (hw _ (List.mem_of_getElem? (i := 10) rfl)) (hwsV hw) (hw _ (List.mem_of_getElem? (i := 5) rfl)) (SC.ext X86.old) hz (((A65.ext E75).wr W81).wr W87) (((F67.ext E75).other W81 (Or.inl ne_a59_a69)).other W87 (Or.inl ne_a59_a69)) (((F68.ext E75).other W81 (Or.inl ne_a59_a69)).other W87 (Or.inl ne_a59_a69)) A88 rfl 2 rfl rfl (by decide) (by decide) (by intro c hc; simp only [List.mem_cons, List.not_mem_nil, or_false] at hc; rcases hc with rfl | rfl <;> exact and255 _) (by simp) rfl 1 (Nat.le_of_eq rfl) (by decide) (by decide) (ck := 3) rfl (cs' := 8) rfl (by decide) (by decide) d1_90 93 rfl ?_
        intro T90 h91 X92 K93 Q94
        have S95 : Str Z h91 (us) a59 [p0 &&& (255 : Int32), (XT.ushr p0 (8 : Int32)) &&& (255 : Int32)] := str_of Q94 X.news le_a59 (ext_wr (ext_wr (((Ext.refl h).trans E64).trans E75) W81 le_a69) W87 le_a69).1
        have X96 := X92.sub (us' := us) (by intro x hx; simp [hx])
        exact g_retA X96 rfl rfl rfl d1_93 (by decide) (by decide) ⟨_, rfl, ⟨a59, rfl, (ext_keep (ext_wr (ext_wr (((Ext.refl h).trans E64).trans E75) W81 le_a69) W87 le_a69) K93 (fun x hx => by cases List.mem_singleton.mp hx; exact le_a59)), (by rw [show mkL p0 = [p0 &&& (255 : Int32), (XT.ushr p0 (8 : Int32)) &&& (255 : Int32)] from by simp [mkL, nnP, hb36, hb52, hb72]]; exact S95)⟩⟩
      · refine g_icmpYes X d1_72 (XT.ii_ne_t hb72) 94 (by decide) (by decide) ?_
        refine g_new X (hw _ (List.mem_of_getElem? (i := 4) rfl)) (hw _ (List.mem_of_getElem? (i := 5) rfl)) (hw _ (List.mem_of_getElem? (i := 6) rfl)) d1_94 (ck := 1) rfl (cs := 4) rfl (by decide) (by decide) 97 rfl ?_
        intro a97 T98 h99 ea100 X101 E102 A103 D104
        have le_a97 : h.size ≤ a97 := by rw [ea100]; exact (Ext.refl h).1
        have F105 : Fld Z h99 a97 "java/lang/String" "value" "[B" (.null) := D104 (Or.inr (hw _ (List.mem_of_getElem? (i := 20) rfl))) (ty := (.array .byte)) (by rfl)
        have F106 : Fld Z h99 a97 "java/lang/String" "coder" "B" (.int (0 : Int32)) := D104 (Or.inr (hw _ (List.mem_of_getElem? (i := 21) rfl))) (ty := .byte) (by rfl)
        refine g_dup X101 d1_97 rfl 98 rfl ?_
        refine g_iconst X101 (3 : Int32) d1_98 (by decide) 99 rfl ?_
        refine g_newP X101 (hw _ (List.mem_of_getElem? (i := 7) rfl)) d1_99 (by decide) 3 (by decide) (by decide) (ck := 2) rfl (cs := 7) rfl (by decide) (by decide) 101 rfl ?_
        intro a107 T108 h109 k110 ea111 X112 E113 A114
        have A115 : Arv Z h109 a107 k110 .char (3 : Int32) [.int (0 : Int32), .int (0 : Int32), .int (0 : Int32)] (.int (0 : Int32)) := A114.pad (fun i => by rcases i with _ | _ | _ | _ | _ | i <;> rfl)
        have le_a107 : h.size ≤ a107 := by rw [ea111]; exact ((Ext.refl h).trans E102).1
        have ne_a97_a107 : a97 ≠ a107 := by rw [ea111]; exact Nat.ne_of_lt A103.lt
        refine g_dup X112 d1_101 rfl 102 rfl ?_
        refine g_iconst X112 (0 : Int32) d1_102 (by decide) 103 rfl ?_
        refine g_iloadN X112 d1_103 rfl 104 rfl ?_
        refine g_castore X112 A115 0 (by decide) (by decide) (by decide) (by simp) (p0 &&& (255 : Int32)) (nar_mask _) (by simp) d1_104 105 rfl ?_
        intro T116 h117 X118 W119 B121
        have A120 : Arv Z h117 a107 k110 .char (3 : Int32) [.int (p0 &&& (255 : Int32)), .int (0 : Int32), .int (0 : Int32)] (.int (0 : Int32)) := B121
        refine g_dup X118 d1_105 rfl 106 rfl ?_
        refine g_iconst X118 (1 : Int32) d1_106 (by decide) 107 rfl ?_
        refine g_iloadN X118 d1_107 rfl 108 rfl ?_
        refine g_castore X118 A120 1 (by decide) (by decide) (by decide) (by simp) ((XT.ushr p0 (8 : Int32)) &&& (255 : Int32)) (nar_mask _) (by simp) d1_108 109 rfl ?_
        intro T122 h123 X124 W125 B127
        have A126 : Arv Z h123 a107 k110 .char (3 : Int32) [.int (p0 &&& (255 : Int32)), .int ((XT.ushr p0 (8 : Int32)) &&& (255 : Int32)), .int (0 : Int32)] (.int (0 : Int32)) := B127
        refine g_dup X124 d1_109 rfl 110 rfl ?_
        refine g_iconst X124 (2 : Int32) d1_110 (by decide) 111 rfl ?_
        refine g_iload X124 d1_111 rfl 113 rfl ?_
        refine g_castore X124 A126 2 (by decide) (by decide) (by decide) (by simp) ((XT.ushr p0 (16 : Int32)) &&& (255 : Int32)) (nar_mask _) (by simp) d1_113 114 rfl ?_
        intro T128 h129 X130 W131 B133
        have A132 : Arv Z h129 a107 k110 .char (3 : Int32) [.int (p0 &&& (255 : Int32)), .int ((XT.ushr p0 (8 : Int32)) &&& (255 : Int32)), .int ((XT.ushr p0 (16 : Int32)) &&& (255 : Int32))] (.int (0 : Int32)) := B133
        refine g_strNew X130 (cs := [p0 &&& (255 : Int32), (XT.ushr p0 (8 : Int32)) &&& (255 : Int32), (XT.ushr p0 (16 : Int32)) &&& (255 : Int32)]) (hw _ (List.mem_of_getElem? (i := 8) rfl)) (hw _ (List.mem_of_getElem? (i := 9) rfl)) (hw _ (List.mem_of_getElem? (i := 10) rfl)) (hwsV hw) (hw _ (List.mem_of_getElem? (i := 5) rfl)) (SC.ext X130.old) hz ((((A103.ext E113).wr W119).wr W125).wr W131) ((((F105.ext E113).other W119 (Or.inl ne_a97_a107)).other W125 (Or.inl ne_a97_a107)).other W131 (Or.inl ne_a97_a107)) ((((F106.ext E113).other W119 (Or.inl ne_a97_a107)).other W125 (Or.inl ne_a97_a107)).other W131 (Or.inl ne_a97_a107)) A132 rfl 3 rfl rfl (by decide) (by decide) (by intro c hc; simp only [List.mem_cons, List.not_mem_nil, or_false] at hc; rcases hc with rfl | rfl | rfl <;> exact and255 _) (by simp) rfl 1 (Nat.le_of_eq rfl) (by decide) (by decide) (ck := 3) rfl (cs' := 10) rfl (by decide) (by decide) d1_114 117 rfl ?_
        intro T134 h135 X136 K137 Q138
        have S139 : Str Z h135 (us) a97 [p0 &&& (255 : Int32), (XT.ushr p0 (8 : Int32)) &&& (255 : Int32), (XT.ushr p0 (16 : Int32)) &&& (255 : Int32)] := str_of Q138 X.news le_a97 (ext_wr (ext_wr (ext_wr (((Ext.refl h).trans E102).trans E113) W119 le_a107) W125 le_a107) W131 le_a107).1
        have X140 := X136.sub (us' := us) (by intro x hx; simp [hx])
        exact g_retA X140 rfl rfl rfl d1_117 (by decide) (by decide) ⟨_, rfl, ⟨a97, rfl, (ext_keep (ext_wr (ext_wr (ext_wr (((Ext.refl h).trans E102).trans E113) W119 le_a107) W125 le_a107) W131 le_a107) K137 (fun x hx => by cases List.mem_singleton.mp hx; exact le_a97)), (by rw [show mkL p0 = [p0 &&& (255 : Int32), (XT.ushr p0 (8 : Int32)) &&& (255 : Int32), (XT.ushr p0 (16 : Int32)) &&& (255 : Int32)] from by simp [mkL, nnP, hb36, hb52, hb72]]; exact S139)⟩⟩
theorem d7_0 : decode method_4_code 0 = .ok (.iload_n 0, 1) := by decide +kernel
theorem d7_1 : decode method_4_code 1 = .ok (.bipush 30, 2) := by decide +kernel
theorem d7_3 : decode method_4_code 3 = .ok (.iushr, 1) := by decide +kernel
theorem d7_4 : decode method_4_code 4 = .ok (.iconst 3, 1) := by decide +kernel
theorem d7_5 : decode method_4_code 5 = .ok (.iand, 1) := by decide +kernel
theorem d7_6 : decode method_4_code 6 = .ok (.istore_n 2, 1) := by decide +kernel
theorem d7_7 : decode method_4_code 7 = .ok (.iload_n 1, 1) := by decide +kernel
theorem d7_8 : decode method_4_code 8 = .ok (.bipush 30, 2) := by decide +kernel
theorem d7_10 : decode method_4_code 10 = .ok (.iushr, 1) := by decide +kernel
theorem d7_11 : decode method_4_code 11 = .ok (.iconst 3, 1) := by decide +kernel
theorem d7_12 : decode method_4_code 12 = .ok (.iand, 1) := by decide +kernel
theorem d7_13 : decode method_4_code 13 = .ok (.istore_n 3, 1) := by decide +kernel
theorem d7_14 : decode method_4_code 14 = .ok (.iload_n 2, 1) := by decide +kernel
theorem d7_15 : decode method_4_code 15 = .ok (.iload_n 3, 1) := by decide +kernel
theorem d7_16 : decode method_4_code 16 = .ok (.if_icmp .eq 5, 3) := by decide +kernel
theorem d7_19 : decode method_4_code 19 = .ok (.iconst 0, 1) := by decide +kernel
theorem d7_20 : decode method_4_code 20 = .ok (.ireturn, 1) := by decide +kernel
theorem d7_21 : decode method_4_code 21 = .ok (.iload_n 2, 1) := by decide +kernel
theorem d7_22 : decode method_4_code 22 = .ok (.iconst 1, 1) := by decide +kernel
theorem d7_23 : decode method_4_code 23 = .ok (.if_icmp .lt 22, 3) := by decide +kernel
theorem d7_26 : decode method_4_code 26 = .ok (.iload_n 0, 1) := by decide +kernel
theorem d7_27 : decode method_4_code 27 = .ok (.sipush 255, 3) := by decide +kernel
theorem d7_30 : decode method_4_code 30 = .ok (.iand, 1) := by decide +kernel
theorem d7_31 : decode method_4_code 31 = .ok (.invokestatic 12, 3) := by decide +kernel
theorem d7_34 : decode method_4_code 34 = .ok (.iload_n 1, 1) := by decide +kernel
theorem d7_35 : decode method_4_code 35 = .ok (.sipush 255, 3) := by decide +kernel
theorem d7_38 : decode method_4_code 38 = .ok (.iand, 1) := by decide +kernel
theorem d7_39 : decode method_4_code 39 = .ok (.invokestatic 12, 3) := by decide +kernel
theorem d7_42 : decode method_4_code 42 = .ok (.if_icmp .ne 7, 3) := by decide +kernel
theorem d7_45 : decode method_4_code 45 = .ok (.iconst 1, 1) := by decide +kernel
theorem d7_46 : decode method_4_code 46 = .ok (.goto 4, 3) := by decide +kernel
theorem d7_49 : decode method_4_code 49 = .ok (.iconst 0, 1) := by decide +kernel
theorem d7_50 : decode method_4_code 50 = .ok (.istore 4, 2) := by decide +kernel
theorem d7_52 : decode method_4_code 52 = .ok (.iload_n 2, 1) := by decide +kernel
theorem d7_53 : decode method_4_code 53 = .ok (.iconst 2, 1) := by decide +kernel
theorem d7_54 : decode method_4_code 54 = .ok (.if_icmp .lt 28, 3) := by decide +kernel
theorem d7_57 : decode method_4_code 57 = .ok (.iload_n 0, 1) := by decide +kernel
theorem d7_58 : decode method_4_code 58 = .ok (.bipush 8, 2) := by decide +kernel
theorem d7_60 : decode method_4_code 60 = .ok (.iushr, 1) := by decide +kernel
theorem d7_61 : decode method_4_code 61 = .ok (.sipush 255, 3) := by decide +kernel
theorem d7_64 : decode method_4_code 64 = .ok (.iand, 1) := by decide +kernel
theorem d7_65 : decode method_4_code 65 = .ok (.invokestatic 12, 3) := by decide +kernel
theorem d7_68 : decode method_4_code 68 = .ok (.iload_n 1, 1) := by decide +kernel
theorem d7_69 : decode method_4_code 69 = .ok (.bipush 8, 2) := by decide +kernel
theorem d7_71 : decode method_4_code 71 = .ok (.iushr, 1) := by decide +kernel
theorem d7_72 : decode method_4_code 72 = .ok (.sipush 255, 3) := by decide +kernel
theorem d7_75 : decode method_4_code 75 = .ok (.iand, 1) := by decide +kernel
theorem d7_76 : decode method_4_code 76 = .ok (.invokestatic 12, 3) := by decide +kernel
theorem d7_79 : decode method_4_code 79 = .ok (.if_icmp .ne 7, 3) := by decide +kernel
theorem d7_82 : decode method_4_code 82 = .ok (.iconst 1, 1) := by decide +kernel
theorem d7_83 : decode method_4_code 83 = .ok (.goto 4, 3) := by decide +kernel
theorem d7_86 : decode method_4_code 86 = .ok (.iconst 0, 1) := by decide +kernel
theorem d7_87 : decode method_4_code 87 = .ok (.istore 5, 2) := by decide +kernel
theorem d7_89 : decode method_4_code 89 = .ok (.iload_n 2, 1) := by decide +kernel
theorem d7_90 : decode method_4_code 90 = .ok (.iconst 3, 1) := by decide +kernel
theorem d7_91 : decode method_4_code 91 = .ok (.if_icmp .lt 28, 3) := by decide +kernel
theorem d7_94 : decode method_4_code 94 = .ok (.iload_n 0, 1) := by decide +kernel
theorem d7_95 : decode method_4_code 95 = .ok (.bipush 16, 2) := by decide +kernel
theorem d7_97 : decode method_4_code 97 = .ok (.iushr, 1) := by decide +kernel
theorem d7_98 : decode method_4_code 98 = .ok (.sipush 255, 3) := by decide +kernel
theorem d7_101 : decode method_4_code 101 = .ok (.iand, 1) := by decide +kernel
theorem d7_102 : decode method_4_code 102 = .ok (.invokestatic 12, 3) := by decide +kernel
theorem d7_105 : decode method_4_code 105 = .ok (.iload_n 1, 1) := by decide +kernel
theorem d7_106 : decode method_4_code 106 = .ok (.bipush 16, 2) := by decide +kernel
theorem d7_108 : decode method_4_code 108 = .ok (.iushr, 1) := by decide +kernel
theorem d7_109 : decode method_4_code 109 = .ok (.sipush 255, 3) := by decide +kernel
theorem d7_112 : decode method_4_code 112 = .ok (.iand, 1) := by decide +kernel
theorem d7_113 : decode method_4_code 113 = .ok (.invokestatic 12, 3) := by decide +kernel
theorem d7_116 : decode method_4_code 116 = .ok (.if_icmp .ne 7, 3) := by decide +kernel
theorem d7_119 : decode method_4_code 119 = .ok (.iconst 1, 1) := by decide +kernel
theorem d7_120 : decode method_4_code 120 = .ok (.goto 4, 3) := by decide +kernel
theorem d7_123 : decode method_4_code 123 = .ok (.iconst 0, 1) := by decide +kernel
theorem d7_124 : decode method_4_code 124 = .ok (.istore 6, 2) := by decide +kernel
theorem d7_126 : decode method_4_code 126 = .ok (.iload 4, 2) := by decide +kernel
theorem d7_128 : decode method_4_code 128 = .ok (.ifCond .eq 17, 3) := by decide +kernel
theorem d7_131 : decode method_4_code 131 = .ok (.iload 5, 2) := by decide +kernel
theorem d7_133 : decode method_4_code 133 = .ok (.ifCond .eq 12, 3) := by decide +kernel
theorem d7_136 : decode method_4_code 136 = .ok (.iload 6, 2) := by decide +kernel
theorem d7_138 : decode method_4_code 138 = .ok (.ifCond .eq 7, 3) := by decide +kernel
theorem d7_141 : decode method_4_code 141 = .ok (.iconst 1, 1) := by decide +kernel
theorem d7_142 : decode method_4_code 142 = .ok (.goto 4, 3) := by decide +kernel
theorem d7_145 : decode method_4_code 145 = .ok (.iconst 0, 1) := by decide +kernel
theorem d7_146 : decode method_4_code 146 = .ok (.ireturn, 1) := by decide +kernel
set_option maxRecDepth 65536 in
set_option maxHeartbeats 40000000 in
theorem c_same (l : Launch) (Z : State) (a0 : Array Value) (G : Gl Z a0) (p0 q0 : Int32) (h : Heap)  :
    Ctr l Z EL nw (⟨"com/example/thalwil/thalwil/JoinColumnEqualsPinLaw", "same", "(II)Z"⟩ : MethodName) method_4_code 7 (Option.some Jvm.ClassFile.FieldType.boolean) ({ frames := 1, cells := 0, slots := 0, locals := 13 } : Room) #[.int p0, .int q0] h [] (PureQ h fun v => v = .int (if sameB p0 q0 = true then 1 else 0)) := by
  obtain ⟨hw, hEL, hSA, ⟨zc, SC, hz⟩, ⟨fm, SF, hfm⟩⟩ := id G
  refine Ctr.enter (own := "com/example/thalwil/thalwil/JoinColumnEqualsPinLaw") (nm := "same") rfl rfl hEL (plainFor_of_name pn_1) #[.val (.int p0), .val (.int q0), .unset, .unset, .unset, .unset, .unset] (fun m => by first | rfl | (simp [entryFrame, mkF, argsToLocals, Value.category, maxLocals]; done)) ?_
  intro p e s m below meth c T X
  refine g_iloadN X d7_0 rfl 1 rfl ?_
  refine g_bipush X (30 : Int32) d7_1 (by decide) 3 rfl ?_
  refine g_iushr X d7_3 _ rfl 4 rfl ?_
  refine g_iconst X (3 : Int32) d7_4 (by decide) 5 rfl ?_
  refine g_iand X d7_5 _ rfl 6 rfl ?_
  refine g_istoreN X d7_6 (Ls' := #[.val (.int p0), .val (.int q0), .val (.int ((XT.ushr p0 (30 : Int32)) &&& (3 : Int32))), .unset, .unset, .unset, .unset]) rfl 7 rfl ?_
  refine g_iloadN X d7_7 rfl 8 rfl ?_
  refine g_bipush X (30 : Int32) d7_8 (by decide) 10 rfl ?_
  refine g_iushr X d7_10 _ rfl 11 rfl ?_
  refine g_iconst X (3 : Int32) d7_11 (by decide) 12 rfl ?_
  refine g_iand X d7_12 _ rfl 13 rfl ?_
  refine g_istoreN X d7_13 (Ls' := #[.val (.int p0), .val (.int q0), .val (.int ((XT.ushr p0 (30 : Int32)) &&& (3 : Int32))), .val (.int ((XT.ushr q0 (30 : Int32)) &&& (3 : Int32))), .unset, .unset, .unset]) rfl 14 rfl ?_
  refine g_iloadN X d7_14 rfl 15 rfl ?_
  refine g_iloadN X d7_15 rfl 16 rfl ?_
  by_cases hb16 : ((XT.ushr p0 (30 : Int32)) &&& (3 : Int32)) = ((XT.ushr q0 (30 : Int32)) &&& (3 : Int32))
  · refine g_icmpYes X d7_16 (XT.ii_eq_t hb16) 21 (by decide) (by decide) ?_
    refine g_iloadN X d7_21 rfl 22 rfl ?_
    refine g_iconst X (1 : Int32) d7_22 (by decide) 23 rfl ?_
    by_cases hb23 : ((XT.ushr p0 (30 : Int32)) &&& (3 : Int32)) < (1 : Int32)
    · refine g_icmpYes X d7_23 (XT.ii_lt_t hb23) 45 (by decide) (by decide) ?_
      refine g_iconst X (1 : Int32) d7_45 (by decide) 46 rfl ?_
      refine g_goto X d7_46 50 (by decide) (by decide) ?_
      refine g_istore X d7_50 (Ls' := #[.val (.int p0), .val (.int q0), .val (.int ((XT.ushr p0 (30 : Int32)) &&& (3 : Int32))), .val (.int ((XT.ushr q0 (30 : Int32)) &&& (3 : Int32))), .val (.int (1 : Int32)), .unset, .unset]) rfl 52 rfl ?_
      refine g_iloadN X d7_52 rfl 53 rfl ?_
      refine g_iconst X (2 : Int32) d7_53 (by decide) 54 rfl ?_
      by_cases hb54 : ((XT.ushr p0 (30 : Int32)) &&& (3 : Int32)) < (2 : Int32)
      · refine g_icmpYes X d7_54 (XT.ii_lt_t hb54) 82 (by decide) (by decide) ?_
        refine g_iconst X (1 : Int32) d7_82 (by decide) 83 rfl ?_
        refine g_goto X d7_83 87 (by decide) (by decide) ?_
        refine g_istore X d7_87 (Ls' := #[.val (.int p0), .val (.int q0), .val (.int ((XT.ushr p0 (30 : Int32)) &&& (3 : Int32))), .val (.int ((XT.ushr q0 (30 : Int32)) &&& (3 : Int32))), .val (.int (1 : Int32)), .val (.int (1 : Int32)), .unset]) rfl 89 rfl ?_
        refine g_iloadN X d7_89 rfl 90 rfl ?_
        refine g_iconst X (3 : Int32) d7_90 (by decide) 91 rfl ?_
        by_cases hb91 : ((XT.ushr p0 (30 : Int32)) &&& (3 : Int32)) < (3 : Int32)
        · refine g_icmpYes X d7_91 (XT.ii_lt_t hb91) 119 (by decide) (by decide) ?_
          refine g_iconst X (1 : Int32) d7_119 (by decide) 120 rfl ?_
          refine g_goto X d7_120 124 (by decide) (by decide) ?_
          refine g_istore X d7_124 (Ls' := #[.val (.int p0), .val (.int q0), .val (.int ((XT.ushr p0 (30 : Int32)) &&& (3 : Int32))), .val (.int ((XT.ushr q0 (30 : Int32)) &&& (3 : Int32))), .val (.int (1 : Int32)), .val (.int (1 : Int32)), .val (.int (1 : Int32))]) rfl 126 rfl ?_
          refine g_iload X d7_126 rfl 128 rfl ?_
          refine g_ifNo X d7_128 (XT.ii_eq_f (by decide)) 131 rfl ?_
          refine g_iload X d7_131 rfl 133 rfl ?_
          refine g_ifNo X d7_133 (XT.ii_eq_f (by decide)) 136 rfl ?_
          refine g_iload X d7_136 rfl 138 rfl ?_
          refine g_ifNo X d7_138 (XT.ii_eq_f (by decide)) 141 rfl ?_
          refine g_iconst X (1 : Int32) d7_141 (by decide) 142 rfl ?_
          refine g_goto X d7_142 146 (by decide) (by decide) ?_
          exact g_retN X (t := .boolean) rfl (by simp) d7_146 _ rfl (by decide) (by decide) ⟨rfl, _, rfl, (by rw [show sameB p0 q0 = true from by unfold sameB nnP; first | (rw [decide_eq_true hb16]; simp [hb23, hb54, hb91]) | simp [hb16, hb23, hb54, hb91]]; rfl)⟩
        · refine g_icmpNo X d7_91 (XT.ii_lt_f hb91) 94 rfl ?_
          refine g_iloadN X d7_94 rfl 95 rfl ?_
          refine g_bipush X (16 : Int32) d7_95 (by decide) 97 rfl ?_
          refine g_iushr X d7_97 _ rfl 98 rfl ?_
          refine g_sipush X (255 : Int32) d7_98 (by decide) 101 rfl ?_
          refine g_iand X d7_101 _ rfl 102 rfl ?_
          refine g_callSp X (hw _ (List.mem_of_getElem? (i := 84) rfl)) (hw _ (List.mem_of_getElem? (i := 85) rfl)) (hw _ (List.mem_of_getElem? (i := 2) rfl)) (hw _ (List.mem_of_getElem? (i := 86) rfl)) (by decide) (c_fold l Z a0 G ((XT.ushr p0 (16 : Int32)) &&& (255 : Int32)) h) (by simp) (argsL := [.int ((XT.ushr p0 (16 : Int32)) &&& (255 : Int32))]) (rest := []) pd_1 rfl rfl rfl rfl 0 (Nat.le_of_eq rfl) (by decide) (by decide) (ck := 0) rfl (cs := 0) rfl (by decide) (by decide) d7_102 105 rfl ?_
          intro w3 T1 X2 hq4
          subst hq4
          refine g_iloadN X2 d7_105 rfl 106 rfl ?_
          refine g_bipush X2 (16 : Int32) d7_106 (by decide) 108 rfl ?_
          refine g_iushr X2 d7_108 _ rfl 109 rfl ?_
          refine g_sipush X2 (255 : Int32) d7_109 (by decide) 112 rfl ?_
          refine g_iand X2 d7_112 _ rfl 113 rfl ?_
          refine g_callSp X2 (hw _ (List.mem_of_getElem? (i := 84) rfl)) (hw _ (List.mem_of_getElem? (i := 85) rfl)) (hw _ (List.mem_of_getElem? (i := 2) rfl)) (hw _ (List.mem_of_getElem? (i := 86) rfl)) (by decide) (c_fold l Z a0 G ((XT.ushr q0 (16 : Int32)) &&& (255 : Int32)) h) (by simp) (argsL := [.int ((XT.ushr q0 (16 : Int32)) &&& (255 : Int32))]) (rest := [.int (fI ((XT.ushr p0 (16 : Int32)) &&& (255 : Int32)))]) pd_1 rfl rfl rfl rfl 1 (Nat.le_of_eq rfl) (by decide) (by decide) (ck := 0) rfl (cs := 0) rfl (by decide) (by decide) d7_113 116 rfl ?_
          intro w7 T5 X6 hq8
          subst hq8
          by_cases hb116 : (fI ((XT.ushr p0 (16 : Int32)) &&& (255 : Int32))) = (fI ((XT.ushr q0 (16 : Int32)) &&& (255 : Int32)))
          · refine g_icmpNo X6 d7_116 (XT.ii_ne_f hb116) 119 rfl ?_
            refine g_iconst X6 (1 : Int32) d7_119 (by decide) 120 rfl ?_
            refine g_goto X6 d7_120 124 (by decide) (by decide) ?_
            refine g_istore X6 d7_124 (Ls' := #[.val (.int p0), .val (.int q0), .val (.int ((XT.ushr p0 (30 : Int32)) &&& (3 : Int32))), .val (.int ((XT.ushr q0 (30 : Int32)) &&& (3 : Int32))), .val (.int (1 : Int32)), .val (.int (1 : Int32)), .val (.int (1 : Int32))]) rfl 126 rfl ?_
            refine g_iload X6 d7_126 rfl 128 rfl ?_
            refine g_ifNo X6 d7_128 (XT.ii_eq_f (by decide)) 131 rfl ?_
            refine g_iload X6 d7_131 rfl 133 rfl ?_
            refine g_ifNo X6 d7_133 (XT.ii_eq_f (by decide)) 136 rfl ?_
            refine g_iload X6 d7_136 rfl 138 rfl ?_
            refine g_ifNo X6 d7_138 (XT.ii_eq_f (by decide)) 141 rfl ?_
            refine g_iconst X6 (1 : Int32) d7_141 (by decide) 142 rfl ?_
            refine g_goto X6 d7_142 146 (by decide) (by decide) ?_
            exact g_retN X6 (t := .boolean) rfl (by simp) d7_146 _ rfl (by decide) (by decide) ⟨rfl, _, rfl, (by rw [show sameB p0 q0 = true from by unfold sameB nnP; first | (rw [decide_eq_true hb16]; simp [hb116, hb23, hb54, hb91]) | simp [hb116, hb16, hb23, hb54, hb91]]; rfl)⟩
          · refine g_icmpYes X6 d7_116 (XT.ii_ne_t hb116) 123 (by decide) (by decide) ?_
            refine g_iconst X6 (0 : Int32) d7_123 (by decide) 124 rfl ?_
            refine g_istore X6 d7_124 (Ls' := #[.val (.int p0), .val (.int q0), .val (.int ((XT.ushr p0 (30 : Int32)) &&& (3 : Int32))), .val (.int ((XT.ushr q0 (30 : Int32)) &&& (3 : Int32))), .val (.int (1 : Int32)), .val (.int (1 : Int32)), .val (.int (0 : Int32))]) rfl 126 rfl ?_
            refine g_iload X6 d7_126 rfl 128 rfl ?_
            refine g_ifNo X6 d7_128 (XT.ii_eq_f (by decide)) 131 rfl ?_
            refine g_iload X6 d7_131 rfl 133 rfl ?_
            refine g_ifNo X6 d7_133 (XT.ii_eq_f (by decide)) 136 rfl ?_
            refine g_iload X6 d7_136 rfl 138 rfl ?_
            refine g_ifYes X6 d7_138 (XT.ii_eq_t (by decide)) 145 (by decide) (by decide) ?_
            refine g_iconst X6 (0 : Int32) d7_145 (by decide) 146 rfl ?_
            exact g_retN X6 (t := .boolean) rfl (by simp) d7_146 _ rfl (by decide) (by decide) ⟨rfl, _, rfl, (by rw [show sameB p0 q0 = false from by unfold sameB nnP; first | (rw [decide_eq_true hb16]; simp [hb116, hb23, hb54, hb91]) | simp [hb116, hb16, hb23, hb54, hb91]]; rfl)⟩
      · refine g_icmpNo X d7_54 (XT.ii_lt_f hb54) 57 rfl ?_
        refine g_iloadN X d7_57 rfl 58 rfl ?_
        refine g_bipush X (8 : Int32) d7_58 (by decide) 60 rfl ?_
        refine g_iushr X d7_60 _ rfl 61 rfl ?_
        refine g_sipush X (255 : Int32) d7_61 (by decide) 64 rfl ?_
        refine g_iand X d7_64 _ rfl 65 rfl ?_
        refine g_callSp X (hw _ (List.mem_of_getElem? (i := 84) rfl)) (hw _ (List.mem_of_getElem? (i := 85) rfl)) (hw _ (List.mem_of_getElem? (i := 2) rfl)) (hw _ (List.mem_of_getElem? (i := 86) rfl)) (by decide) (c_fold l Z a0 G ((XT.ushr p0 (8 : Int32)) &&& (255 : Int32)) h) (by simp) (argsL := [.int ((XT.ushr p0 (8 : Int32)) &&& (255 : Int32))]) (rest := []) pd_1 rfl rfl rfl rfl 0 (Nat.le_of_eq rfl) (by decide) (by decide) (ck := 0) rfl (cs := 0) rfl (by decide) (by decide) d7_65 68 rfl ?_
        intro w11 T9 X10 hq12
        subst hq12
        refine g_iloadN X10 d7_68 rfl 69 rfl ?_
        refine g_bipush X10 (8 : Int32) d7_69 (by decide) 71 rfl ?_
        refine g_iushr X10 d7_71 _ rfl 72 rfl ?_
        refine g_sipush X10 (255 : Int32) d7_72 (by decide) 75 rfl ?_
        refine g_iand X10 d7_75 _ rfl 76 rfl ?_
        refine g_callSp X10 (hw _ (List.mem_of_getElem? (i := 84) rfl)) (hw _ (List.mem_of_getElem? (i := 85) rfl)) (hw _ (List.mem_of_getElem? (i := 2) rfl)) (hw _ (List.mem_of_getElem? (i := 86) rfl)) (by decide) (c_fold l Z a0 G ((XT.ushr q0 (8 : Int32)) &&& (255 : Int32)) h) (by simp) (argsL := [.int ((XT.ushr q0 (8 : Int32)) &&& (255 : Int32))]) (rest := [.int (fI ((XT.ushr p0 (8 : Int32)) &&& (255 : Int32)))]) pd_1 rfl rfl rfl rfl 1 (Nat.le_of_eq rfl) (by decide) (by decide) (ck := 0) rfl (cs := 0) rfl (by decide) (by decide) d7_76 79 rfl ?_
        intro w15 T13 X14 hq16
        subst hq16
        by_cases hb79 : (fI ((XT.ushr p0 (8 : Int32)) &&& (255 : Int32))) = (fI ((XT.ushr q0 (8 : Int32)) &&& (255 : Int32)))
        · refine g_icmpNo X14 d7_79 (XT.ii_ne_f hb79) 82 rfl ?_
          refine g_iconst X14 (1 : Int32) d7_82 (by decide) 83 rfl ?_
          refine g_goto X14 d7_83 87 (by decide) (by decide) ?_
          refine g_istore X14 d7_87 (Ls' := #[.val (.int p0), .val (.int q0), .val (.int ((XT.ushr p0 (30 : Int32)) &&& (3 : Int32))), .val (.int ((XT.ushr q0 (30 : Int32)) &&& (3 : Int32))), .val (.int (1 : Int32)), .val (.int (1 : Int32)), .unset]) rfl 89 rfl ?_
          refine g_iloadN X14 d7_89 rfl 90 rfl ?_
          refine g_iconst X14 (3 : Int32) d7_90 (by decide) 91 rfl ?_
          by_cases hb91 : ((XT.ushr p0 (30 : Int32)) &&& (3 : Int32)) < (3 : Int32)
          · refine g_icmpYes X14 d7_91 (XT.ii_lt_t hb91) 119 (by decide) (by decide) ?_
            refine g_iconst X14 (1 : Int32) d7_119 (by decide) 120 rfl ?_
            refine g_goto X14 d7_120 124 (by decide) (by decide) ?_
            refine g_istore X14 d7_124 (Ls' := #[.val (.int p0), .val (.int q0), .val (.int ((XT.ushr p0 (30 : Int32)) &&& (3 : Int32))), .val (.int ((XT.ushr q0 (30 : Int32)) &&& (3 : Int32))), .val (.int (1 : Int32)), .val (.int (1 : Int32)), .val (.int (1 : Int32))]) rfl 126 rfl ?_
            refine g_iload X14 d7_126 rfl 128 rfl ?_
            refine g_ifNo X14 d7_128 (XT.ii_eq_f (by decide)) 131 rfl ?_
            refine g_iload X14 d7_131 rfl 133 rfl ?_
            refine g_ifNo X14 d7_133 (XT.ii_eq_f (by decide)) 136 rfl ?_
            refine g_iload X14 d7_136 rfl 138 rfl ?_
            refine g_ifNo X14 d7_138 (XT.ii_eq_f (by decide)) 141 rfl ?_
            refine g_iconst X14 (1 : Int32) d7_141 (by decide) 142 rfl ?_
            refine g_goto X14 d7_142 146 (by decide) (by decide) ?_
            exact g_retN X14 (t := .boolean) rfl (by simp) d7_146 _ rfl (by decide) (by decide) ⟨rfl, _, rfl, (by rw [show sameB p0 q0 = true from by unfold sameB nnP; first | (rw [decide_eq_true hb16]; simp [hb23, hb54, hb79, hb91]) | simp [hb16, hb23, hb54, hb79, hb91]]; rfl)⟩
          · refine g_icmpNo X14 d7_91 (XT.ii_lt_f hb91) 94 rfl ?_
            refine g_iloadN X14 d7_94 rfl 95 rfl ?_
            refine g_bipush X14 (16 : Int32) d7_95 (by decide) 97 rfl ?_
            refine g_iushr X14 d7_97 _ rfl 98 rfl ?_
            refine g_sipush X14 (255 : Int32) d7_98 (by decide) 101 rfl ?_
            refine g_iand X14 d7_101 _ rfl 102 rfl ?_
            refine g_callSp X14 (hw _ (List.mem_of_getElem? (i := 84) rfl)) (hw _ (List.mem_of_getElem? (i := 85) rfl)) (hw _ (List.mem_of_getElem? (i := 2) rfl)) (hw _ (List.mem_of_getElem? (i := 86) rfl)) (by decide) (c_fold l Z a0 G ((XT.ushr p0 (16 : Int32)) &&& (255 : Int32)) h) (by simp) (argsL := [.int ((XT.ushr p0 (16 : Int32)) &&& (255 : Int32))]) (rest := []) pd_1 rfl rfl rfl rfl 0 (Nat.le_of_eq rfl) (by decide) (by decide) (ck := 0) rfl (cs := 0) rfl (by decide) (by decide) d7_102 105 rfl ?_
            intro w19 T17 X18 hq20
            subst hq20
            refine g_iloadN X18 d7_105 rfl 106 rfl ?_
            refine g_bipush X18 (16 : Int32) d7_106 (by decide) 108 rfl ?_
            refine g_iushr X18 d7_108 _ rfl 109 rfl ?_
            refine g_sipush X18 (255 : Int32) d7_109 (by decide) 112 rfl ?_
            refine g_iand X18 d7_112 _ rfl 113 rfl ?_
            refine g_callSp X18 (hw _ (List.mem_of_getElem? (i := 84) rfl)) (hw _ (List.mem_of_getElem? (i := 85) rfl)) (hw _ (List.mem_of_getElem? (i := 2) rfl)) (hw _ (List.mem_of_getElem? (i := 86) rfl)) (by decide) (c_fold l Z a0 G ((XT.ushr q0 (16 : Int32)) &&& (255 : Int32)) h) (by simp) (argsL := [.int ((XT.ushr q0 (16 : Int32)) &&& (255 : Int32))]) (rest := [.int (fI ((XT.ushr p0 (16 : Int32)) &&& (255 : Int32)))]) pd_1 rfl rfl rfl rfl 1 (Nat.le_of_eq rfl) (by decide) (by decide) (ck := 0) rfl (cs := 0) rfl (by decide) (by decide) d7_113 116 rfl ?_
            intro w23 T21 X22 hq24
            subst hq24
            by_cases hb116 : (fI ((XT.ushr p0 (16 : Int32)) &&& (255 : Int32))) = (fI ((XT.ushr q0 (16 : Int32)) &&& (255 : Int32)))
            · refine g_icmpNo X22 d7_116 (XT.ii_ne_f hb116) 119 rfl ?_
              refine g_iconst X22 (1 : Int32) d7_119 (by decide) 120 rfl ?_
              refine g_goto X22 d7_120 124 (by decide) (by decide) ?_
              refine g_istore X22 d7_124 (Ls' := #[.val (.int p0), .val (.int q0), .val (.int ((XT.ushr p0 (30 : Int32)) &&& (3 : Int32))), .val (.int ((XT.ushr q0 (30 : Int32)) &&& (3 : Int32))), .val (.int (1 : Int32)), .val (.int (1 : Int32)), .val (.int (1 : Int32))]) rfl 126 rfl ?_
              refine g_iload X22 d7_126 rfl 128 rfl ?_
              refine g_ifNo X22 d7_128 (XT.ii_eq_f (by decide)) 131 rfl ?_
              refine g_iload X22 d7_131 rfl 133 rfl ?_
              refine g_ifNo X22 d7_133 (XT.ii_eq_f (by decide)) 136 rfl ?_
              refine g_iload X22 d7_136 rfl 138 rfl ?_
              refine g_ifNo X22 d7_138 (XT.ii_eq_f (by decide)) 141 rfl ?_
              refine g_iconst X22 (1 : Int32) d7_141 (by decide) 142 rfl ?_
              refine g_goto X22 d7_142 146 (by decide) (by decide) ?_
              exact g_retN X22 (t := .boolean) rfl (by simp) d7_146 _ rfl (by decide) (by decide) ⟨rfl, _, rfl, (by rw [show sameB p0 q0 = true from by unfold sameB nnP; first | (rw [decide_eq_true hb16]; simp [hb116, hb23, hb54, hb79, hb91]) | simp [hb116, hb16, hb23, hb54, hb79, hb91]]; rfl)⟩
            · refine g_icmpYes X22 d7_116 (XT.ii_ne_t hb116) 123 (by decide) (by decide) ?_
              refine g_iconst X22 (0 : Int32) d7_123 (by decide) 124 rfl ?_
              refine g_istore X22 d7_124 (Ls' := #[.val (.int p0), .val (.int q0), .val (.int ((XT.ushr p0 (30 : Int32)) &&& (3 : Int32))), .val (.int ((XT.ushr q0 (30 : Int32)) &&& (3 : Int32))), .val (.int (1 : Int32)), .val (.int (1 : Int32)), .val (.int (0 : Int32))]) rfl 126 rfl ?_
              refine g_iload X22 d7_126 rfl 128 rfl ?_
              refine g_ifNo X22 d7_128 (XT.ii_eq_f (by decide)) 131 rfl ?_
              refine g_iload X22 d7_131 rfl 133 rfl ?_
              refine g_ifNo X22 d7_133 (XT.ii_eq_f (by decide)) 136 rfl ?_
              refine g_iload X22 d7_136 rfl 138 rfl ?_
              refine g_ifYes X22 d7_138 (XT.ii_eq_t (by decide)) 145 (by decide) (by decide) ?_
              refine g_iconst X22 (0 : Int32) d7_145 (by decide) 146 rfl ?_
              exact g_retN X22 (t := .boolean) rfl (by simp) d7_146 _ rfl (by decide) (by decide) ⟨rfl, _, rfl, (by rw [show sameB p0 q0 = false from by unfold sameB nnP; first | (rw [decide_eq_true hb16]; simp [hb116, hb23, hb54, hb79, hb91]) | simp [hb116, hb16, hb23, hb54, hb79, hb91]]; rfl)⟩
        · refine g_icmpYes X14 d7_79 (XT.ii_ne_t hb79) 86 (by decide) (by decide) ?_
          refine g_iconst X14 (0 : Int32) d7_86 (by decide) 87 rfl ?_
          refine g_istore X14 d7_87 (Ls' := #[.val (.int p0), .val (.int q0), .val (.int ((XT.ushr p0 (30 : Int32)) &&& (3 : Int32))), .val (.int ((XT.ushr q0 (30 : Int32)) &&& (3 : Int32))), .val (.int (1 : Int32)), .val (.int (0 : Int32)), .unset]) rfl 89 rfl ?_
          refine g_iloadN X14 d7_89 rfl 90 rfl ?_
          refine g_iconst X14 (3 : Int32) d7_90 (by decide) 91 rfl ?_
          by_cases hb91 : ((XT.ushr p0 (30 : Int32)) &&& (3 : Int32)) < (3 : Int32)
          · refine g_icmpYes X14 d7_91 (XT.ii_lt_t hb91) 119 (by decide) (by decide) ?_
            refine g_iconst X14 (1 : Int32) d7_119 (by decide) 120 rfl ?_
            refine g_goto X14 d7_120 124 (by decide) (by decide) ?_
            refine g_istore X14 d7_124 (Ls' := #[.val (.int p0), .val (.int q0), .val (.int ((XT.ushr p0 (30 : Int32)) &&& (3 : Int32))), .val (.int ((XT.ushr q0 (30 : Int32)) &&& (3 : Int32))), .val (.int (1 : Int32)), .val (.int (0 : Int32)), .val (.int (1 : Int32))]) rfl 126 rfl ?_
            refine g_iload X14 d7_126 rfl 128 rfl ?_
            refine g_ifNo X14 d7_128 (XT.ii_eq_f (by decide)) 131 rfl ?_
            refine g_iload X14 d7_131 rfl 133 rfl ?_
            refine g_ifYes X14 d7_133 (XT.ii_eq_t (by decide)) 145 (by decide) (by decide) ?_
            refine g_iconst X14 (0 : Int32) d7_145 (by decide) 146 rfl ?_
            exact g_retN X14 (t := .boolean) rfl (by simp) d7_146 _ rfl (by decide) (by decide) ⟨rfl, _, rfl, (by rw [show sameB p0 q0 = false from by unfold sameB nnP; first | (rw [decide_eq_true hb16]; simp [hb23, hb54, hb79, hb91]) | simp [hb16, hb23, hb54, hb79, hb91]]; rfl)⟩
          · refine g_icmpNo X14 d7_91 (XT.ii_lt_f hb91) 94 rfl ?_
            refine g_iloadN X14 d7_94 rfl 95 rfl ?_
            refine g_bipush X14 (16 : Int32) d7_95 (by decide) 97 rfl ?_
            refine g_iushr X14 d7_97 _ rfl 98 rfl ?_
            refine g_sipush X14 (255 : Int32) d7_98 (by decide) 101 rfl ?_
            refine g_iand X14 d7_101 _ rfl 102 rfl ?_
            refine g_callSp X14 (hw _ (List.mem_of_getElem? (i := 84) rfl)) (hw _ (List.mem_of_getElem? (i := 85) rfl)) (hw _ (List.mem_of_getElem? (i := 2) rfl)) (hw _ (List.mem_of_getElem? (i := 86) rfl)) (by decide) (c_fold l Z a0 G ((XT.ushr p0 (16 : Int32)) &&& (255 : Int32)) h) (by simp) (argsL := [.int ((XT.ushr p0 (16 : Int32)) &&& (255 : Int32))]) (rest := []) pd_1 rfl rfl rfl rfl 0 (Nat.le_of_eq rfl) (by decide) (by decide) (ck := 0) rfl (cs := 0) rfl (by decide) (by decide) d7_102 105 rfl ?_
            intro w27 T25 X26 hq28
            subst hq28
            refine g_iloadN X26 d7_105 rfl 106 rfl ?_
            refine g_bipush X26 (16 : Int32) d7_106 (by decide) 108 rfl ?_
            refine g_iushr X26 d7_108 _ rfl 109 rfl ?_
            refine g_sipush X26 (255 : Int32) d7_109 (by decide) 112 rfl ?_
            refine g_iand X26 d7_112 _ rfl 113 rfl ?_
            refine g_callSp X26 (hw _ (List.mem_of_getElem? (i := 84) rfl)) (hw _ (List.mem_of_getElem? (i := 85) rfl)) (hw _ (List.mem_of_getElem? (i := 2) rfl)) (hw _ (List.mem_of_getElem? (i := 86) rfl)) (by decide) (c_fold l Z a0 G ((XT.ushr q0 (16 : Int32)) &&& (255 : Int32)) h) (by simp) (argsL := [.int ((XT.ushr q0 (16 : Int32)) &&& (255 : Int32))]) (rest := [.int (fI ((XT.ushr p0 (16 : Int32)) &&& (255 : Int32)))]) pd_1 rfl rfl rfl rfl 1 (Nat.le_of_eq rfl) (by decide) (by decide) (ck := 0) rfl (cs := 0) rfl (by decide) (by decide) d7_113 116 rfl ?_
            intro w31 T29 X30 hq32
            subst hq32
            by_cases hb116 : (fI ((XT.ushr p0 (16 : Int32)) &&& (255 : Int32))) = (fI ((XT.ushr q0 (16 : Int32)) &&& (255 : Int32)))
            · refine g_icmpNo X30 d7_116 (XT.ii_ne_f hb116) 119 rfl ?_
              refine g_iconst X30 (1 : Int32) d7_119 (by decide) 120 rfl ?_
              refine g_goto X30 d7_120 124 (by decide) (by decide) ?_
              refine g_istore X30 d7_124 (Ls' := #[.val (.int p0), .val (.int q0), .val (.int ((XT.ushr p0 (30 : Int32)) &&& (3 : Int32))), .val (.int ((XT.ushr q0 (30 : Int32)) &&& (3 : Int32))), .val (.int (1 : Int32)), .val (.int (0 : Int32)), .val (.int (1 : Int32))]) rfl 126 rfl ?_
              refine g_iload X30 d7_126 rfl 128 rfl ?_
              refine g_ifNo X30 d7_128 (XT.ii_eq_f (by decide)) 131 rfl ?_
              refine g_iload X30 d7_131 rfl 133 rfl ?_
              refine g_ifYes X30 d7_133 (XT.ii_eq_t (by decide)) 145 (by decide) (by decide) ?_
              refine g_iconst X30 (0 : Int32) d7_145 (by decide) 146 rfl ?_
              exact g_retN X30 (t := .boolean) rfl (by simp) d7_146 _ rfl (by decide) (by decide) ⟨rfl, _, rfl, (by rw [show sameB p0 q0 = false from by unfold sameB nnP; first | (rw [decide_eq_true hb16]; simp [hb116, hb23, hb54, hb79, hb91]) | simp [hb116, hb16, hb23, hb54, hb79, hb91]]; rfl)⟩
            · refine g_icmpYes X30 d7_116 (XT.ii_ne_t hb116) 123 (by decide) (by decide) ?_
              refine g_iconst X30 (0 : Int32) d7_123 (by decide) 124 rfl ?_
              refine g_istore X30 d7_124 (Ls' := #[.val (.int p0), .val (.int q0), .val (.int ((XT.ushr p0 (30 : Int32)) &&& (3 : Int32))), .val (.int ((XT.ushr q0 (30 : Int32)) &&& (3 : Int32))), .val (.int (1 : Int32)), .val (.int (0 : Int32)), .val (.int (0 : Int32))]) rfl 126 rfl ?_
              refine g_iload X30 d7_126 rfl 128 rfl ?_
              refine g_ifNo X30 d7_128 (XT.ii_eq_f (by decide)) 131 rfl ?_
              refine g_iload X30 d7_131 rfl 133 rfl ?_
              refine g_ifYes X30 d7_133 (XT.ii_eq_t (by decide)) 145 (by decide) (by decide) ?_
              refine g_iconst X30 (0 : Int32) d7_145 (by decide) 146 rfl ?_
              exact g_retN X30 (t := .boolean) rfl (by simp) d7_146 _ rfl (by decide) (by decide) ⟨rfl, _, rfl, (by rw [show sameB p0 q0 = false from by unfold sameB nnP; first | (rw [decide_eq_true hb16]; simp [hb116, hb23, hb54, hb79, hb91]) | simp [hb116, hb16, hb23, hb54, hb79, hb91]]; rfl)⟩
    · refine g_icmpNo X d7_23 (XT.ii_lt_f hb23) 26 rfl ?_
      refine g_iloadN X d7_26 rfl 27 rfl ?_
      refine g_sipush X (255 : Int32) d7_27 (by decide) 30 rfl ?_
      refine g_iand X d7_30 _ rfl 31 rfl ?_
      refine g_callSp X (hw _ (List.mem_of_getElem? (i := 84) rfl)) (hw _ (List.mem_of_getElem? (i := 85) rfl)) (hw _ (List.mem_of_getElem? (i := 2) rfl)) (hw _ (List.mem_of_getElem? (i := 86) rfl)) (by decide) (c_fold l Z a0 G (p0 &&& (255 : Int32)) h) (by simp) (argsL := [.int (p0 &&& (255 : Int32))]) (rest := []) pd_1 rfl rfl rfl rfl 0 (Nat.le_of_eq rfl) (by decide) (by decide) (ck := 0) rfl (cs := 0) rfl (by decide) (by decide) d7_31 34 rfl ?_
      intro w35 T33 X34 hq36
      subst hq36
      refine g_iloadN X34 d7_34 rfl 35 rfl ?_
      refine g_sipush X34 (255 : Int32) d7_35 (by decide) 38 rfl ?_
      refine g_iand X34 d7_38 _ rfl 39 rfl ?_
      refine g_callSp X34 (hw _ (List.mem_of_getElem? (i := 84) rfl)) (hw _ (List.mem_of_getElem? (i := 85) rfl)) (hw _ (List.mem_of_getElem? (i := 2) rfl)) (hw _ (List.mem_of_getElem? (i := 86) rfl)) (by decide) (c_fold l Z a0 G (q0 &&& (255 : Int32)) h) (by simp) (argsL := [.int (q0 &&& (255 : Int32))]) (rest := [.int (fI (p0 &&& (255 : Int32)))]) pd_1 rfl rfl rfl rfl 1 (Nat.le_of_eq rfl) (by decide) (by decide) (ck := 0) rfl (cs := 0) rfl (by decide) (by decide) d7_39 42 rfl ?_
      intro w39 T37 X38 hq40
      subst hq40
      by_cases hb42 : (fI (p0 &&& (255 : Int32))) = (fI (q0 &&& (255 : Int32)))
      · refine g_icmpNo X38 d7_42 (XT.ii_ne_f hb42) 45 rfl ?_
        refine g_iconst X38 (1 : Int32) d7_45 (by decide) 46 rfl ?_
        refine g_goto X38 d7_46 50 (by decide) (by decide) ?_
        refine g_istore X38 d7_50 (Ls' := #[.val (.int p0), .val (.int q0), .val (.int ((XT.ushr p0 (30 : Int32)) &&& (3 : Int32))), .val (.int ((XT.ushr q0 (30 : Int32)) &&& (3 : Int32))), .val (.int (1 : Int32)), .unset, .unset]) rfl 52 rfl ?_
        refine g_iloadN X38 d7_52 rfl 53 rfl ?_
        refine g_iconst X38 (2 : Int32) d7_53 (by decide) 54 rfl ?_
        by_cases hb54 : ((XT.ushr p0 (30 : Int32)) &&& (3 : Int32)) < (2 : Int32)
        · refine g_icmpYes X38 d7_54 (XT.ii_lt_t hb54) 82 (by decide) (by decide) ?_
          refine g_iconst X38 (1 : Int32) d7_82 (by decide) 83 rfl ?_
          refine g_goto X38 d7_83 87 (by decide) (by decide) ?_
          refine g_istore X38 d7_87 (Ls' := #[.val (.int p0), .val (.int q0), .val (.int ((XT.ushr p0 (30 : Int32)) &&& (3 : Int32))), .val (.int ((XT.ushr q0 (30 : Int32)) &&& (3 : Int32))), .val (.int (1 : Int32)), .val (.int (1 : Int32)), .unset]) rfl 89 rfl ?_
          refine g_iloadN X38 d7_89 rfl 90 rfl ?_
          refine g_iconst X38 (3 : Int32) d7_90 (by decide) 91 rfl ?_
          by_cases hb91 : ((XT.ushr p0 (30 : Int32)) &&& (3 : Int32)) < (3 : Int32)
          · refine g_icmpYes X38 d7_91 (XT.ii_lt_t hb91) 119 (by decide) (by decide) ?_
            refine g_iconst X38 (1 : Int32) d7_119 (by decide) 120 rfl ?_
            refine g_goto X38 d7_120 124 (by decide) (by decide) ?_
            refine g_istore X38 d7_124 (Ls' := #[.val (.int p0), .val (.int q0), .val (.int ((XT.ushr p0 (30 : Int32)) &&& (3 : Int32))), .val (.int ((XT.ushr q0 (30 : Int32)) &&& (3 : Int32))), .val (.int (1 : Int32)), .val (.int (1 : Int32)), .val (.int (1 : Int32))]) rfl 126 rfl ?_
            refine g_iload X38 d7_126 rfl 128 rfl ?_
            refine g_ifNo X38 d7_128 (XT.ii_eq_f (by decide)) 131 rfl ?_
            refine g_iload X38 d7_131 rfl 133 rfl ?_
            refine g_ifNo X38 d7_133 (XT.ii_eq_f (by decide)) 136 rfl ?_
            refine g_iload X38 d7_136 rfl 138 rfl ?_
            refine g_ifNo X38 d7_138 (XT.ii_eq_f (by decide)) 141 rfl ?_
            refine g_iconst X38 (1 : Int32) d7_141 (by decide) 142 rfl ?_
            refine g_goto X38 d7_142 146 (by decide) (by decide) ?_
            exact g_retN X38 (t := .boolean) rfl (by simp) d7_146 _ rfl (by decide) (by decide) ⟨rfl, _, rfl, (by rw [show sameB p0 q0 = true from by unfold sameB nnP; first | (rw [decide_eq_true hb16]; simp [hb23, hb42, hb54, hb91]) | simp [hb16, hb23, hb42, hb54, hb91]]; rfl)⟩
          · refine g_icmpNo X38 d7_91 (XT.ii_lt_f hb91) 94 rfl ?_
            refine g_iloadN X38 d7_94 rfl 95 rfl ?_
            refine g_bipush X38 (16 : Int32) d7_95 (by decide) 97 rfl ?_
            refine g_iushr X38 d7_97 _ rfl 98 rfl ?_
            refine g_sipush X38 (255 : Int32) d7_98 (by decide) 101 rfl ?_
            refine g_iand X38 d7_101 _ rfl 102 rfl ?_
            refine g_callSp X38 (hw _ (List.mem_of_getElem? (i := 84) rfl)) (hw _ (List.mem_of_getElem? (i := 85) rfl)) (hw _ (List.mem_of_getElem? (i := 2) rfl)) (hw _ (List.mem_of_getElem? (i := 86) rfl)) (by decide) (c_fold l Z a0 G ((XT.ushr p0 (16 : Int32)) &&& (255 : Int32)) h) (by simp) (argsL := [.int ((XT.ushr p0 (16 : Int32)) &&& (255 : Int32))]) (rest := []) pd_1 rfl rfl rfl rfl 0 (Nat.le_of_eq rfl) (by decide) (by decide) (ck := 0) rfl (cs := 0) rfl (by decide) (by decide) d7_102 105 rfl ?_
            intro w43 T41 X42 hq44
            subst hq44
            refine g_iloadN X42 d7_105 rfl 106 rfl ?_
            refine g_bipush X42 (16 : Int32) d7_106 (by decide) 108 rfl ?_
            refine g_iushr X42 d7_108 _ rfl 109 rfl ?_
            refine g_sipush X42 (255 : Int32) d7_109 (by decide) 112 rfl ?_
            refine g_iand X42 d7_112 _ rfl 113 rfl ?_
            refine g_callSp X42 (hw _ (List.mem_of_getElem? (i := 84) rfl)) (hw _ (List.mem_of_getElem? (i := 85) rfl)) (hw _ (List.mem_of_getElem? (i := 2) rfl)) (hw _ (List.mem_of_getElem? (i := 86) rfl)) (by decide) (c_fold l Z a0 G ((XT.ushr q0 (16 : Int32)) &&& (255 : Int32)) h) (by simp) (argsL := [.int ((XT.ushr q0 (16 : Int32)) &&& (255 : Int32))]) (rest := [.int (fI ((XT.ushr p0 (16 : Int32)) &&& (255 : Int32)))]) pd_1 rfl rfl rfl rfl 1 (Nat.le_of_eq rfl) (by decide) (by decide) (ck := 0) rfl (cs := 0) rfl (by decide) (by decide) d7_113 116 rfl ?_
            intro w47 T45 X46 hq48
            subst hq48
            by_cases hb116 : (fI ((XT.ushr p0 (16 : Int32)) &&& (255 : Int32))) = (fI ((XT.ushr q0 (16 : Int32)) &&& (255 : Int32)))
            · refine g_icmpNo X46 d7_116 (XT.ii_ne_f hb116) 119 rfl ?_
              refine g_iconst X46 (1 : Int32) d7_119 (by decide) 120 rfl ?_
              refine g_goto X46 d7_120 124 (by decide) (by decide) ?_
              refine g_istore X46 d7_124 (Ls' := #[.val (.int p0), .val (.int q0), .val (.int ((XT.ushr p0 (30 : Int32)) &&& (3 : Int32))), .val (.int ((XT.ushr q0 (30 : Int32)) &&& (3 : Int32))), .val (.int (1 : Int32)), .val (.int (1 : Int32)), .val (.int (1 : Int32))]) rfl 126 rfl ?_
              refine g_iload X46 d7_126 rfl 128 rfl ?_
              refine g_ifNo X46 d7_128 (XT.ii_eq_f (by decide)) 131 rfl ?_
              refine g_iload X46 d7_131 rfl 133 rfl ?_
              refine g_ifNo X46 d7_133 (XT.ii_eq_f (by decide)) 136 rfl ?_
              refine g_iload X46 d7_136 rfl 138 rfl ?_
              refine g_ifNo X46 d7_138 (XT.ii_eq_f (by decide)) 141 rfl ?_
              refine g_iconst X46 (1 : Int32) d7_141 (by decide) 142 rfl ?_
              refine g_goto X46 d7_142 146 (by decide) (by decide) ?_
              exact g_retN X46 (t := .boolean) rfl (by simp) d7_146 _ rfl (by decide) (by decide) ⟨rfl, _, rfl, (by rw [show sameB p0 q0 = true from by unfold sameB nnP; first | (rw [decide_eq_true hb16]; simp [hb116, hb23, hb42, hb54, hb91]) | simp [hb116, hb16, hb23, hb42, hb54, hb91]]; rfl)⟩
            · refine g_icmpYes X46 d7_116 (XT.ii_ne_t hb116) 123 (by decide) (by decide) ?_
              refine g_iconst X46 (0 : Int32) d7_123 (by decide) 124 rfl ?_
              refine g_istore X46 d7_124 (Ls' := #[.val (.int p0), .val (.int q0), .val (.int ((XT.ushr p0 (30 : Int32)) &&& (3 : Int32))), .val (.int ((XT.ushr q0 (30 : Int32)) &&& (3 : Int32))), .val (.int (1 : Int32)), .val (.int (1 : Int32)), .val (.int (0 : Int32))]) rfl 126 rfl ?_
              refine g_iload X46 d7_126 rfl 128 rfl ?_
              refine g_ifNo X46 d7_128 (XT.ii_eq_f (by decide)) 131 rfl ?_
              refine g_iload X46 d7_131 rfl 133 rfl ?_
              refine g_ifNo X46 d7_133 (XT.ii_eq_f (by decide)) 136 rfl ?_
              refine g_iload X46 d7_136 rfl 138 rfl ?_
              refine g_ifYes X46 d7_138 (XT.ii_eq_t (by decide)) 145 (by decide) (by decide) ?_
              refine g_iconst X46 (0 : Int32) d7_145 (by decide) 146 rfl ?_
              exact g_retN X46 (t := .boolean) rfl (by simp) d7_146 _ rfl (by decide) (by decide) ⟨rfl, _, rfl, (by rw [show sameB p0 q0 = false from by unfold sameB nnP; first | (rw [decide_eq_true hb16]; simp [hb116, hb23, hb42, hb54, hb91]) | simp [hb116, hb16, hb23, hb42, hb54, hb91]]; rfl)⟩
        · refine g_icmpNo X38 d7_54 (XT.ii_lt_f hb54) 57 rfl ?_
          refine g_iloadN X38 d7_57 rfl 58 rfl ?_
          refine g_bipush X38 (8 : Int32) d7_58 (by decide) 60 rfl ?_
          refine g_iushr X38 d7_60 _ rfl 61 rfl ?_
          refine g_sipush X38 (255 : Int32) d7_61 (by decide) 64 rfl ?_
          refine g_iand X38 d7_64 _ rfl 65 rfl ?_
          refine g_callSp X38 (hw _ (List.mem_of_getElem? (i := 84) rfl)) (hw _ (List.mem_of_getElem? (i := 85) rfl)) (hw _ (List.mem_of_getElem? (i := 2) rfl)) (hw _ (List.mem_of_getElem? (i := 86) rfl)) (by decide) (c_fold l Z a0 G ((XT.ushr p0 (8 : Int32)) &&& (255 : Int32)) h) (by simp) (argsL := [.int ((XT.ushr p0 (8 : Int32)) &&& (255 : Int32))]) (rest := []) pd_1 rfl rfl rfl rfl 0 (Nat.le_of_eq rfl) (by decide) (by decide) (ck := 0) rfl (cs := 0) rfl (by decide) (by decide) d7_65 68 rfl ?_
          intro w51 T49 X50 hq52
          subst hq52
          refine g_iloadN X50 d7_68 rfl 69 rfl ?_
          refine g_bipush X50 (8 : Int32) d7_69 (by decide) 71 rfl ?_
          refine g_iushr X50 d7_71 _ rfl 72 rfl ?_
          refine g_sipush X50 (255 : Int32) d7_72 (by decide) 75 rfl ?_
          refine g_iand X50 d7_75 _ rfl 76 rfl ?_
          refine g_callSp X50 (hw _ (List.mem_of_getElem? (i := 84) rfl)) (hw _ (List.mem_of_getElem? (i := 85) rfl)) (hw _ (List.mem_of_getElem? (i := 2) rfl)) (hw _ (List.mem_of_getElem? (i := 86) rfl)) (by decide) (c_fold l Z a0 G ((XT.ushr q0 (8 : Int32)) &&& (255 : Int32)) h) (by simp) (argsL := [.int ((XT.ushr q0 (8 : Int32)) &&& (255 : Int32))]) (rest := [.int (fI ((XT.ushr p0 (8 : Int32)) &&& (255 : Int32)))]) pd_1 rfl rfl rfl rfl 1 (Nat.le_of_eq rfl) (by decide) (by decide) (ck := 0) rfl (cs := 0) rfl (by decide) (by decide) d7_76 79 rfl ?_
          intro w55 T53 X54 hq56
          subst hq56
          by_cases hb79 : (fI ((XT.ushr p0 (8 : Int32)) &&& (255 : Int32))) = (fI ((XT.ushr q0 (8 : Int32)) &&& (255 : Int32)))
          · refine g_icmpNo X54 d7_79 (XT.ii_ne_f hb79) 82 rfl ?_
            refine g_iconst X54 (1 : Int32) d7_82 (by decide) 83 rfl ?_
            refine g_goto X54 d7_83 87 (by decide) (by decide) ?_
            refine g_istore X54 d7_87 (Ls' := #[.val (.int p0), .val (.int q0), .val (.int ((XT.ushr p0 (30 : Int32)) &&& (3 : Int32))), .val (.int ((XT.ushr q0 (30 : Int32)) &&& (3 : Int32))), .val (.int (1 : Int32)), .val (.int (1 : Int32)), .unset]) rfl 89 rfl ?_
            refine g_iloadN X54 d7_89 rfl 90 rfl ?_
            refine g_iconst X54 (3 : Int32) d7_90 (by decide) 91 rfl ?_
            by_cases hb91 : ((XT.ushr p0 (30 : Int32)) &&& (3 : Int32)) < (3 : Int32)
            · refine g_icmpYes X54 d7_91 (XT.ii_lt_t hb91) 119 (by decide) (by decide) ?_
              refine g_iconst X54 (1 : Int32) d7_119 (by decide) 120 rfl ?_
              refine g_goto X54 d7_120 124 (by decide) (by decide) ?_
              refine g_istore X54 d7_124 (Ls' := #[.val (.int p0), .val (.int q0), .val (.int ((XT.ushr p0 (30 : Int32)) &&& (3 : Int32))), .val (.int ((XT.ushr q0 (30 : Int32)) &&& (3 : Int32))), .val (.int (1 : Int32)), .val (.int (1 : Int32)), .val (.int (1 : Int32))]) rfl 126 rfl ?_
              refine g_iload X54 d7_126 rfl 128 rfl ?_
              refine g_ifNo X54 d7_128 (XT.ii_eq_f (by decide)) 131 rfl ?_
              refine g_iload X54 d7_131 rfl 133 rfl ?_
              refine g_ifNo X54 d7_133 (XT.ii_eq_f (by decide)) 136 rfl ?_
              refine g_iload X54 d7_136 rfl 138 rfl ?_
              refine g_ifNo X54 d7_138 (XT.ii_eq_f (by decide)) 141 rfl ?_
              refine g_iconst X54 (1 : Int32) d7_141 (by decide) 142 rfl ?_
              refine g_goto X54 d7_142 146 (by decide) (by decide) ?_
              exact g_retN X54 (t := .boolean) rfl (by simp) d7_146 _ rfl (by decide) (by decide) ⟨rfl, _, rfl, (by rw [show sameB p0 q0 = true from by unfold sameB nnP; first | (rw [decide_eq_true hb16]; simp [hb23, hb42, hb54, hb79, hb91]) | simp [hb16, hb23, hb42, hb54, hb79, hb91]]; rfl)⟩
            · refine g_icmpNo X54 d7_91 (XT.ii_lt_f hb91) 94 rfl ?_
              refine g_iloadN X54 d7_94 rfl 95 rfl ?_
              refine g_bipush X54 (16 : Int32) d7_95 (by decide) 97 rfl ?_
              refine g_iushr X54 d7_97 _ rfl 98 rfl ?_
              refine g_sipush X54 (255 : Int32) d7_98 (by decide) 101 rfl ?_
              refine g_iand X54 d7_101 _ rfl 102 rfl ?_
              refine g_callSp X54 (hw _ (List.mem_of_getElem? (i := 84) rfl)) (hw _ (List.mem_of_getElem? (i := 85) rfl)) (hw _ (List.mem_of_getElem? (i := 2) rfl)) (hw _ (List.mem_of_getElem? (i := 86) rfl)) (by decide) (c_fold l Z a0 G ((XT.ushr p0 (16 : Int32)) &&& (255 : Int32)) h) (by simp) (argsL := [.int ((XT.ushr p0 (16 : Int32)) &&& (255 : Int32))]) (rest := []) pd_1 rfl rfl rfl rfl 0 (Nat.le_of_eq rfl) (by decide) (by decide) (ck := 0) rfl (cs := 0) rfl (by decide) (by decide) d7_102 105 rfl ?_
              intro w59 T57 X58 hq60
              subst hq60
              refine g_iloadN X58 d7_105 rfl 106 rfl ?_
              refine g_bipush X58 (16 : Int32) d7_106 (by decide) 108 rfl ?_
              refine g_iushr X58 d7_108 _ rfl 109 rfl ?_
              refine g_sipush X58 (255 : Int32) d7_109 (by decide) 112 rfl ?_
              refine g_iand X58 d7_112 _ rfl 113 rfl ?_
              refine g_callSp X58 (hw _ (List.mem_of_getElem? (i := 84) rfl)) (hw _ (List.mem_of_getElem? (i := 85) rfl)) (hw _ (List.mem_of_getElem? (i := 2) rfl)) (hw _ (List.mem_of_getElem? (i := 86) rfl)) (by decide) (c_fold l Z a0 G ((XT.ushr q0 (16 : Int32)) &&& (255 : Int32)) h) (by simp) (argsL := [.int ((XT.ushr q0 (16 : Int32)) &&& (255 : Int32))]) (rest := [.int (fI ((XT.ushr p0 (16 : Int32)) &&& (255 : Int32)))]) pd_1 rfl rfl rfl rfl 1 (Nat.le_of_eq rfl) (by decide) (by decide) (ck := 0) rfl (cs := 0) rfl (by decide) (by decide) d7_113 116 rfl ?_
              intro w63 T61 X62 hq64
              subst hq64
              by_cases hb116 : (fI ((XT.ushr p0 (16 : Int32)) &&& (255 : Int32))) = (fI ((XT.ushr q0 (16 : Int32)) &&& (255 : Int32)))
              · refine g_icmpNo X62 d7_116 (XT.ii_ne_f hb116) 119 rfl ?_
                refine g_iconst X62 (1 : Int32) d7_119 (by decide) 120 rfl ?_
                refine g_goto X62 d7_120 124 (by decide) (by decide) ?_
                refine g_istore X62 d7_124 (Ls' := #[.val (.int p0), .val (.int q0), .val (.int ((XT.ushr p0 (30 : Int32)) &&& (3 : Int32))), .val (.int ((XT.ushr q0 (30 : Int32)) &&& (3 : Int32))), .val (.int (1 : Int32)), .val (.int (1 : Int32)), .val (.int (1 : Int32))]) rfl 126 rfl ?_
                refine g_iload X62 d7_126 rfl 128 rfl ?_
                refine g_ifNo X62 d7_128 (XT.ii_eq_f (by decide)) 131 rfl ?_
                refine g_iload X62 d7_131 rfl 133 rfl ?_
                refine g_ifNo X62 d7_133 (XT.ii_eq_f (by decide)) 136 rfl ?_
                refine g_iload X62 d7_136 rfl 138 rfl ?_
                refine g_ifNo X62 d7_138 (XT.ii_eq_f (by decide)) 141 rfl ?_
                refine g_iconst X62 (1 : Int32) d7_141 (by decide) 142 rfl ?_
                refine g_goto X62 d7_142 146 (by decide) (by decide) ?_
                exact g_retN X62 (t := .boolean) rfl (by simp) d7_146 _ rfl (by decide) (by decide) ⟨rfl, _, rfl, (by rw [show sameB p0 q0 = true from by unfold sameB nnP; first | (rw [decide_eq_true hb16]; simp [hb116, hb23, hb42, hb54, hb79, hb91]) | simp [hb116, hb16, hb23, hb42, hb54, hb79, hb91]]; rfl)⟩
              · refine g_icmpYes X62 d7_116 (XT.ii_ne_t hb116) 123 (by decide) (by decide) ?_
                refine g_iconst X62 (0 : Int32) d7_123 (by decide) 124 rfl ?_
                refine g_istore X62 d7_124 (Ls' := #[.val (.int p0), .val (.int q0), .val (.int ((XT.ushr p0 (30 : Int32)) &&& (3 : Int32))), .val (.int ((XT.ushr q0 (30 : Int32)) &&& (3 : Int32))), .val (.int (1 : Int32)), .val (.int (1 : Int32)), .val (.int (0 : Int32))]) rfl 126 rfl ?_
                refine g_iload X62 d7_126 rfl 128 rfl ?_
                refine g_ifNo X62 d7_128 (XT.ii_eq_f (by decide)) 131 rfl ?_
                refine g_iload X62 d7_131 rfl 133 rfl ?_
                refine g_ifNo X62 d7_133 (XT.ii_eq_f (by decide)) 136 rfl ?_
                refine g_iload X62 d7_136 rfl 138 rfl ?_
                refine g_ifYes X62 d7_138 (XT.ii_eq_t (by decide)) 145 (by decide) (by decide) ?_
                refine g_iconst X62 (0 : Int32) d7_145 (by decide) 146 rfl ?_
                exact g_retN X62 (t := .boolean) rfl (by simp) d7_146 _ rfl (by decide) (by decide) ⟨rfl, _, rfl, (by rw [show sameB p0 q0 = false from by unfold sameB nnP; first | (rw [decide_eq_true hb16]; simp [hb116, hb23, hb42, hb54, hb79, hb91]) | simp [hb116, hb16, hb23, hb42, hb54, hb79, hb91]]; rfl)⟩
          · refine g_icmpYes X54 d7_79 (XT.ii_ne_t hb79) 86 (by decide) (by decide) ?_
            refine g_iconst X54 (0 : Int32) d7_86 (by decide) 87 rfl ?_
            refine g_istore X54 d7_87 (Ls' := #[.val (.int p0), .val (.int q0), .val (.int ((XT.ushr p0 (30 : Int32)) &&& (3 : Int32))), .val (.int ((XT.ushr q0 (30 : Int32)) &&& (3 : Int32))), .val (.int (1 : Int32)), .val (.int (0 : Int32)), .unset]) rfl 89 rfl ?_
            refine g_iloadN X54 d7_89 rfl 90 rfl ?_
            refine g_iconst X54 (3 : Int32) d7_90 (by decide) 91 rfl ?_
            by_cases hb91 : ((XT.ushr p0 (30 : Int32)) &&& (3 : Int32)) < (3 : Int32)
            · refine g_icmpYes X54 d7_91 (XT.ii_lt_t hb91) 119 (by decide) (by decide) ?_
              refine g_iconst X54 (1 : Int32) d7_119 (by decide) 120 rfl ?_
              refine g_goto X54 d7_120 124 (by decide) (by decide) ?_
              refine g_istore X54 d7_124 (Ls' := #[.val (.int p0), .val (.int q0), .val (.int ((XT.ushr p0 (30 : Int32)) &&& (3 : Int32))), .val (.int ((XT.ushr q0 (30 : Int32)) &&& (3 : Int32))), .val (.int (1 : Int32)), .val (.int (0 : Int32)), .val (.int (1 : Int32))]) rfl 126 rfl ?_
              refine g_iload X54 d7_126 rfl 128 rfl ?_
              refine g_ifNo X54 d7_128 (XT.ii_eq_f (by decide)) 131 rfl ?_
              refine g_iload X54 d7_131 rfl 133 rfl ?_
              refine g_ifYes X54 d7_133 (XT.ii_eq_t (by decide)) 145 (by decide) (by decide) ?_
              refine g_iconst X54 (0 : Int32) d7_145 (by decide) 146 rfl ?_
              exact g_retN X54 (t := .boolean) rfl (by simp) d7_146 _ rfl (by decide) (by decide) ⟨rfl, _, rfl, (by rw [show sameB p0 q0 = false from by unfold sameB nnP; first | (rw [decide_eq_true hb16]; simp [hb23, hb42, hb54, hb79, hb91]) | simp [hb16, hb23, hb42, hb54, hb79, hb91]]; rfl)⟩
            · refine g_icmpNo X54 d7_91 (XT.ii_lt_f hb91) 94 rfl ?_
              refine g_iloadN X54 d7_94 rfl 95 rfl ?_
              refine g_bipush X54 (16 : Int32) d7_95 (by decide) 97 rfl ?_
              refine g_iushr X54 d7_97 _ rfl 98 rfl ?_
              refine g_sipush X54 (255 : Int32) d7_98 (by decide) 101 rfl ?_
              refine g_iand X54 d7_101 _ rfl 102 rfl ?_
              refine g_callSp X54 (hw _ (List.mem_of_getElem? (i := 84) rfl)) (hw _ (List.mem_of_getElem? (i := 85) rfl)) (hw _ (List.mem_of_getElem? (i := 2) rfl)) (hw _ (List.mem_of_getElem? (i := 86) rfl)) (by decide) (c_fold l Z a0 G ((XT.ushr p0 (16 : Int32)) &&& (255 : Int32)) h) (by simp) (argsL := [.int ((XT.ushr p0 (16 : Int32)) &&& (255 : Int32))]) (rest := []) pd_1 rfl rfl rfl rfl 0 (Nat.le_of_eq rfl) (by decide) (by decide) (ck := 0) rfl (cs := 0) rfl (by decide) (by decide) d7_102 105 rfl ?_
              intro w67 T65 X66 hq68
              subst hq68
              refine g_iloadN X66 d7_105 rfl 106 rfl ?_
              refine g_bipush X66 (16 : Int32) d7_106 (by decide) 108 rfl ?_
              refine g_iushr X66 d7_108 _ rfl 109 rfl ?_
              refine g_sipush X66 (255 : Int32) d7_109 (by decide) 112 rfl ?_
              refine g_iand X66 d7_112 _ rfl 113 rfl ?_
              refine g_callSp X66 (hw _ (List.mem_of_getElem? (i := 84) rfl)) (hw _ (List.mem_of_getElem? (i := 85) rfl)) (hw _ (List.mem_of_getElem? (i := 2) rfl)) (hw _ (List.mem_of_getElem? (i := 86) rfl)) (by decide) (c_fold l Z a0 G ((XT.ushr q0 (16 : Int32)) &&& (255 : Int32)) h) (by simp) (argsL := [.int ((XT.ushr q0 (16 : Int32)) &&& (255 : Int32))]) (rest := [.int (fI ((XT.ushr p0 (16 : Int32)) &&& (255 : Int32)))]) pd_1 rfl rfl rfl rfl 1 (Nat.le_of_eq rfl) (by decide) (by decide) (ck := 0) rfl (cs := 0) rfl (by decide) (by decide) d7_113 116 rfl ?_
              intro w71 T69 X70 hq72
              subst hq72
              by_cases hb116 : (fI ((XT.ushr p0 (16 : Int32)) &&& (255 : Int32))) = (fI ((XT.ushr q0 (16 : Int32)) &&& (255 : Int32)))
              · refine g_icmpNo X70 d7_116 (XT.ii_ne_f hb116) 119 rfl ?_
                refine g_iconst X70 (1 : Int32) d7_119 (by decide) 120 rfl ?_
                refine g_goto X70 d7_120 124 (by decide) (by decide) ?_
                refine g_istore X70 d7_124 (Ls' := #[.val (.int p0), .val (.int q0), .val (.int ((XT.ushr p0 (30 : Int32)) &&& (3 : Int32))), .val (.int ((XT.ushr q0 (30 : Int32)) &&& (3 : Int32))), .val (.int (1 : Int32)), .val (.int (0 : Int32)), .val (.int (1 : Int32))]) rfl 126 rfl ?_
                refine g_iload X70 d7_126 rfl 128 rfl ?_
                refine g_ifNo X70 d7_128 (XT.ii_eq_f (by decide)) 131 rfl ?_
                refine g_iload X70 d7_131 rfl 133 rfl ?_
                refine g_ifYes X70 d7_133 (XT.ii_eq_t (by decide)) 145 (by decide) (by decide) ?_
                refine g_iconst X70 (0 : Int32) d7_145 (by decide) 146 rfl ?_
                exact g_retN X70 (t := .boolean) rfl (by simp) d7_146 _ rfl (by decide) (by decide) ⟨rfl, _, rfl, (by rw [show sameB p0 q0 = false from by unfold sameB nnP; first | (rw [decide_eq_true hb16]; simp [hb116, hb23, hb42, hb54, hb79, hb91]) | simp [hb116, hb16, hb23, hb42, hb54, hb79, hb91]]; rfl)⟩
              · refine g_icmpYes X70 d7_116 (XT.ii_ne_t hb116) 123 (by decide) (by decide) ?_
                refine g_iconst X70 (0 : Int32) d7_123 (by decide) 124 rfl ?_
                refine g_istore X70 d7_124 (Ls' := #[.val (.int p0), .val (.int q0), .val (.int ((XT.ushr p0 (30 : Int32)) &&& (3 : Int32))), .val (.int ((XT.ushr q0 (30 : Int32)) &&& (3 : Int32))), .val (.int (1 : Int32)), .val (.int (0 : Int32)), .val (.int (0 : Int32))]) rfl 126 rfl ?_
                refine g_iload X70 d7_126 rfl 128 rfl ?_
                refine g_ifNo X70 d7_128 (XT.ii_eq_f (by decide)) 131 rfl ?_
                refine g_iload X70 d7_131 rfl 133 rfl ?_
                refine g_ifYes X70 d7_133 (XT.ii_eq_t (by decide)) 145 (by decide) (by decide) ?_
                refine g_iconst X70 (0 : Int32) d7_145 (by decide) 146 rfl ?_
                exact g_retN X70 (t := .boolean) rfl (by simp) d7_146 _ rfl (by decide) (by decide) ⟨rfl, _, rfl, (by rw [show sameB p0 q0 = false from by unfold sameB nnP; first | (rw [decide_eq_true hb16]; simp [hb116, hb23, hb42, hb54, hb79, hb91]) | simp [hb116, hb16, hb23, hb42, hb54, hb79, hb91]]; rfl)⟩
      · refine g_icmpYes X38 d7_42 (XT.ii_ne_t hb42) 49 (by decide) (by decide) ?_
        refine g_iconst X38 (0 : Int32) d7_49 (by decide) 50 rfl ?_
        refine g_istore X38 d7_50 (Ls' := #[.val (.int p0), .val (.int q0), .val (.int ((XT.ushr p0 (30 : Int32)) &&& (3 : Int32))), .val (.int ((XT.ushr q0 (30 : Int32)) &&& (3 : Int32))), .val (.int (0 : Int32)), .unset, .unset]) rfl 52 rfl ?_
        refine g_iloadN X38 d7_52 rfl 53 rfl ?_
        refine g_iconst X38 (2 : Int32) d7_53 (by decide) 54 rfl ?_
        by_cases hb54 : ((XT.ushr p0 (30 : Int32)) &&& (3 : Int32)) < (2 : Int32)
        · refine g_icmpYes X38 d7_54 (XT.ii_lt_t hb54) 82 (by decide) (by decide) ?_
          refine g_iconst X38 (1 : Int32) d7_82 (by decide) 83 rfl ?_
          refine g_goto X38 d7_83 87 (by decide) (by decide) ?_
          refine g_istore X38 d7_87 (Ls' := #[.val (.int p0), .val (.int q0), .val (.int ((XT.ushr p0 (30 : Int32)) &&& (3 : Int32))), .val (.int ((XT.ushr q0 (30 : Int32)) &&& (3 : Int32))), .val (.int (0 : Int32)), .val (.int (1 : Int32)), .unset]) rfl 89 rfl ?_
          refine g_iloadN X38 d7_89 rfl 90 rfl ?_
          refine g_iconst X38 (3 : Int32) d7_90 (by decide) 91 rfl ?_
          by_cases hb91 : ((XT.ushr p0 (30 : Int32)) &&& (3 : Int32)) < (3 : Int32)
          · refine g_icmpYes X38 d7_91 (XT.ii_lt_t hb91) 119 (by decide) (by decide) ?_
            refine g_iconst X38 (1 : Int32) d7_119 (by decide) 120 rfl ?_
            refine g_goto X38 d7_120 124 (by decide) (by decide) ?_
            refine g_istore X38 d7_124 (Ls' := #[.val (.int p0), .val (.int q0), .val (.int ((XT.ushr p0 (30 : Int32)) &&& (3 : Int32))), .val (.int ((XT.ushr q0 (30 : Int32)) &&& (3 : Int32))), .val (.int (0 : Int32)), .val (.int (1 : Int32)), .val (.int (1 : Int32))]) rfl 126 rfl ?_
            refine g_iload X38 d7_126 rfl 128 rfl ?_
            refine g_ifYes X38 d7_128 (XT.ii_eq_t (by decide)) 145 (by decide) (by decide) ?_
            refine g_iconst X38 (0 : Int32) d7_145 (by decide) 146 rfl ?_
            exact g_retN X38 (t := .boolean) rfl (by simp) d7_146 _ rfl (by decide) (by decide) ⟨rfl, _, rfl, (by rw [show sameB p0 q0 = false from by unfold sameB nnP; first | (rw [decide_eq_true hb16]; simp [hb23, hb42, hb54, hb91]) | simp [hb16, hb23, hb42, hb54, hb91]]; rfl)⟩
          · refine g_icmpNo X38 d7_91 (XT.ii_lt_f hb91) 94 rfl ?_
            refine g_iloadN X38 d7_94 rfl 95 rfl ?_
            refine g_bipush X38 (16 : Int32) d7_95 (by decide) 97 rfl ?_
            refine g_iushr X38 d7_97 _ rfl 98 rfl ?_
            refine g_sipush X38 (255 : Int32) d7_98 (by decide) 101 rfl ?_
            refine g_iand X38 d7_101 _ rfl 102 rfl ?_
            refine g_callSp X38 (hw _ (List.mem_of_getElem? (i := 84) rfl)) (hw _ (List.mem_of_getElem? (i := 85) rfl)) (hw _ (List.mem_of_getElem? (i := 2) rfl)) (hw _ (List.mem_of_getElem? (i := 86) rfl)) (by decide) (c_fold l Z a0 G ((XT.ushr p0 (16 : Int32)) &&& (255 : Int32)) h) (by simp) (argsL := [.int ((XT.ushr p0 (16 : Int32)) &&& (255 : Int32))]) (rest := []) pd_1 rfl rfl rfl rfl 0 (Nat.le_of_eq rfl) (by decide) (by decide) (ck := 0) rfl (cs := 0) rfl (by decide) (by decide) d7_102 105 rfl ?_
            intro w75 T73 X74 hq76
            subst hq76
            refine g_iloadN X74 d7_105 rfl 106 rfl ?_
            refine g_bipush X74 (16 : Int32) d7_106 (by decide) 108 rfl ?_
            refine g_iushr X74 d7_108 _ rfl 109 rfl ?_
            refine g_sipush X74 (255 : Int32) d7_109 (by decide) 112 rfl ?_
            refine g_iand X74 d7_112 _ rfl 113 rfl ?_
            refine g_callSp X74 (hw _ (List.mem_of_getElem? (i := 84) rfl)) (hw _ (List.mem_of_getElem? (i := 85) rfl)) (hw _ (List.mem_of_getElem? (i := 2) rfl)) (hw _ (List.mem_of_getElem? (i := 86) rfl)) (by decide) (c_fold l Z a0 G ((XT.ushr q0 (16 : Int32)) &&& (255 : Int32)) h) (by simp) (argsL := [.int ((XT.ushr q0 (16 : Int32)) &&& (255 : Int32))]) (rest := [.int (fI ((XT.ushr p0 (16 : Int32)) &&& (255 : Int32)))]) pd_1 rfl rfl rfl rfl 1 (Nat.le_of_eq rfl) (by decide) (by decide) (ck := 0) rfl (cs := 0) rfl (by decide) (by decide) d7_113 116 rfl ?_
            intro w79 T77 X78 hq80
            subst hq80
            by_cases hb116 : (fI ((XT.ushr p0 (16 : Int32)) &&& (255 : Int32))) = (fI ((XT.ushr q0 (16 : Int32)) &&& (255 : Int32)))
            · refine g_icmpNo X78 d7_116 (XT.ii_ne_f hb116) 119 rfl ?_
              refine g_iconst X78 (1 : Int32) d7_119 (by decide) 120 rfl ?_
              refine g_goto X78 d7_120 124 (by decide) (by decide) ?_
              refine g_istore X78 d7_124 (Ls' := #[.val (.int p0), .val (.int q0), .val (.int ((XT.ushr p0 (30 : Int32)) &&& (3 : Int32))), .val (.int ((XT.ushr q0 (30 : Int32)) &&& (3 : Int32))), .val (.int (0 : Int32)), .val (.int (1 : Int32)), .val (.int (1 : Int32))]) rfl 126 rfl ?_
              refine g_iload X78 d7_126 rfl 128 rfl ?_
              refine g_ifYes X78 d7_128 (XT.ii_eq_t (by decide)) 145 (by decide) (by decide) ?_
              refine g_iconst X78 (0 : Int32) d7_145 (by decide) 146 rfl ?_
              exact g_retN X78 (t := .boolean) rfl (by simp) d7_146 _ rfl (by decide) (by decide) ⟨rfl, _, rfl, (by rw [show sameB p0 q0 = false from by unfold sameB nnP; first | (rw [decide_eq_true hb16]; simp [hb116, hb23, hb42, hb54, hb91]) | simp [hb116, hb16, hb23, hb42, hb54, hb91]]; rfl)⟩
            · refine g_icmpYes X78 d7_116 (XT.ii_ne_t hb116) 123 (by decide) (by decide) ?_
              refine g_iconst X78 (0 : Int32) d7_123 (by decide) 124 rfl ?_
              refine g_istore X78 d7_124 (Ls' := #[.val (.int p0), .val (.int q0), .val (.int ((XT.ushr p0 (30 : Int32)) &&& (3 : Int32))), .val (.int ((XT.ushr q0 (30 : Int32)) &&& (3 : Int32))), .val (.int (0 : Int32)), .val (.int (1 : Int32)), .val (.int (0 : Int32))]) rfl 126 rfl ?_
              refine g_iload X78 d7_126 rfl 128 rfl ?_
              refine g_ifYes X78 d7_128 (XT.ii_eq_t (by decide)) 145 (by decide) (by decide) ?_
              refine g_iconst X78 (0 : Int32) d7_145 (by decide) 146 rfl ?_
              exact g_retN X78 (t := .boolean) rfl (by simp) d7_146 _ rfl (by decide) (by decide) ⟨rfl, _, rfl, (by rw [show sameB p0 q0 = false from by unfold sameB nnP; first | (rw [decide_eq_true hb16]; simp [hb116, hb23, hb42, hb54, hb91]) | simp [hb116, hb16, hb23, hb42, hb54, hb91]]; rfl)⟩
        · refine g_icmpNo X38 d7_54 (XT.ii_lt_f hb54) 57 rfl ?_
          refine g_iloadN X38 d7_57 rfl 58 rfl ?_
          refine g_bipush X38 (8 : Int32) d7_58 (by decide) 60 rfl ?_
          refine g_iushr X38 d7_60 _ rfl 61 rfl ?_
          refine g_sipush X38 (255 : Int32) d7_61 (by decide) 64 rfl ?_
          refine g_iand X38 d7_64 _ rfl 65 rfl ?_
          refine g_callSp X38 (hw _ (List.mem_of_getElem? (i := 84) rfl)) (hw _ (List.mem_of_getElem? (i := 85) rfl)) (hw _ (List.mem_of_getElem? (i := 2) rfl)) (hw _ (List.mem_of_getElem? (i := 86) rfl)) (by decide) (c_fold l Z a0 G ((XT.ushr p0 (8 : Int32)) &&& (255 : Int32)) h) (by simp) (argsL := [.int ((XT.ushr p0 (8 : Int32)) &&& (255 : Int32))]) (rest := []) pd_1 rfl rfl rfl rfl 0 (Nat.le_of_eq rfl) (by decide) (by decide) (ck := 0) rfl (cs := 0) rfl (by decide) (by decide) d7_65 68 rfl ?_
          intro w83 T81 X82 hq84
          subst hq84
          refine g_iloadN X82 d7_68 rfl 69 rfl ?_
          refine g_bipush X82 (8 : Int32) d7_69 (by decide) 71 rfl ?_
          refine g_iushr X82 d7_71 _ rfl 72 rfl ?_
          refine g_sipush X82 (255 : Int32) d7_72 (by decide) 75 rfl ?_
          refine g_iand X82 d7_75 _ rfl 76 rfl ?_
          refine g_callSp X82 (hw _ (List.mem_of_getElem? (i := 84) rfl)) (hw _ (List.mem_of_getElem? (i := 85) rfl)) (hw _ (List.mem_of_getElem? (i := 2) rfl)) (hw _ (List.mem_of_getElem? (i := 86) rfl)) (by decide) (c_fold l Z a0 G ((XT.ushr q0 (8 : Int32)) &&& (255 : Int32)) h) (by simp) (argsL := [.int ((XT.ushr q0 (8 : Int32)) &&& (255 : Int32))]) (rest := [.int (fI ((XT.ushr p0 (8 : Int32)) &&& (255 : Int32)))]) pd_1 rfl rfl rfl rfl 1 (Nat.le_of_eq rfl) (by decide) (by decide) (ck := 0) rfl (cs := 0) rfl (by decide) (by decide) d7_76 79 rfl ?_
          intro w87 T85 X86 hq88
          subst hq88
          by_cases hb79 : (fI ((XT.ushr p0 (8 : Int32)) &&& (255 : Int32))) = (fI ((XT.ushr q0 (8 : Int32)) &&& (255 : Int32)))
          · refine g_icmpNo X86 d7_79 (XT.ii_ne_f hb79) 82 rfl ?_
            refine g_iconst X86 (1 : Int32) d7_82 (by decide) 83 rfl ?_
            refine g_goto X86 d7_83 87 (by decide) (by decide) ?_
            refine g_istore X86 d7_87 (Ls' := #[.val (.int p0), .val (.int q0), .val (.int ((XT.ushr p0 (30 : Int32)) &&& (3 : Int32))), .val (.int ((XT.ushr q0 (30 : Int32)) &&& (3 : Int32))), .val (.int (0 : Int32)), .val (.int (1 : Int32)), .unset]) rfl 89 rfl ?_
            refine g_iloadN X86 d7_89 rfl 90 rfl ?_
            refine g_iconst X86 (3 : Int32) d7_90 (by decide) 91 rfl ?_
            by_cases hb91 : ((XT.ushr p0 (30 : Int32)) &&& (3 : Int32)) < (3 : Int32)
            · refine g_icmpYes X86 d7_91 (XT.ii_lt_t hb91) 119 (by decide) (by decide) ?_
              refine g_iconst X86 (1 : Int32) d7_119 (by decide) 120 rfl ?_
              refine g_goto X86 d7_120 124 (by decide) (by decide) ?_
              refine g_istore X86 d7_124 (Ls' := #[.val (.int p0), .val (.int q0), .val (.int ((XT.ushr p0 (30 : Int32)) &&& (3 : Int32))), .val (.int ((XT.ushr q0 (30 : Int32)) &&& (3 : Int32))), .val (.int (0 : Int32)), .val (.int (1 : Int32)), .val (.int (1 : Int32))]) rfl 126 rfl ?_
              refine g_iload X86 d7_126 rfl 128 rfl ?_
              refine g_ifYes X86 d7_128 (XT.ii_eq_t (by decide)) 145 (by decide) (by decide) ?_
              refine g_iconst X86 (0 : Int32) d7_145 (by decide) 146 rfl ?_
              exact g_retN X86 (t := .boolean) rfl (by simp) d7_146 _ rfl (by decide) (by decide) ⟨rfl, _, rfl, (by rw [show sameB p0 q0 = false from by unfold sameB nnP; first | (rw [decide_eq_true hb16]; simp [hb23, hb42, hb54, hb79, hb91]) | simp [hb16, hb23, hb42, hb54, hb79, hb91]]; rfl)⟩
            · refine g_icmpNo X86 d7_91 (XT.ii_lt_f hb91) 94 rfl ?_
              refine g_iloadN X86 d7_94 rfl 95 rfl ?_
              refine g_bipush X86 (16 : Int32) d7_95 (by decide) 97 rfl ?_
              refine g_iushr X86 d7_97 _ rfl 98 rfl ?_
              refine g_sipush X86 (255 : Int32) d7_98 (by decide) 101 rfl ?_
              refine g_iand X86 d7_101 _ rfl 102 rfl ?_
              refine g_callSp X86 (hw _ (List.mem_of_getElem? (i := 84) rfl)) (hw _ (List.mem_of_getElem? (i := 85) rfl)) (hw _ (List.mem_of_getElem? (i := 2) rfl)) (hw _ (List.mem_of_getElem? (i := 86) rfl)) (by decide) (c_fold l Z a0 G ((XT.ushr p0 (16 : Int32)) &&& (255 : Int32)) h) (by simp) (argsL := [.int ((XT.ushr p0 (16 : Int32)) &&& (255 : Int32))]) (rest := []) pd_1 rfl rfl rfl rfl 0 (Nat.le_of_eq rfl) (by decide) (by decide) (ck := 0) rfl (cs := 0) rfl (by decide) (by decide) d7_102 105 rfl ?_
              intro w91 T89 X90 hq92
              subst hq92
              refine g_iloadN X90 d7_105 rfl 106 rfl ?_
              refine g_bipush X90 (16 : Int32) d7_106 (by decide) 108 rfl ?_
              refine g_iushr X90 d7_108 _ rfl 109 rfl ?_
              refine g_sipush X90 (255 : Int32) d7_109 (by decide) 112 rfl ?_
              refine g_iand X90 d7_112 _ rfl 113 rfl ?_
              refine g_callSp X90 (hw _ (List.mem_of_getElem? (i := 84) rfl)) (hw _ (List.mem_of_getElem? (i := 85) rfl)) (hw _ (List.mem_of_getElem? (i := 2) rfl)) (hw _ (List.mem_of_getElem? (i := 86) rfl)) (by decide) (c_fold l Z a0 G ((XT.ushr q0 (16 : Int32)) &&& (255 : Int32)) h) (by simp) (argsL := [.int ((XT.ushr q0 (16 : Int32)) &&& (255 : Int32))]) (rest := [.int (fI ((XT.ushr p0 (16 : Int32)) &&& (255 : Int32)))]) pd_1 rfl rfl rfl rfl 1 (Nat.le_of_eq rfl) (by decide) (by decide) (ck := 0) rfl (cs := 0) rfl (by decide) (by decide) d7_113 116 rfl ?_
              intro w95 T93 X94 hq96
              subst hq96
              by_cases hb116 : (fI ((XT.ushr p0 (16 : Int32)) &&& (255 : Int32))) = (fI ((XT.ushr q0 (16 : Int32)) &&& (255 : Int32)))
              · refine g_icmpNo X94 d7_116 (XT.ii_ne_f hb116) 119 rfl ?_
                refine g_iconst X94 (1 : Int32) d7_119 (by decide) 120 rfl ?_
                refine g_goto X94 d7_120 124 (by decide) (by decide) ?_
                refine g_istore X94 d7_124 (Ls' := #[.val (.int p0), .val (.int q0), .val (.int ((XT.ushr p0 (30 : Int32)) &&& (3 : Int32))), .val (.int ((XT.ushr q0 (30 : Int32)) &&& (3 : Int32))), .val (.int (0 : Int32)), .val (.int (1 : Int32)), .val (.int (1 : Int32))]) rfl 126 rfl ?_
                refine g_iload X94 d7_126 rfl 128 rfl ?_
                refine g_ifYes X94 d7_128 (XT.ii_eq_t (by decide)) 145 (by decide) (by decide) ?_
                refine g_iconst X94 (0 : Int32) d7_145 (by decide) 146 rfl ?_
                exact g_retN X94 (t := .boolean) rfl (by simp) d7_146 _ rfl (by decide) (by decide) ⟨rfl, _, rfl, (by rw [show sameB p0 q0 = false from by unfold sameB nnP; first | (rw [decide_eq_true hb16]; simp [hb116, hb23, hb42, hb54, hb79, hb91]) | simp [hb116, hb16, hb23, hb42, hb54, hb79, hb91]]; rfl)⟩
              · refine g_icmpYes X94 d7_116 (XT.ii_ne_t hb116) 123 (by decide) (by decide) ?_
                refine g_iconst X94 (0 : Int32) d7_123 (by decide) 124 rfl ?_
                refine g_istore X94 d7_124 (Ls' := #[.val (.int p0), .val (.int q0), .val (.int ((XT.ushr p0 (30 : Int32)) &&& (3 : Int32))), .val (.int ((XT.ushr q0 (30 : Int32)) &&& (3 : Int32))), .val (.int (0 : Int32)), .val (.int (1 : Int32)), .val (.int (0 : Int32))]) rfl 126 rfl ?_
                refine g_iload X94 d7_126 rfl 128 rfl ?_
                refine g_ifYes X94 d7_128 (XT.ii_eq_t (by decide)) 145 (by decide) (by decide) ?_
                refine g_iconst X94 (0 : Int32) d7_145 (by decide) 146 rfl ?_
                exact g_retN X94 (t := .boolean) rfl (by simp) d7_146 _ rfl (by decide) (by decide) ⟨rfl, _, rfl, (by rw [show sameB p0 q0 = false from by unfold sameB nnP; first | (rw [decide_eq_true hb16]; simp [hb116, hb23, hb42, hb54, hb79, hb91]) | simp [hb116, hb16, hb23, hb42, hb54, hb79, hb91]]; rfl)⟩
          · refine g_icmpYes X86 d7_79 (XT.ii_ne_t hb79) 86 (by decide) (by decide) ?_
            refine g_iconst X86 (0 : Int32) d7_86 (by decide) 87 rfl ?_
            refine g_istore X86 d7_87 (Ls' := #[.val (.int p0), .val (.int q0), .val (.int ((XT.ushr p0 (30 : Int32)) &&& (3 : Int32))), .val (.int ((XT.ushr q0 (30 : Int32)) &&& (3 : Int32))), .val (.int (0 : Int32)), .val (.int (0 : Int32)), .unset]) rfl 89 rfl ?_
            refine g_iloadN X86 d7_89 rfl 90 rfl ?_
            refine g_iconst X86 (3 : Int32) d7_90 (by decide) 91 rfl ?_
            by_cases hb91 : ((XT.ushr p0 (30 : Int32)) &&& (3 : Int32)) < (3 : Int32)
            · refine g_icmpYes X86 d7_91 (XT.ii_lt_t hb91) 119 (by decide) (by decide) ?_
              refine g_iconst X86 (1 : Int32) d7_119 (by decide) 120 rfl ?_
              refine g_goto X86 d7_120 124 (by decide) (by decide) ?_
              refine g_istore X86 d7_124 (Ls' := #[.val (.int p0), .val (.int q0), .val (.int ((XT.ushr p0 (30 : Int32)) &&& (3 : Int32))), .val (.int ((XT.ushr q0 (30 : Int32)) &&& (3 : Int32))), .val (.int (0 : Int32)), .val (.int (0 : Int32)), .val (.int (1 : Int32))]) rfl 126 rfl ?_
              refine g_iload X86 d7_126 rfl 128 rfl ?_
              refine g_ifYes X86 d7_128 (XT.ii_eq_t (by decide)) 145 (by decide) (by decide) ?_
              refine g_iconst X86 (0 : Int32) d7_145 (by decide) 146 rfl ?_
              exact g_retN X86 (t := .boolean) rfl (by simp) d7_146 _ rfl (by decide) (by decide) ⟨rfl, _, rfl, (by rw [show sameB p0 q0 = false from by unfold sameB nnP; first | (rw [decide_eq_true hb16]; simp [hb23, hb42, hb54, hb79, hb91]) | simp [hb16, hb23, hb42, hb54, hb79, hb91]]; rfl)⟩
            · refine g_icmpNo X86 d7_91 (XT.ii_lt_f hb91) 94 rfl ?_
              refine g_iloadN X86 d7_94 rfl 95 rfl ?_
              refine g_bipush X86 (16 : Int32) d7_95 (by decide) 97 rfl ?_
              refine g_iushr X86 d7_97 _ rfl 98 rfl ?_
              refine g_sipush X86 (255 : Int32) d7_98 (by decide) 101 rfl ?_
              refine g_iand X86 d7_101 _ rfl 102 rfl ?_
              refine g_callSp X86 (hw _ (List.mem_of_getElem? (i := 84) rfl)) (hw _ (List.mem_of_getElem? (i := 85) rfl)) (hw _ (List.mem_of_getElem? (i := 2) rfl)) (hw _ (List.mem_of_getElem? (i := 86) rfl)) (by decide) (c_fold l Z a0 G ((XT.ushr p0 (16 : Int32)) &&& (255 : Int32)) h) (by simp) (argsL := [.int ((XT.ushr p0 (16 : Int32)) &&& (255 : Int32))]) (rest := []) pd_1 rfl rfl rfl rfl 0 (Nat.le_of_eq rfl) (by decide) (by decide) (ck := 0) rfl (cs := 0) rfl (by decide) (by decide) d7_102 105 rfl ?_
              intro w99 T97 X98 hq100
              subst hq100
              refine g_iloadN X98 d7_105 rfl 106 rfl ?_
              refine g_bipush X98 (16 : Int32) d7_106 (by decide) 108 rfl ?_
              refine g_iushr X98 d7_108 _ rfl 109 rfl ?_
              refine g_sipush X98 (255 : Int32) d7_109 (by decide) 112 rfl ?_
              refine g_iand X98 d7_112 _ rfl 113 rfl ?_
              refine g_callSp X98 (hw _ (List.mem_of_getElem? (i := 84) rfl)) (hw _ (List.mem_of_getElem? (i := 85) rfl)) (hw _ (List.mem_of_getElem? (i := 2) rfl)) (hw _ (List.mem_of_getElem? (i := 86) rfl)) (by decide) (c_fold l Z a0 G ((XT.ushr q0 (16 : Int32)) &&& (255 : Int32)) h) (by simp) (argsL := [.int ((XT.ushr q0 (16 : Int32)) &&& (255 : Int32))]) (rest := [.int (fI ((XT.ushr p0 (16 : Int32)) &&& (255 : Int32)))]) pd_1 rfl rfl rfl rfl 1 (Nat.le_of_eq rfl) (by decide) (by decide) (ck := 0) rfl (cs := 0) rfl (by decide) (by decide) d7_113 116 rfl ?_
              intro w103 T101 X102 hq104
              subst hq104
              by_cases hb116 : (fI ((XT.ushr p0 (16 : Int32)) &&& (255 : Int32))) = (fI ((XT.ushr q0 (16 : Int32)) &&& (255 : Int32)))
              · refine g_icmpNo X102 d7_116 (XT.ii_ne_f hb116) 119 rfl ?_
                refine g_iconst X102 (1 : Int32) d7_119 (by decide) 120 rfl ?_
                refine g_goto X102 d7_120 124 (by decide) (by decide) ?_
                refine g_istore X102 d7_124 (Ls' := #[.val (.int p0), .val (.int q0), .val (.int ((XT.ushr p0 (30 : Int32)) &&& (3 : Int32))), .val (.int ((XT.ushr q0 (30 : Int32)) &&& (3 : Int32))), .val (.int (0 : Int32)), .val (.int (0 : Int32)), .val (.int (1 : Int32))]) rfl 126 rfl ?_
                refine g_iload X102 d7_126 rfl 128 rfl ?_
                refine g_ifYes X102 d7_128 (XT.ii_eq_t (by decide)) 145 (by decide) (by decide) ?_
                refine g_iconst X102 (0 : Int32) d7_145 (by decide) 146 rfl ?_
                exact g_retN X102 (t := .boolean) rfl (by simp) d7_146 _ rfl (by decide) (by decide) ⟨rfl, _, rfl, (by rw [show sameB p0 q0 = false from by unfold sameB nnP; first | (rw [decide_eq_true hb16]; simp [hb116, hb23, hb42, hb54, hb79, hb91]) | simp [hb116, hb16, hb23, hb42, hb54, hb79, hb91]]; rfl)⟩
              · refine g_icmpYes X102 d7_116 (XT.ii_ne_t hb116) 123 (by decide) (by decide) ?_
                refine g_iconst X102 (0 : Int32) d7_123 (by decide) 124 rfl ?_
                refine g_istore X102 d7_124 (Ls' := #[.val (.int p0), .val (.int q0), .val (.int ((XT.ushr p0 (30 : Int32)) &&& (3 : Int32))), .val (.int ((XT.ushr q0 (30 : Int32)) &&& (3 : Int32))), .val (.int (0 : Int32)), .val (.int (0 : Int32)), .val (.int (0 : Int32))]) rfl 126 rfl ?_
                refine g_iload X102 d7_126 rfl 128 rfl ?_
                refine g_ifYes X102 d7_128 (XT.ii_eq_t (by decide)) 145 (by decide) (by decide) ?_
                refine g_iconst X102 (0 : Int32) d7_145 (by decide) 146 rfl ?_
                exact g_retN X102 (t := .boolean) rfl (by simp) d7_146 _ rfl (by decide) (by decide) ⟨rfl, _, rfl, (by rw [show sameB p0 q0 = false from by unfold sameB nnP; first | (rw [decide_eq_true hb16]; simp [hb116, hb23, hb42, hb54, hb79, hb91]) | simp [hb116, hb16, hb23, hb42, hb54, hb79, hb91]]; rfl)⟩
  · refine g_icmpNo X d7_16 (XT.ii_eq_f hb16) 19 rfl ?_
    refine g_iconst X (0 : Int32) d7_19 (by decide) 20 rfl ?_
    exact g_retN X (t := .boolean) rfl (by simp) d7_20 _ rfl (by decide) (by decide) ⟨rfl, _, rfl, (by rw [show sameB p0 q0 = false from by unfold sameB nnP; first | (rw [decide_eq_true hb16]; simp []) | simp [hb16]]; rfl)⟩
theorem d17_0 : decode jdk_116_method_22_code 0 = .ok (.iload_n 0, 1) := by decide +kernel
theorem d17_1 : decode jdk_116_method_22_code 1 = .ok (.iload_n 1, 1) := by decide +kernel
theorem d17_2 : decode jdk_116_method_22_code 2 = .ok (.if_icmp .ne 5, 3) := by decide +kernel
theorem d17_5 : decode jdk_116_method_22_code 5 = .ok (.iconst 1, 1) := by decide +kernel
theorem d17_6 : decode jdk_116_method_22_code 6 = .ok (.ireturn, 1) := by decide +kernel
theorem d17_7 : decode jdk_116_method_22_code 7 = .ok (.iload_n 0, 1) := by decide +kernel
theorem d17_8 : decode jdk_116_method_22_code 8 = .ok (.sipush 223, 3) := by decide +kernel
theorem d17_11 : decode jdk_116_method_22_code 11 = .ok (.iand, 1) := by decide +kernel
theorem d17_12 : decode jdk_116_method_22_code 12 = .ok (.istore_n 2, 1) := by decide +kernel
theorem d17_13 : decode jdk_116_method_22_code 13 = .ok (.iload_n 2, 1) := by decide +kernel
theorem d17_14 : decode jdk_116_method_22_code 14 = .ok (.bipush 65, 2) := by decide +kernel
theorem d17_16 : decode jdk_116_method_22_code 16 = .ok (.if_icmp .ge 5, 3) := by decide +kernel
theorem d17_19 : decode jdk_116_method_22_code 19 = .ok (.iconst 0, 1) := by decide +kernel
theorem d17_20 : decode jdk_116_method_22_code 20 = .ok (.ireturn, 1) := by decide +kernel
theorem d17_21 : decode jdk_116_method_22_code 21 = .ok (.iload_n 2, 1) := by decide +kernel
theorem d17_22 : decode jdk_116_method_22_code 22 = .ok (.bipush 90, 2) := by decide +kernel
theorem d17_24 : decode jdk_116_method_22_code 24 = .ok (.if_icmp .le 24, 3) := by decide +kernel
theorem d17_27 : decode jdk_116_method_22_code 27 = .ok (.iload_n 2, 1) := by decide +kernel
theorem d17_28 : decode jdk_116_method_22_code 28 = .ok (.sipush 192, 3) := by decide +kernel
theorem d17_31 : decode jdk_116_method_22_code 31 = .ok (.if_icmp .lt 30, 3) := by decide +kernel
theorem d17_34 : decode jdk_116_method_22_code 34 = .ok (.iload_n 2, 1) := by decide +kernel
theorem d17_35 : decode jdk_116_method_22_code 35 = .ok (.sipush 222, 3) := by decide +kernel
theorem d17_38 : decode jdk_116_method_22_code 38 = .ok (.if_icmp .gt 23, 3) := by decide +kernel
theorem d17_41 : decode jdk_116_method_22_code 41 = .ok (.iload_n 2, 1) := by decide +kernel
theorem d17_42 : decode jdk_116_method_22_code 42 = .ok (.sipush 215, 3) := by decide +kernel
theorem d17_45 : decode jdk_116_method_22_code 45 = .ok (.if_icmp .eq 16, 3) := by decide +kernel
theorem d17_48 : decode jdk_116_method_22_code 48 = .ok (.iload_n 2, 1) := by decide +kernel
theorem d17_49 : decode jdk_116_method_22_code 49 = .ok (.iload_n 1, 1) := by decide +kernel
theorem d17_50 : decode jdk_116_method_22_code 50 = .ok (.sipush 223, 3) := by decide +kernel
theorem d17_53 : decode jdk_116_method_22_code 53 = .ok (.iand, 1) := by decide +kernel
theorem d17_54 : decode jdk_116_method_22_code 54 = .ok (.if_icmp .ne 7, 3) := by decide +kernel
theorem d17_57 : decode jdk_116_method_22_code 57 = .ok (.iconst 1, 1) := by decide +kernel
theorem d17_58 : decode jdk_116_method_22_code 58 = .ok (.goto 4, 3) := by decide +kernel
theorem d17_61 : decode jdk_116_method_22_code 61 = .ok (.iconst 0, 1) := by decide +kernel
theorem d17_62 : decode jdk_116_method_22_code 62 = .ok (.ireturn, 1) := by decide +kernel
theorem pn_2 : plainName "java/lang/CharacterDataLatin1" = true := by first | (simp [plainName, overriddenIn]; done) | decide +kernel
set_option maxRecDepth 65536 in
set_option maxHeartbeats 40000000 in
theorem c_ciB (l : Launch) (Z : State) (a0 : Array Value) (G : Gl Z a0) (x0 y0 : Int32) (h : Heap)  :
    Ctr l Z EL nw (⟨"java/lang/CharacterDataLatin1", "equalsIgnoreCase", "(BB)Z"⟩ : MethodName) jdk_116_method_22_code 3 (Option.some Jvm.ClassFile.FieldType.boolean) ({ frames := 0, cells := 0, slots := 0, locals := 0 } : Room) #[.int x0, .int y0] h [] (PureQ h fun v => v = .int (if ciB x0 y0 = true then 1 else 0)) := by
  obtain ⟨hw, hEL, hSA, ⟨zc, SC, hz⟩, ⟨fm, SF, hfm⟩⟩ := id G
  refine Ctr.enter (own := "java/lang/CharacterDataLatin1") (nm := "equalsIgnoreCase") rfl rfl hEL (plainFor_of_name pn_2) #[.val (.int x0), .val (.int y0), .unset] (fun m => by first | rfl | (simp [entryFrame, mkF, argsToLocals, Value.category, maxLocals]; done)) ?_
  intro p e s m below meth c T X
  refine g_iloadN X d17_0 rfl 1 rfl ?_
  refine g_iloadN X d17_1 rfl 2 rfl ?_
  by_cases hb2 : x0 = y0
  · refine g_icmpNo X d17_2 (XT.ii_ne_f hb2) 5 rfl ?_
    refine g_iconst X (1 : Int32) d17_5 (by decide) 6 rfl ?_
    exact g_retN X (t := .boolean) rfl (by simp) d17_6 _ rfl (by decide) (by decide) ⟨rfl, _, rfl, (by rw [show ciB x0 y0 = true from by simp [ciB, hb2]]; rfl)⟩
  · refine g_icmpYes X d17_2 (XT.ii_ne_t hb2) 7 (by decide) (by decide) ?_
    refine g_iloadN X d17_7 rfl 8 rfl ?_
    refine g_sipush X (223 : Int32) d17_8 (by decide) 11 rfl ?_
    refine g_iand X d17_11 _ rfl 12 rfl ?_
    refine g_istoreN X d17_12 (Ls' := #[.val (.int x0), .val (.int y0), .val (.int (x0 &&& (223 : Int32)))]) rfl 13 rfl ?_
    refine g_iloadN X d17_13 rfl 14 rfl ?_
    refine g_bipush X (65 : Int32) d17_14 (by decide) 16 rfl ?_
    by_cases hb16 : (x0 &&& (223 : Int32)) < (65 : Int32)
    · refine g_icmpNo X d17_16 (XT.ii_ge_f hb16) 19 rfl ?_
      refine g_iconst X (0 : Int32) d17_19 (by decide) 20 rfl ?_
      exact g_retN X (t := .boolean) rfl (by simp) d17_20 _ rfl (by decide) (by decide) ⟨rfl, _, rfl, (by rw [show ciB x0 y0 = false from by simp [ciB, hb16, hb2]]; rfl)⟩
    · refine g_icmpYes X d17_16 (XT.ii_ge_t hb16) 21 (by decide) (by decide) ?_
      refine g_iloadN X d17_21 rfl 22 rfl ?_
      refine g_bipush X (90 : Int32) d17_22 (by decide) 24 rfl ?_
      by_cases hb24 : (90 : Int32) < (x0 &&& (223 : Int32))
      · refine g_icmpNo X d17_24 (XT.ii_le_f hb24) 27 rfl ?_
        refine g_iloadN X d17_27 rfl 28 rfl ?_
        refine g_sipush X (192 : Int32) d17_28 (by decide) 31 rfl ?_
        by_cases hb31 : (x0 &&& (223 : Int32)) < (192 : Int32)
        · refine g_icmpYes X d17_31 (XT.ii_lt_t hb31) 61 (by decide) (by decide) ?_
          refine g_iconst X (0 : Int32) d17_61 (by decide) 62 rfl ?_
          exact g_retN X (t := .boolean) rfl (by simp) d17_62 _ rfl (by decide) (by decide) ⟨rfl, _, rfl, (by rw [show ciB x0 y0 = false from by simp [ciB, hb16, hb2, hb24, hb31]]; rfl)⟩
        · refine g_icmpNo X d17_31 (XT.ii_lt_f hb31) 34 rfl ?_
          refine g_iloadN X d17_34 rfl 35 rfl ?_
          refine g_sipush X (222 : Int32) d17_35 (by decide) 38 rfl ?_
          by_cases hb38 : (222 : Int32) < (x0 &&& (223 : Int32))
          · refine g_icmpYes X d17_38 (XT.ii_gt_t hb38) 61 (by decide) (by decide) ?_
            refine g_iconst X (0 : Int32) d17_61 (by decide) 62 rfl ?_
            exact g_retN X (t := .boolean) rfl (by simp) d17_62 _ rfl (by decide) (by decide) ⟨rfl, _, rfl, (by rw [show ciB x0 y0 = false from by simp [ciB, hb16, hb2, hb24, hb31, hb38]]; rfl)⟩
          · refine g_icmpNo X d17_38 (XT.ii_gt_f hb38) 41 rfl ?_
            refine g_iloadN X d17_41 rfl 42 rfl ?_
            refine g_sipush X (215 : Int32) d17_42 (by decide) 45 rfl ?_
            by_cases hb45 : (x0 &&& (223 : Int32)) = (215 : Int32)
            · refine g_icmpYes X d17_45 (XT.ii_eq_t hb45) 61 (by decide) (by decide) ?_
              refine g_iconst X (0 : Int32) d17_61 (by decide) 62 rfl ?_
              exact g_retN X (t := .boolean) rfl (by simp) d17_62 _ rfl (by decide) (by decide) ⟨rfl, _, rfl, (by rw [show ciB x0 y0 = false from by simp [ciB, hb16, hb2, hb24, hb31, hb38, hb45]]; rfl)⟩
            · refine g_icmpNo X d17_45 (XT.ii_eq_f hb45) 48 rfl ?_
              refine g_iloadN X d17_48 rfl 49 rfl ?_
              refine g_iloadN X d17_49 rfl 50 rfl ?_
              refine g_sipush X (223 : Int32) d17_50 (by decide) 53 rfl ?_
              refine g_iand X d17_53 _ rfl 54 rfl ?_
              by_cases hb54 : (x0 &&& (223 : Int32)) = (y0 &&& (223 : Int32))
              · refine g_icmpNo X d17_54 (XT.ii_ne_f hb54) 57 rfl ?_
                refine g_iconst X (1 : Int32) d17_57 (by decide) 58 rfl ?_
                refine g_goto X d17_58 62 (by decide) (by decide) ?_
                exact g_retN X (t := .boolean) rfl (by simp) d17_62 _ rfl (by decide) (by decide) ⟨rfl, _, rfl, (by rw [show ciB x0 y0 = true from by unfold ciB; first | (rw [decide_eq_true hb54]; simp [hb16, hb2, hb24, hb31, hb38, hb45]) | simp [hb16, hb2, hb24, hb31, hb38, hb45, hb54]]; rfl)⟩
              · refine g_icmpYes X d17_54 (XT.ii_ne_t hb54) 61 (by decide) (by decide) ?_
                refine g_iconst X (0 : Int32) d17_61 (by decide) 62 rfl ?_
                exact g_retN X (t := .boolean) rfl (by simp) d17_62 _ rfl (by decide) (by decide) ⟨rfl, _, rfl, (by rw [show ciB x0 y0 = false from by unfold ciB; first | (rw [decide_eq_true hb54]; simp [hb16, hb2, hb24, hb31, hb38, hb45]) | simp [hb16, hb2, hb24, hb31, hb38, hb45, hb54]]; rfl)⟩
      · refine g_icmpYes X d17_24 (XT.ii_le_t hb24) 48 (by decide) (by decide) ?_
        refine g_iloadN X d17_48 rfl 49 rfl ?_
        refine g_iloadN X d17_49 rfl 50 rfl ?_
        refine g_sipush X (223 : Int32) d17_50 (by decide) 53 rfl ?_
        refine g_iand X d17_53 _ rfl 54 rfl ?_
        by_cases hb54 : (x0 &&& (223 : Int32)) = (y0 &&& (223 : Int32))
        · refine g_icmpNo X d17_54 (XT.ii_ne_f hb54) 57 rfl ?_
          refine g_iconst X (1 : Int32) d17_57 (by decide) 58 rfl ?_
          refine g_goto X d17_58 62 (by decide) (by decide) ?_
          exact g_retN X (t := .boolean) rfl (by simp) d17_62 _ rfl (by decide) (by decide) ⟨rfl, _, rfl, (by rw [show ciB x0 y0 = true from by unfold ciB; first | (rw [decide_eq_true hb54]; simp [hb16, hb2, hb24]) | simp [hb16, hb2, hb24, hb54]]; rfl)⟩
        · refine g_icmpYes X d17_54 (XT.ii_ne_t hb54) 61 (by decide) (by decide) ?_
          refine g_iconst X (0 : Int32) d17_61 (by decide) 62 rfl ?_
          exact g_retN X (t := .boolean) rfl (by simp) d17_62 _ rfl (by decide) (by decide) ⟨rfl, _, rfl, (by rw [show ciB x0 y0 = false from by unfold ciB; first | (rw [decide_eq_true hb54]; simp [hb16, hb2, hb24]) | simp [hb16, hb2, hb24, hb54]]; rfl)⟩
theorem d12_0 : decode jdk_43_method_30_code 0 = .ok (.iload_n 1, 1) := by decide +kernel
theorem d12_1 : decode jdk_43_method_30_code 1 = .ok (.iload 4, 2) := by decide +kernel
theorem d12_3 : decode jdk_43_method_30_code 3 = .ok (.iadd, 1) := by decide +kernel
theorem d12_4 : decode jdk_43_method_30_code 4 = .ok (.istore 5, 2) := by decide +kernel
theorem d12_6 : decode jdk_43_method_30_code 6 = .ok (.iload_n 1, 1) := by decide +kernel
theorem d12_7 : decode jdk_43_method_30_code 7 = .ok (.iload 5, 2) := by decide +kernel
theorem d12_9 : decode jdk_43_method_30_code 9 = .ok (.if_icmp .ge 34, 3) := by decide +kernel
theorem d12_12 : decode jdk_43_method_30_code 12 = .ok (.aload_n 0, 1) := by decide +kernel
theorem d12_13 : decode jdk_43_method_30_code 13 = .ok (.iload_n 1, 1) := by decide +kernel
theorem d12_14 : decode jdk_43_method_30_code 14 = .ok (.iinc 1 1, 3) := by decide +kernel
theorem d12_17 : decode jdk_43_method_30_code 17 = .ok (.baload, 1) := by decide +kernel
theorem d12_18 : decode jdk_43_method_30_code 18 = .ok (.istore 6, 2) := by decide +kernel
theorem d12_20 : decode jdk_43_method_30_code 20 = .ok (.aload_n 2, 1) := by decide +kernel
theorem d12_21 : decode jdk_43_method_30_code 21 = .ok (.iload_n 3, 1) := by decide +kernel
theorem d12_22 : decode jdk_43_method_30_code 22 = .ok (.iinc 3 1, 3) := by decide +kernel
theorem d12_25 : decode jdk_43_method_30_code 25 = .ok (.baload, 1) := by decide +kernel
theorem d12_26 : decode jdk_43_method_30_code 26 = .ok (.istore 7, 2) := by decide +kernel
theorem d12_28 : decode jdk_43_method_30_code 28 = .ok (.iload 6, 2) := by decide +kernel
theorem d12_30 : decode jdk_43_method_30_code 30 = .ok (.iload 7, 2) := by decide +kernel
theorem d12_32 : decode jdk_43_method_30_code 32 = .ok (.invokestatic 153, 3) := by decide +kernel
theorem d12_35 : decode jdk_43_method_30_code 35 = .ok (.ifCond .eq 6, 3) := by decide +kernel
theorem d12_38 : decode jdk_43_method_30_code 38 = .ok (.goto (-32), 3) := by decide +kernel
theorem d12_41 : decode jdk_43_method_30_code 41 = .ok (.iconst 0, 1) := by decide +kernel
theorem d12_42 : decode jdk_43_method_30_code 42 = .ok (.ireturn, 1) := by decide +kernel
theorem d12_43 : decode jdk_43_method_30_code 43 = .ok (.iconst 1, 1) := by decide +kernel
theorem d12_44 : decode jdk_43_method_30_code 44 = .ok (.ireturn, 1) := by decide +kernel
theorem pn_3 : plainName "java/lang/StringLatin1" = true := by first | (simp [plainName, overriddenIn]; done) | decide +kernel
set_option maxRecDepth 65536 in
set_option maxHeartbeats 40000000 in
theorem c_rmci (l : Launch) (Z : State) (a0 : Array Value) (G : Gl Z a0) (t u : Addr) (kb kb' : ClassId) (cs ds : List Int32) (h : Heap) (A : Arv Z h t kb .byte (Int32.ofNat cs.length) (bys cs) (.int (0 : Int32))) (B : Arv Z h u kb' .byte (Int32.ofNat ds.length) (bys ds) (.int (0 : Int32))) (hlen : cs.length ≤ 4000) (hl : cs.length = ds.length) :
    Ctr l Z EL nw (⟨"java/lang/StringLatin1", "regionMatchesCI", "([BI[BII)Z"⟩ : MethodName) jdk_43_method_30_code 8 (Option.some Jvm.ClassFile.FieldType.boolean) ({ frames := 1, cells := 0, slots := 0, locals := 14 } : Room) #[.ref t, .int (0 : Int32), .ref u, .int (0 : Int32), .int (Int32.ofNat cs.length)] h [] (PureQ h fun v => v = .int (if ciL cs ds = true then 1 else 0)) := by
  obtain ⟨hw, hEL, hSA, ⟨zc, SC, hz⟩, ⟨fm, SF, hfm⟩⟩ := id G
  refine Ctr.enter (own := "java/lang/StringLatin1") (nm := "regionMatchesCI") rfl rfl hEL (plainFor_of_name pn_3) #[.val (.ref t), .val (.int (0 : Int32)), .val (.ref u), .val (.int (0 : Int32)), .val (.int (Int32.ofNat cs.length)), .unset, .unset, .unset] (fun m => by first | rfl | (simp [entryFrame, mkF, argsToLocals, Value.category, maxLocals]; done)) ?_
  intro p e s m below meth c T X
  refine g_iloadN X d12_0 rfl 1 rfl ?_
  refine g_iload X d12_1 rfl 3 rfl ?_
  refine g_iadd X d12_3 (Int32.ofNat cs.length) (Int32.zero_add _) 4 rfl ?_
  refine g_istore X d12_4 (Ls' := #[.val (.ref t), .val (.int (0 : Int32)), .val (.ref u), .val (.int (0 : Int32)), .val (.int (Int32.ofNat cs.length)), .val (.int (Int32.ofNat cs.length)), .unset, .unset]) rfl 6 rfl ?_
  have loop : ∀ (k i : Nat) (x6 x7 : Int32) (T : State), St p l e ({ frames := 1, cells := 0, slots := 0, locals := 14 } : Room) s m #[.ref t, .int (0 : Int32), .ref u, .int (0 : Int32), .int (Int32.ofNat cs.length)] below meth c "java/lang/StringLatin1" jdk_43_method_30_code 8 ((Option.some Jvm.ClassFile.FieldType.boolean)) "regionMatchesCI" Z EL nw [] T h 0 0 → i + k = cs.length → (∀ j, j < i → ciB (lo (cs.getD j 0)) (lo (ds.getD j 0)) = true) → OwnKit.Goes p e below s Z EL nw (PureQ h fun v => v = .int (if ciL cs ds = true then 1 else 0)) (({ frames := 1, cells := 0, slots := 0, locals := 14 } : Room)).cells (({ frames := 1, cells := 0, slots := 0, locals := 14 } : Room)).slots (T.setTop (mkF m 6 #[.val (.ref t), .val (.int (Int32.ofNat i)), .val (.ref u), .val (.int (Int32.ofNat i)), .val (.int (Int32.ofNat cs.length)), .val (.int (Int32.ofNat cs.length)), .val (.int x6), .val (.int x7)] [])) := by
    intro k
    induction k with
    | zero =>
      intro i x6 x7 T' X' hk hs
      refine g_iloadN X' d12_6 rfl 7 rfl ?_
      refine g_iload X' d12_7 rfl 9 rfl ?_
      refine g_icmpYes X' d12_9 (XT.ii_ge_t (of_le (by omega) (by omega))) 43 (by decide) (by decide) ?_
      refine g_iconst X' (1 : Int32) d12_43 (by decide) 44 rfl ?_
      exact g_retN X' (t := .boolean) rfl (by simp) d12_44 _ rfl (by decide) (by decide) ⟨rfl, _, rfl, (by rw [ciL_yes (fun j hj => hs j (by omega))]; first | rfl | (subst ei; rfl))⟩
    | succ k ih =>
      intro i x6 x7 T' X' hk hs
      have hi : i < cs.length := by omega
      refine g_iloadN X' d12_6 rfl 7 rfl ?_
      refine g_iload X' d12_7 rfl 9 rfl ?_
      refine g_icmpNo X' d12_9 (XT.ii_ge_f (of_lt hi hlen)) 12 rfl ?_
      refine g_aloadN X' d12_12 rfl rfl 13 rfl ?_
      refine g_iloadN X' d12_13 rfl 14 rfl ?_
      refine g_iinc X' d12_14 rfl (Int32.ofNat (i + 1)) (of_succ i) (Ls' := #[.val (.ref t), .val (.int (Int32.ofNat (i + 1))), .val (.ref u), .val (.int (Int32.ofNat i)), .val (.int (Int32.ofNat cs.length)), .val (.int (Int32.ofNat cs.length)), .val (.int x6), .val (.int x7)]) rfl 17 rfl ?_
      refine g_baload X' A (of_nn (by omega)) (of_lt (by omega) (by omega)) _ (bys_at cs i (by omega)) d12_17 18 rfl ?_
      refine g_istore X' d12_18 (Ls' := #[.val (.ref t), .val (.int (Int32.ofNat (i + 1))), .val (.ref u), .val (.int (Int32.ofNat i)), .val (.int (Int32.ofNat cs.length)), .val (.int (Int32.ofNat cs.length)), .val (.int (lo (cs.getD i 0))), .val (.int x7)]) rfl 20 rfl ?_
      refine g_aloadN X' d12_20 rfl rfl 21 rfl ?_
      refine g_iloadN X' d12_21 rfl 22 rfl ?_
      refine g_iinc X' d12_22 rfl (Int32.ofNat (i + 1)) (of_succ i) (Ls' := #[.val (.ref t), .val (.int (Int32.ofNat (i + 1))), .val (.ref u), .val (.int (Int32.ofNat (i + 1))), .val (.int (Int32.ofNat cs.length)), .val (.int (Int32.ofNat cs.length)), .val (.int (lo (cs.getD i 0))), .val (.int x7)]) rfl 25 rfl ?_
      refine g_baload X' B (of_nn (by omega)) (of_lt (by omega) (by omega)) _ (bys_at ds i (by omega)) d12_25 26 rfl ?_
      refine g_istore X' d12_26 (Ls' := #[.val (.ref t), .val (.int (Int32.ofNat (i + 1))), .val (.ref u), .val (.int (Int32.ofNat (i + 1))), .val (.int (Int32.ofNat cs.length)), .val (.int (Int32.ofNat cs.length)), .val (.int (lo (cs.getD i 0))), .val (.int (lo (ds.getD i 0)))]) rfl 28 rfl ?_
      refine g_iload X' d12_28 rfl 30 rfl ?_
      refine g_iload X' d12_30 rfl 32 rfl ?_
      refine g_callSp X' (hw _ (List.mem_of_getElem? (i := 87) rfl)) (hw _ (List.mem_of_getElem? (i := 88) rfl)) (hw _ (List.mem_of_getElem? (i := 89) rfl)) (hw _ (List.mem_of_getElem? (i := 90) rfl)) (by decide) (c_ciB l Z a0 G (lo (cs.getD i 0)) (lo (ds.getD i 0)) h) (by simp) (argsL := [.int (lo (cs.getD i 0)), .int (lo (ds.getD i 0))]) (rest := []) pd_8 rfl rfl rfl rfl 0 (Nat.le_of_eq rfl) (by decide) (by decide) (ck := 0) rfl (cs := 0) rfl (by decide) (by decide) d12_32 35 rfl ?_
      intro w3 T1 X2 hq4
      subst hq4
      by_cases hci : ciB (lo (cs.getD i 0)) (lo (ds.getD i 0)) = true
      · refine g_ifNo X2 d12_35 (XT.ii_eq_f (by rw [if_pos hci]; decide)) 38 rfl ?_
        refine g_goto X2 d12_38 6 (by decide) (by decide) ?_
        exact ih (i + 1) _ _ T1 X2 (by omega) (fun j hj => (Nat.lt_succ_iff_lt_or_eq.mp hj).elim (fun q => hs j q) (fun q => by subst q; exact hci))
      · refine g_ifYes X2 d12_35 (XT.ii_eq_t (if_neg hci)) 41 (by decide) (by decide) ?_
        refine g_iconst X2 (0 : Int32) d12_41 (by decide) 42 rfl ?_
        exact g_retN X2 (t := .boolean) rfl (by simp) d12_42 _ rfl (by decide) (by decide) ⟨rfl, _, rfl, (by rw [ciL_no hi hci]; first | rfl | (subst ei; rfl))⟩
  by_cases h0 : cs.length = 0
  · have hs : ∀ j, j < 0 → ciB (lo (cs.getD j 0)) (lo (ds.getD j 0)) = true := fun j hj => absurd hj (Nat.not_lt_zero _)
    obtain ⟨i, ei⟩ : ∃ i : Nat, i = 0 := ⟨0, rfl⟩
    have hk : i + 0 = cs.length := by omega
    rw [← ei] at hs
    rw [show (0 : Int32) = Int32.ofNat i from by rw [ei]; rfl]
    refine g_iloadN X d12_6 rfl 7 rfl ?_
    refine g_iload X d12_7 rfl 9 rfl ?_
    refine g_icmpYes X d12_9 (XT.ii_ge_t (of_le (by omega) (by omega))) 43 (by decide) (by decide) ?_
    refine g_iconst X (1 : Int32) d12_43 (by decide) 44 rfl ?_
    exact g_retN X (t := .boolean) rfl (by simp) d12_44 _ rfl (by decide) (by decide) ⟨rfl, _, rfl, (by rw [ciL_yes (fun j hj => hs j (by omega))]; first | rfl | (subst ei; rfl))⟩
  · obtain ⟨i, ei⟩ : ∃ i : Nat, i = 0 := ⟨0, rfl⟩
    have hi : i < cs.length := by omega
    rw [show (0 : Int32) = Int32.ofNat i from by rw [ei]; rfl]
    refine g_iloadN X d12_6 rfl 7 rfl ?_
    refine g_iload X d12_7 rfl 9 rfl ?_
    refine g_icmpNo X d12_9 (XT.ii_ge_f (of_lt hi hlen)) 12 rfl ?_
    refine g_aloadN X d12_12 rfl rfl 13 rfl ?_
    refine g_iloadN X d12_13 rfl 14 rfl ?_
    refine g_iinc X d12_14 rfl (Int32.ofNat (i + 1)) (of_succ i) (Ls' := #[.val (.ref t), .val (.int (Int32.ofNat (i + 1))), .val (.ref u), .val (.int (Int32.ofNat i)), .val (.int (Int32.ofNat cs.length)), .val (.int (Int32.ofNat cs.length)), .unset, .unset]) rfl 17 rfl ?_
    refine g_baload X A (of_nn (by omega)) (of_lt (by omega) (by omega)) _ (bys_at cs i (by omega)) d12_17 18 rfl ?_
    refine g_istore X d12_18 (Ls' := #[.val (.ref t), .val (.int (Int32.ofNat (i + 1))), .val (.ref u), .val (.int (Int32.ofNat i)), .val (.int (Int32.ofNat cs.length)), .val (.int (Int32.ofNat cs.length)), .val (.int (lo (cs.getD i 0))), .unset]) rfl 20 rfl ?_
    refine g_aloadN X d12_20 rfl rfl 21 rfl ?_
    refine g_iloadN X d12_21 rfl 22 rfl ?_
    refine g_iinc X d12_22 rfl (Int32.ofNat (i + 1)) (of_succ i) (Ls' := #[.val (.ref t), .val (.int (Int32.ofNat (i + 1))), .val (.ref u), .val (.int (Int32.ofNat (i + 1))), .val (.int (Int32.ofNat cs.length)), .val (.int (Int32.ofNat cs.length)), .val (.int (lo (cs.getD i 0))), .unset]) rfl 25 rfl ?_
    refine g_baload X B (of_nn (by omega)) (of_lt (by omega) (by omega)) _ (bys_at ds i (by omega)) d12_25 26 rfl ?_
    refine g_istore X d12_26 (Ls' := #[.val (.ref t), .val (.int (Int32.ofNat (i + 1))), .val (.ref u), .val (.int (Int32.ofNat (i + 1))), .val (.int (Int32.ofNat cs.length)), .val (.int (Int32.ofNat cs.length)), .val (.int (lo (cs.getD i 0))), .val (.int (lo (ds.getD i 0)))]) rfl 28 rfl ?_
    refine g_iload X d12_28 rfl 30 rfl ?_
    refine g_iload X d12_30 rfl 32 rfl ?_
    refine g_callSp X (hw _ (List.mem_of_getElem? (i := 87) rfl)) (hw _ (List.mem_of_getElem? (i := 88) rfl)) (hw _ (List.mem_of_getElem? (i := 89) rfl)) (hw _ (List.mem_of_getElem? (i := 90) rfl)) (by decide) (c_ciB l Z a0 G (lo (cs.getD i 0)) (lo (ds.getD i 0)) h) (by simp) (argsL := [.int (lo (cs.getD i 0)), .int (lo (ds.getD i 0))]) (rest := []) pd_8 rfl rfl rfl rfl 0 (Nat.le_of_eq rfl) (by decide) (by decide) (ck := 0) rfl (cs := 0) rfl (by decide) (by decide) d12_32 35 rfl ?_
    intro w7 T5 X6 hq8
    subst hq8
    by_cases hci : ciB (lo (cs.getD i 0)) (lo (ds.getD i 0)) = true
    · refine g_ifNo X6 d12_35 (XT.ii_eq_f (by rw [if_pos hci]; decide)) 38 rfl ?_
      subst ei
      refine g_goto X6 d12_38 6 (by decide) (by decide) ?_
      exact loop (cs.length - 1) 1 _ _ T5 X6 (by omega) (fun j hj => by cases Nat.lt_one_iff.mp hj; exact hci)
    · refine g_ifYes X6 d12_35 (XT.ii_eq_t (if_neg hci)) 41 (by decide) (by decide) ?_
      refine g_iconst X6 (0 : Int32) d12_41 (by decide) 42 rfl ?_
      exact g_retN X6 (t := .boolean) rfl (by simp) d12_42 _ rfl (by decide) (by decide) ⟨rfl, _, rfl, (by rw [ciL_no hi hci]; first | rfl | (subst ei; rfl))⟩
theorem d11_0 : decode jdk_42_method_74_code 0 = .ok (.iload_n 1, 1) := by decide +kernel
theorem d11_1 : decode jdk_42_method_74_code 1 = .ok (.ifCond .ne 14, 3) := by decide +kernel
theorem d11_4 : decode jdk_42_method_74_code 4 = .ok (.aload_n 0, 1) := by decide +kernel
theorem d11_5 : decode jdk_42_method_74_code 5 = .ok (.iload_n 2, 1) := by decide +kernel
theorem d11_6 : decode jdk_42_method_74_code 6 = .ok (.aload_n 3, 1) := by decide +kernel
theorem d11_7 : decode jdk_42_method_74_code 7 = .ok (.iload 4, 2) := by decide +kernel
theorem d11_9 : decode jdk_42_method_74_code 9 = .ok (.iload 5, 2) := by decide +kernel
theorem d11_11 : decode jdk_42_method_74_code 11 = .ok (.invokevirtual 610, 3) := by decide +kernel
theorem d11_14 : decode jdk_42_method_74_code 14 = .ok (.ireturn, 1) := by decide +kernel
theorem d11_15 : decode jdk_42_method_74_code 15 = .ok (.iload 4, 2) := by decide +kernel
theorem d11_17 : decode jdk_42_method_74_code 17 = .ok (.ifCond .lt 38, 3) := by decide +kernel
theorem d11_20 : decode jdk_42_method_74_code 20 = .ok (.iload_n 2, 1) := by decide +kernel
theorem d11_21 : decode jdk_42_method_74_code 21 = .ok (.ifCond .lt 34, 3) := by decide +kernel
theorem d11_24 : decode jdk_42_method_74_code 24 = .ok (.iload_n 2, 1) := by decide +kernel
theorem d11_25 : decode jdk_42_method_74_code 25 = .ok (.i2l, 1) := by decide +kernel
theorem d11_26 : decode jdk_42_method_74_code 26 = .ok (.aload_n 0, 1) := by decide +kernel
theorem d11_27 : decode jdk_42_method_74_code 27 = .ok (.invokevirtual 505, 3) := by decide +kernel
theorem d11_30 : decode jdk_42_method_74_code 30 = .ok (.i2l, 1) := by decide +kernel
theorem d11_31 : decode jdk_42_method_74_code 31 = .ok (.iload 5, 2) := by decide +kernel
theorem d11_33 : decode jdk_42_method_74_code 33 = .ok (.i2l, 1) := by decide +kernel
theorem d11_34 : decode jdk_42_method_74_code 34 = .ok (.lsub, 1) := by decide +kernel
theorem d11_35 : decode jdk_42_method_74_code 35 = .ok (.lcmp, 1) := by decide +kernel
theorem d11_36 : decode jdk_42_method_74_code 36 = .ok (.ifCond .gt 19, 3) := by decide +kernel
theorem d11_39 : decode jdk_42_method_74_code 39 = .ok (.iload 4, 2) := by decide +kernel
theorem d11_41 : decode jdk_42_method_74_code 41 = .ok (.i2l, 1) := by decide +kernel
theorem d11_42 : decode jdk_42_method_74_code 42 = .ok (.aload_n 3, 1) := by decide +kernel
theorem d11_43 : decode jdk_42_method_74_code 43 = .ok (.invokevirtual 505, 3) := by decide +kernel
theorem d11_46 : decode jdk_42_method_74_code 46 = .ok (.i2l, 1) := by decide +kernel
theorem d11_47 : decode jdk_42_method_74_code 47 = .ok (.iload 5, 2) := by decide +kernel
theorem d11_49 : decode jdk_42_method_74_code 49 = .ok (.i2l, 1) := by decide +kernel
theorem d11_50 : decode jdk_42_method_74_code 50 = .ok (.lsub, 1) := by decide +kernel
theorem d11_51 : decode jdk_42_method_74_code 51 = .ok (.lcmp, 1) := by decide +kernel
theorem d11_52 : decode jdk_42_method_74_code 52 = .ok (.ifCond .le 5, 3) := by decide +kernel
theorem d11_55 : decode jdk_42_method_74_code 55 = .ok (.iconst 0, 1) := by decide +kernel
theorem d11_56 : decode jdk_42_method_74_code 56 = .ok (.ireturn, 1) := by decide +kernel
theorem d11_57 : decode jdk_42_method_74_code 57 = .ok (.aload_n 0, 1) := by decide +kernel
theorem d11_58 : decode jdk_42_method_74_code 58 = .ok (.getfield 9, 3) := by decide +kernel
theorem d11_61 : decode jdk_42_method_74_code 61 = .ok (.astore 6, 2) := by decide +kernel
theorem d11_63 : decode jdk_42_method_74_code 63 = .ok (.aload_n 3, 1) := by decide +kernel
theorem d11_64 : decode jdk_42_method_74_code 64 = .ok (.getfield 9, 3) := by decide +kernel
theorem d11_67 : decode jdk_42_method_74_code 67 = .ok (.astore 7, 2) := by decide +kernel
theorem d11_69 : decode jdk_42_method_74_code 69 = .ok (.aload_n 0, 1) := by decide +kernel
theorem d11_70 : decode jdk_42_method_74_code 70 = .ok (.invokevirtual 335, 3) := by decide +kernel
theorem d11_73 : decode jdk_42_method_74_code 73 = .ok (.istore 8, 2) := by decide +kernel
theorem d11_75 : decode jdk_42_method_74_code 75 = .ok (.iload 8, 2) := by decide +kernel
theorem d11_77 : decode jdk_42_method_74_code 77 = .ok (.aload_n 3, 1) := by decide +kernel
theorem d11_78 : decode jdk_42_method_74_code 78 = .ok (.invokevirtual 335, 3) := by decide +kernel
theorem d11_81 : decode jdk_42_method_74_code 81 = .ok (.if_icmp .ne 36, 3) := by decide +kernel
theorem d11_84 : decode jdk_42_method_74_code 84 = .ok (.iload 8, 2) := by decide +kernel
theorem d11_86 : decode jdk_42_method_74_code 86 = .ok (.ifCond .ne 18, 3) := by decide +kernel
theorem d11_89 : decode jdk_42_method_74_code 89 = .ok (.aload 6, 2) := by decide +kernel
theorem d11_91 : decode jdk_42_method_74_code 91 = .ok (.iload_n 2, 1) := by decide +kernel
theorem d11_92 : decode jdk_42_method_74_code 92 = .ok (.aload 7, 2) := by decide +kernel
theorem d11_94 : decode jdk_42_method_74_code 94 = .ok (.iload 4, 2) := by decide +kernel
theorem d11_96 : decode jdk_42_method_74_code 96 = .ok (.iload 5, 2) := by decide +kernel
theorem d11_98 : decode jdk_42_method_74_code 98 = .ok (.invokestatic 613, 3) := by decide +kernel
theorem d11_101 : decode jdk_42_method_74_code 101 = .ok (.goto 15, 3) := by decide +kernel
theorem d11_104 : decode jdk_42_method_74_code 104 = .ok (.aload 6, 2) := by decide +kernel
theorem d11_106 : decode jdk_42_method_74_code 106 = .ok (.iload_n 2, 1) := by decide +kernel
theorem d11_107 : decode jdk_42_method_74_code 107 = .ok (.aload 7, 2) := by decide +kernel
theorem d11_109 : decode jdk_42_method_74_code 109 = .ok (.iload 4, 2) := by decide +kernel
theorem d11_111 : decode jdk_42_method_74_code 111 = .ok (.iload 5, 2) := by decide +kernel
theorem d11_113 : decode jdk_42_method_74_code 113 = .ok (.invokestatic 617, 3) := by decide +kernel
theorem d11_116 : decode jdk_42_method_74_code 116 = .ok (.ireturn, 1) := by decide +kernel
theorem d11_117 : decode jdk_42_method_74_code 117 = .ok (.iload 8, 2) := by decide +kernel
theorem d11_119 : decode jdk_42_method_74_code 119 = .ok (.ifCond .ne 18, 3) := by decide +kernel
theorem d11_122 : decode jdk_42_method_74_code 122 = .ok (.aload 6, 2) := by decide +kernel
theorem d11_124 : decode jdk_42_method_74_code 124 = .ok (.iload_n 2, 1) := by decide +kernel
theorem d11_125 : decode jdk_42_method_74_code 125 = .ok (.aload 7, 2) := by decide +kernel
theorem d11_127 : decode jdk_42_method_74_code 127 = .ok (.iload 4, 2) := by decide +kernel
theorem d11_129 : decode jdk_42_method_74_code 129 = .ok (.iload 5, 2) := by decide +kernel
theorem d11_131 : decode jdk_42_method_74_code 131 = .ok (.invokestatic 618, 3) := by decide +kernel
theorem d11_134 : decode jdk_42_method_74_code 134 = .ok (.goto 15, 3) := by decide +kernel
theorem d11_137 : decode jdk_42_method_74_code 137 = .ok (.aload 6, 2) := by decide +kernel
theorem d11_139 : decode jdk_42_method_74_code 139 = .ok (.iload_n 2, 1) := by decide +kernel
theorem d11_140 : decode jdk_42_method_74_code 140 = .ok (.aload 7, 2) := by decide +kernel
theorem d11_142 : decode jdk_42_method_74_code 142 = .ok (.iload 4, 2) := by decide +kernel
theorem d11_144 : decode jdk_42_method_74_code 144 = .ok (.iload 5, 2) := by decide +kernel
theorem d11_146 : decode jdk_42_method_74_code 146 = .ok (.invokestatic 621, 3) := by decide +kernel
theorem d11_149 : decode jdk_42_method_74_code 149 = .ok (.ireturn, 1) := by decide +kernel
set_option maxRecDepth 65536 in
set_option maxHeartbeats 40000000 in
theorem c_rm (l : Launch) (Z : State) (a0 : Array Value) (G : Gl Z a0) (a b t u : Addr) (kb kb' : ClassId) (cs ds : List Int32) (h : Heap) (E : Exa Z h a "java/lang/String") (C : Fld Z h a "java/lang/String" "coder" "B" (.int (0 : Int32))) (V : Fld Z h a "java/lang/String" "value" "[B" (.ref t)) (A : Arv Z h t kb .byte (Int32.ofNat cs.length) (bys cs) (.int (0 : Int32))) (hcs : ∀ c ∈ cs, ¬ c < 0 ∧ ¬ (255 : Int32) < c) (hlen : cs.length ≤ 4000) (E' : Exa Z h b "java/lang/String") (C' : Fld Z h b "java/lang/String" "coder" "B" (.int (0 : Int32))) (V' : Fld Z h b "java/lang/String" "value" "[B" (.ref u)) (A' : Arv Z h u kb' .byte (Int32.ofNat ds.length) (bys ds) (.int (0 : Int32))) (hds : ∀ c ∈ ds, ¬ c < 0 ∧ ¬ (255 : Int32) < c) (hlen' : ds.length ≤ 4000) (hl : cs.length = ds.length) :
    Ctr l Z EL nw (⟨"java/lang/String", "regionMatches", "(ZILjava/lang/String;II)Z"⟩ : MethodName) jdk_42_method_74_code 9 (Option.some Jvm.ClassFile.FieldType.boolean) ({ frames := 2, cells := 0, slots := 0, locals := 33 } : Room) #[.ref a, .int (1 : Int32), .int (0 : Int32), .ref b, .int (0 : Int32), .int (Int32.ofNat cs.length)] h [] (PureQ h fun v => v = .int (if ciL cs ds = true then 1 else 0)) := by
  obtain ⟨hw, hEL, hSA, ⟨zc, SC, hz⟩, ⟨fm, SF, hfm⟩⟩ := id G
  refine Ctr.enter (own := "java/lang/String") (nm := "regionMatches") rfl rfl hEL (plainFor_of_name pn_0) #[.val (.ref a), .val (.int (1 : Int32)), .val (.int (0 : Int32)), .val (.ref b), .val (.int (0 : Int32)), .val (.int (Int32.ofNat cs.length)), .unset, .unset, .unset] (fun m => by first | rfl | (simp [entryFrame, mkF, argsToLocals, Value.category, maxLocals]; done)) ?_
  intro p e s m below meth c T X
  refine g_iloadN X d11_0 rfl 1 rfl ?_
  refine g_ifYes X d11_1 (XT.ii_ne_t (by decide)) 15 (by decide) (by decide) ?_
  refine g_iload X d11_15 rfl 17 rfl ?_
  refine g_ifNo X d11_17 (XT.ii_lt_f (by decide)) 20 rfl ?_
  refine g_iloadN X d11_20 rfl 21 rfl ?_
  refine g_ifNo X d11_21 (XT.ii_lt_f (by decide)) 24 rfl ?_
  refine g_iloadN X d11_24 rfl 25 rfl ?_
  refine g_i2l X d11_25 _ rfl 26 rfl ?_
  refine g_aloadN X d11_26 rfl rfl 27 rfl ?_
  refine g_callVp X (hw _ (List.mem_of_getElem? (i := 52) rfl)) (hw _ (List.mem_of_getElem? (i := 53) rfl)) (hw _ (List.mem_of_getElem? (i := 55) rfl)) (hw _ (List.mem_of_getElem? (i := 54) rfl)) (hw _ (List.mem_of_getElem? (i := 6) rfl)) (hw _ (List.mem_of_getElem? (i := 56) rfl)) (nfSel (hw _ (List.mem_of_getElem? (i := 55) rfl))) (by decide) E (c_len l Z a0 G a t kb cs h E C V A hcs hlen) (by simp) (argsL := []) (rest := [.long ((0 : Int32).toInt64)]) pd_9 rfl rfl rfl rfl 2 (Nat.le_of_eq rfl) (by decide) (by decide) (ck := 0) rfl (cs := 0) rfl (by decide) (by decide) d11_27 30 rfl ?_
  intro w3 T1 X2 hq4
  subst hq4
  refine g_i2l X2 d11_30 _ rfl 31 rfl ?_
  refine g_iload X2 d11_31 rfl 33 rfl ?_
  refine g_i2l X2 d11_33 _ rfl 34 rfl ?_
  refine g_lsub X2 d11_34 0 (by first | exact Int64.sub_self _ | (rw [hl]; exact Int64.sub_self _)) 35 rfl ?_
  refine g_lcmp X2 d11_35 (0 : Int32) (by decide) 36 rfl ?_
  refine g_ifNo X2 d11_36 (XT.ii_gt_f (by decide)) 39 rfl ?_
  refine g_iload X2 d11_39 rfl 41 rfl ?_
  refine g_i2l X2 d11_41 _ rfl 42 rfl ?_
  refine g_aloadN X2 d11_42 rfl rfl 43 rfl ?_
  refine g_callVp X2 (hw _ (List.mem_of_getElem? (i := 52) rfl)) (hw _ (List.mem_of_getElem? (i := 53) rfl)) (hw _ (List.mem_of_getElem? (i := 55) rfl)) (hw _ (List.mem_of_getElem? (i := 54) rfl)) (hw _ (List.mem_of_getElem? (i := 6) rfl)) (hw _ (List.mem_of_getElem? (i := 56) rfl)) (nfSel (hw _ (List.mem_of_getElem? (i := 55) rfl))) (by decide) E' (c_len l Z a0 G b u kb' ds h E' C' V' A' hds hlen') (by simp) (argsL := []) (rest := [.long ((0 : Int32).toInt64)]) pd_9 rfl rfl rfl rfl 2 (Nat.le_of_eq rfl) (by decide) (by decide) (ck := 0) rfl (cs := 0) rfl (by decide) (by decide) d11_43 46 rfl ?_
  intro w7 T5 X6 hq8
  subst hq8
  refine g_i2l X6 d11_46 _ rfl 47 rfl ?_
  refine g_iload X6 d11_47 rfl 49 rfl ?_
  refine g_i2l X6 d11_49 _ rfl 50 rfl ?_
  refine g_lsub X6 d11_50 0 (by first | exact Int64.sub_self _ | (rw [hl]; exact Int64.sub_self _)) 51 rfl ?_
  refine g_lcmp X6 d11_51 (0 : Int32) (by decide) 52 rfl ?_
  refine g_ifYes X6 d11_52 (XT.ii_le_t (by decide)) 57 (by decide) (by decide) ?_
  refine g_aloadN X6 d11_57 rfl rfl 58 rfl ?_
  refine g_getF X6 (Or.inl (hw _ (List.mem_of_getElem? (i := 24) rfl))) (host := "") Via.refl V d11_58 61 rfl ?_
  intro T9 X10
  refine g_astore X10 d11_61 rfl (Ls' := #[.val (.ref a), .val (.int (1 : Int32)), .val (.int (0 : Int32)), .val (.ref b), .val (.int (0 : Int32)), .val (.int (Int32.ofNat cs.length)), .val (.ref t), .unset, .unset]) rfl 63 rfl ?_
  refine g_aloadN X10 d11_63 rfl rfl 64 rfl ?_
  refine g_getF X10 (Or.inl (hw _ (List.mem_of_getElem? (i := 24) rfl))) (host := "") Via.refl V' d11_64 67 rfl ?_
  intro T11 X12
  refine g_astore X12 d11_67 rfl (Ls' := #[.val (.ref a), .val (.int (1 : Int32)), .val (.int (0 : Int32)), .val (.ref b), .val (.int (0 : Int32)), .val (.int (Int32.ofNat cs.length)), .val (.ref t), .val (.ref u), .unset]) rfl 69 rfl ?_
  refine g_aloadN X12 d11_69 rfl rfl 70 rfl ?_
  refine g_callVp X12 (hw _ (List.mem_of_getElem? (i := 57) rfl)) (hw _ (List.mem_of_getElem? (i := 58) rfl)) (hw _ (List.mem_of_getElem? (i := 60) rfl)) (hw _ (List.mem_of_getElem? (i := 59) rfl)) (hw _ (List.mem_of_getElem? (i := 6) rfl)) (hw _ (List.mem_of_getElem? (i := 61) rfl)) (nfSel (hw _ (List.mem_of_getElem? (i := 60) rfl))) (by decide) E (c_cod l Z a0 G a h C) (by simp) (argsL := []) (rest := []) pd_10 rfl rfl rfl rfl 0 (Nat.le_of_eq rfl) (by decide) (by decide) (ck := 0) rfl (cs := 0) rfl (by decide) (by decide) d11_70 73 rfl ?_
  intro w15 T13 X14 hq16
  subst hq16
  refine g_istore X14 d11_73 (Ls' := #[.val (.ref a), .val (.int (1 : Int32)), .val (.int (0 : Int32)), .val (.ref b), .val (.int (0 : Int32)), .val (.int (Int32.ofNat cs.length)), .val (.ref t), .val (.ref u), .val (.int (0 : Int32))]) rfl 75 rfl ?_
  refine g_iload X14 d11_75 rfl 77 rfl ?_
  refine g_aloadN X14 d11_77 rfl rfl 78 rfl ?_
  refine g_callVp X14 (hw _ (List.mem_of_getElem? (i := 57) rfl)) (hw _ (List.mem_of_getElem? (i := 58) rfl)) (hw _ (List.mem_of_getElem? (i := 60) rfl)) (hw _ (List.mem_of_getElem? (i := 59) rfl)) (hw _ (List.mem_of_getElem? (i := 6) rfl)) (hw _ (List.mem_of_getElem? (i := 61) rfl)) (nfSel (hw _ (List.mem_of_getElem? (i := 60) rfl))) (by decide) E' (c_cod l Z a0 G b h C') (by simp) (argsL := []) (rest := [.int (0 : Int32)]) pd_10 rfl rfl rfl rfl 1 (Nat.le_of_eq rfl) (by decide) (by decide) (ck := 0) rfl (cs := 0) rfl (by decide) (by decide) d11_78 81 rfl ?_
  intro w19 T17 X18 hq20
  subst hq20
  refine g_icmpNo X18 d11_81 (XT.ii_ne_f (by decide)) 84 rfl ?_
  refine g_iload X18 d11_84 rfl 86 rfl ?_
  refine g_ifNo X18 d11_86 (XT.ii_ne_f (by decide)) 89 rfl ?_
  refine g_aload X18 d11_89 rfl rfl 91 rfl ?_
  refine g_iloadN X18 d11_91 rfl 92 rfl ?_
  refine g_aload X18 d11_92 rfl rfl 94 rfl ?_
  refine g_iload X18 d11_94 rfl 96 rfl ?_
  refine g_iload X18 d11_96 rfl 98 rfl ?_
  refine g_callSp X18 (hw _ (List.mem_of_getElem? (i := 68) rfl)) (hw _ (List.mem_of_getElem? (i := 69) rfl)) (hw _ (List.mem_of_getElem? (i := 70) rfl)) (hw _ (List.mem_of_getElem? (i := 71) rfl)) (by decide) (c_rmci l Z a0 G t u kb kb' cs ds h A A' hlen hl) (by simp) (argsL := [.ref t, .int (0 : Int32), .ref u, .int (0 : Int32), .int (Int32.ofNat cs.length)]) (rest := []) pd_7 rfl rfl rfl rfl 0 (Nat.le_of_eq rfl) (by decide) (by decide) (ck := 0) rfl (cs := 0) rfl (by decide) (by decide) d11_98 101 rfl ?_
  intro w23 T21 X22 hq24
  subst hq24
  refine g_goto X22 d11_101 116 (by decide) (by decide) ?_
  exact g_retN X22 (t := .boolean) rfl (by simp) d11_116 _ (nar_b _) (by decide) (by decide) ⟨rfl, _, rfl, rfl⟩
theorem d8_0 : decode jdk_42_method_70_code 0 = .ok (.aload_n 0, 1) := by decide +kernel
theorem d8_1 : decode jdk_42_method_70_code 1 = .ok (.aload_n 1, 1) := by decide +kernel
theorem d8_2 : decode jdk_42_method_70_code 2 = .ok (.if_acmp .ne 7, 3) := by decide +kernel
theorem d8_5 : decode jdk_42_method_70_code 5 = .ok (.iconst 1, 1) := by decide +kernel
theorem d8_6 : decode jdk_42_method_70_code 6 = .ok (.goto 38, 3) := by decide +kernel
theorem d8_9 : decode jdk_42_method_70_code 9 = .ok (.aload_n 1, 1) := by decide +kernel
theorem d8_10 : decode jdk_42_method_70_code 10 = .ok (.ifnull 33, 3) := by decide +kernel
theorem d8_13 : decode jdk_42_method_70_code 13 = .ok (.aload_n 1, 1) := by decide +kernel
theorem d8_14 : decode jdk_42_method_70_code 14 = .ok (.invokevirtual 505, 3) := by decide +kernel
theorem d8_17 : decode jdk_42_method_70_code 17 = .ok (.aload_n 0, 1) := by decide +kernel
theorem d8_18 : decode jdk_42_method_70_code 18 = .ok (.invokevirtual 505, 3) := by decide +kernel
theorem d8_21 : decode jdk_42_method_70_code 21 = .ok (.if_icmp .ne 22, 3) := by decide +kernel
theorem d8_24 : decode jdk_42_method_70_code 24 = .ok (.aload_n 0, 1) := by decide +kernel
theorem d8_25 : decode jdk_42_method_70_code 25 = .ok (.iconst 1, 1) := by decide +kernel
theorem d8_26 : decode jdk_42_method_70_code 26 = .ok (.iconst 0, 1) := by decide +kernel
theorem d8_27 : decode jdk_42_method_70_code 27 = .ok (.aload_n 1, 1) := by decide +kernel
theorem d8_28 : decode jdk_42_method_70_code 28 = .ok (.iconst 0, 1) := by decide +kernel
theorem d8_29 : decode jdk_42_method_70_code 29 = .ok (.aload_n 0, 1) := by decide +kernel
theorem d8_30 : decode jdk_42_method_70_code 30 = .ok (.invokevirtual 505, 3) := by decide +kernel
theorem d8_33 : decode jdk_42_method_70_code 33 = .ok (.invokevirtual 582, 3) := by decide +kernel
theorem d8_36 : decode jdk_42_method_70_code 36 = .ok (.ifCond .eq 7, 3) := by decide +kernel
theorem d8_39 : decode jdk_42_method_70_code 39 = .ok (.iconst 1, 1) := by decide +kernel
theorem d8_40 : decode jdk_42_method_70_code 40 = .ok (.goto 4, 3) := by decide +kernel
theorem d8_43 : decode jdk_42_method_70_code 43 = .ok (.iconst 0, 1) := by decide +kernel
theorem d8_44 : decode jdk_42_method_70_code 44 = .ok (.ireturn, 1) := by decide +kernel
set_option maxRecDepth 65536 in
set_option maxHeartbeats 40000000 in
theorem c_eqic (l : Launch) (Z : State) (a0 : Array Value) (G : Gl Z a0) (a b t u : Addr) (kb kb' : ClassId) (cs ds : List Int32) (hab : a = b → cs = ds) (h : Heap) (E : Exa Z h a "java/lang/String") (C : Fld Z h a "java/lang/String" "coder" "B" (.int (0 : Int32))) (V : Fld Z h a "java/lang/String" "value" "[B" (.ref t)) (A : Arv Z h t kb .byte (Int32.ofNat cs.length) (bys cs) (.int (0 : Int32))) (hcs : ∀ c ∈ cs, ¬ c < 0 ∧ ¬ (255 : Int32) < c) (hlen : cs.length ≤ 4000) (E' : Exa Z h b "java/lang/String") (C' : Fld Z h b "java/lang/String" "coder" "B" (.int (0 : Int32))) (V' : Fld Z h b "java/lang/String" "value" "[B" (.ref u)) (A' : Arv Z h u kb' .byte (Int32.ofNat ds.length) (bys ds) (.int (0 : Int32))) (hds : ∀ c ∈ ds, ¬ c < 0 ∧ ¬ (255 : Int32) < c) (hlen' : ds.length ≤ 4000) :
    Ctr l Z EL nw (⟨"java/lang/String", "equalsIgnoreCase", "(Ljava/lang/String;)Z"⟩ : MethodName) jdk_42_method_70_code 2 (Option.some Jvm.ClassFile.FieldType.boolean) ({ frames := 3, cells := 0, slots := 0, locals := 53 } : Room) #[.ref a, .ref b] h [] (PureQ h fun v => v = .int (if eqI cs ds = true then 1 else 0)) := by
  obtain ⟨hw, hEL, hSA, ⟨zc, SC, hz⟩, ⟨fm, SF, hfm⟩⟩ := id G
  refine Ctr.enter (own := "java/lang/String") (nm := "equalsIgnoreCase") rfl rfl hEL (plainFor_of_name pn_0) #[.val (.ref a), .val (.ref b)] (fun m => by first | rfl | (simp [entryFrame, mkF, argsToLocals, Value.category, maxLocals]; done)) ?_
  intro p e s m below meth c T X
  refine g_aloadN X d8_0 rfl rfl 1 rfl ?_
  refine g_aloadN X d8_1 rfl rfl 2 rfl ?_
  by_cases hb2 : (.ref a : Value) = .ref b
  · refine g_acmpNo X d8_2 rfl rfl (XT.aa_ne_f hb2) 5 rfl ?_
    refine g_iconst X (1 : Int32) d8_5 (by decide) 6 rfl ?_
    refine g_goto X d8_6 44 (by decide) (by decide) ?_
    exact g_retN X (t := .boolean) rfl (by simp) d8_44 _ rfl (by decide) (by decide) ⟨rfl, _, rfl, (by rw [hab (Value.ref.inj hb2), eqI_refl]; rfl)⟩
  · refine g_acmpYes X d8_2 rfl rfl (XT.aa_ne_t hb2) 9 (by decide) (by decide) ?_
    refine g_aloadN X d8_9 rfl rfl 10 rfl ?_
    refine g_ifnullNo X d8_10 13 rfl ?_
    refine g_aloadN X d8_13 rfl rfl 14 rfl ?_
    refine g_callVp X (hw _ (List.mem_of_getElem? (i := 52) rfl)) (hw _ (List.mem_of_getElem? (i := 53) rfl)) (hw _ (List.mem_of_getElem? (i := 55) rfl)) (hw _ (List.mem_of_getElem? (i := 54) rfl)) (hw _ (List.mem_of_getElem? (i := 6) rfl)) (hw _ (List.mem_of_getElem? (i := 56) rfl)) (nfSel (hw _ (List.mem_of_getElem? (i := 55) rfl))) (by decide) E' (c_len l Z a0 G b u kb' ds h E' C' V' A' hds hlen') (by simp) (argsL := []) (rest := []) pd_9 rfl rfl rfl rfl 0 (Nat.le_of_eq rfl) (by decide) (by decide) (ck := 0) rfl (cs := 0) rfl (by decide) (by decide) d8_14 17 rfl ?_
    intro w3 T1 X2 hq4
    subst hq4
    refine g_aloadN X2 d8_17 rfl rfl 18 rfl ?_
    refine g_callVp X2 (hw _ (List.mem_of_getElem? (i := 52) rfl)) (hw _ (List.mem_of_getElem? (i := 53) rfl)) (hw _ (List.mem_of_getElem? (i := 55) rfl)) (hw _ (List.mem_of_getElem? (i := 54) rfl)) (hw _ (List.mem_of_getElem? (i := 6) rfl)) (hw _ (List.mem_of_getElem? (i := 56) rfl)) (nfSel (hw _ (List.mem_of_getElem? (i := 55) rfl))) (by decide) E (c_len l Z a0 G a t kb cs h E C V A hcs hlen) (by simp) (argsL := []) (rest := [.int (Int32.ofNat ds.length)]) pd_9 rfl rfl rfl rfl 1 (Nat.le_of_eq rfl) (by decide) (by decide) (ck := 0) rfl (cs := 0) rfl (by decide) (by decide) d8_18 21 rfl ?_
    intro w7 T5 X6 hq8
    subst hq8
    by_cases hl : cs.length = ds.length
    · refine g_icmpNo X6 d8_21 (XT.ii_ne_f (by rw [hl])) 24 rfl ?_
      refine g_aloadN X6 d8_24 rfl rfl 25 rfl ?_
      refine g_iconst X6 (1 : Int32) d8_25 (by decide) 26 rfl ?_
      refine g_iconst X6 (0 : Int32) d8_26 (by decide) 27 rfl ?_
      refine g_aloadN X6 d8_27 rfl rfl 28 rfl ?_
      refine g_iconst X6 (0 : Int32) d8_28 (by decide) 29 rfl ?_
      refine g_aloadN X6 d8_29 rfl rfl 30 rfl ?_
      refine g_callVp X6 (hw _ (List.mem_of_getElem? (i := 52) rfl)) (hw _ (List.mem_of_getElem? (i := 53) rfl)) (hw _ (List.mem_of_getElem? (i := 55) rfl)) (hw _ (List.mem_of_getElem? (i := 54) rfl)) (hw _ (List.mem_of_getElem? (i := 6) rfl)) (hw _ (List.mem_of_getElem? (i := 56) rfl)) (nfSel (hw _ (List.mem_of_getElem? (i := 55) rfl))) (by decide) E (c_len l Z a0 G a t kb cs h E C V A hcs hlen) (by simp) (argsL := []) (rest := [.int (0 : Int32), .ref b, .int (0 : Int32), .int (1 : Int32), .ref a]) pd_9 rfl rfl rfl rfl 5 (Nat.le_of_eq rfl) (by decide) (by decide) (ck := 0) rfl (cs := 0) rfl (by decide) (by decide) d8_30 33 rfl ?_
      intro w11 T9 X10 hq12
      subst hq12
      refine g_callVp X10 (hw _ (List.mem_of_getElem? (i := 63) rfl)) (hw _ (List.mem_of_getElem? (i := 64) rfl)) (hw _ (List.mem_of_getElem? (i := 66) rfl)) (hw _ (List.mem_of_getElem? (i := 65) rfl)) (hw _ (List.mem_of_getElem? (i := 6) rfl)) (hw _ (List.mem_of_getElem? (i := 67) rfl)) (nfSel (hw _ (List.mem_of_getElem? (i := 66) rfl))) (by decide) E (c_rm l Z a0 G a b t u kb kb' cs ds h E C V A hcs hlen E' C' V' A' hds hlen' hl) (by simp) (argsL := [.int (1 : Int32), .int (0 : Int32), .ref b, .int (0 : Int32), .int (Int32.ofNat cs.length)]) (rest := []) pd_6 rfl rfl rfl rfl 0 (Nat.le_of_eq rfl) (by decide) (by decide) (ck := 0) rfl (cs := 0) rfl (by decide) (by decide) d8_33 36 rfl ?_
      intro w15 T13 X14 hq16
      subst hq16
      by_cases hci : ciL cs ds = true
      · refine g_ifNo X14 d8_36 (XT.ii_eq_f (by rw [if_pos hci]; decide)) 39 rfl ?_
        refine g_iconst X14 (1 : Int32) d8_39 (by decide) 40 rfl ?_
        refine g_goto X14 d8_40 44 (by decide) (by decide) ?_
        exact g_retN X14 (t := .boolean) rfl (by simp) d8_44 _ rfl (by decide) (by decide) ⟨rfl, _, rfl, (by rw [show eqI cs ds = true from by simp [eqI, hl, hci]]; rfl)⟩
      · refine g_ifYes X14 d8_36 (XT.ii_eq_t (if_neg hci)) 43 (by decide) (by decide) ?_
        refine g_iconst X14 (0 : Int32) d8_43 (by decide) 44 rfl ?_
        exact g_retN X14 (t := .boolean) rfl (by simp) d8_44 _ rfl (by decide) (by decide) ⟨rfl, _, rfl, (by rw [show eqI cs ds = false from by simp [eqI, hl, hci]]; rfl)⟩
    · refine g_icmpYes X6 d8_21 (XT.ii_ne_t (fun q => hl (of_eq hlen hlen' q.symm))) 43 (by decide) (by decide) ?_
      refine g_iconst X6 (0 : Int32) d8_43 (by decide) 44 rfl ?_
      exact g_retN X6 (t := .boolean) rfl (by simp) d8_44 _ rfl (by decide) (by decide) ⟨rfl, _, rfl, (by rw [show eqI cs ds = false from by simp [eqI, hl]]; rfl)⟩
theorem d5_0 : decode prog_12_method_1_code 0 = .ok (.aload_n 0, 1) := by decide +kernel
theorem d5_1 : decode prog_12_method_1_code 1 = .ok (.invokespecial 1, 3) := by decide +kernel
theorem d5_4 : decode prog_12_method_1_code 4 = .ok (.aload_n 0, 1) := by decide +kernel
theorem d5_5 : decode prog_12_method_1_code 5 = .ok (.aload_n 1, 1) := by decide +kernel
theorem d5_6 : decode prog_12_method_1_code 6 = .ok (.putfield 7, 3) := by decide +kernel
theorem d5_9 : decode prog_12_method_1_code 9 = .ok (.aload_n 0, 1) := by decide +kernel
theorem d5_10 : decode prog_12_method_1_code 10 = .ok (.aload_n 2, 1) := by decide +kernel
theorem d5_11 : decode prog_12_method_1_code 11 = .ok (.putfield 13, 3) := by decide +kernel
theorem d5_14 : decode prog_12_method_1_code 14 = .ok (.return_, 1) := by decide +kernel
theorem pn_4 : plainName "com/example/thalwil/thalwil/JoinColumn" = true := by first | (simp [plainName, overriddenIn]; done) | decide +kernel
set_option maxRecDepth 65536 in
set_option maxHeartbeats 40000000 in
theorem c_jinit (l : Launch) (Z : State) (a0 : Array Value) (G : Gl Z a0) (j a b : Addr) (h : Heap) (E : Exa Z h j "com/example/thalwil/thalwil/JoinColumn") (F0 : Fld Z h j "com/example/thalwil/thalwil/JoinColumn" "table" "Ljava/lang/String;" .null) (F1 : Fld Z h j "com/example/thalwil/thalwil/JoinColumn" "column" "Ljava/lang/String;" .null) :
    Ctr l Z EL nw (⟨"com/example/thalwil/thalwil/JoinColumn", "<init>", "(Ljava/lang/String;Ljava/lang/String;)V"⟩ : MethodName) prog_12_method_1_code 3 (Option.none : Option Jvm.ClassFile.FieldType) ({ frames := 1, cells := 0, slots := 0, locals := 12 } : Room) #[.ref j, .ref a, .ref b] h [j] (VoidQ fun h' => Keep h h' [j] ∧ Exa Z h' j "com/example/thalwil/thalwil/JoinColumn" ∧ Fld Z h' j "com/example/thalwil/thalwil/JoinColumn" "table" "Ljava/lang/String;" (.ref a) ∧ Fld Z h' j "com/example/thalwil/thalwil/JoinColumn" "column" "Ljava/lang/String;" (.ref b)) := by
  obtain ⟨hw, hEL, hSA, ⟨zc, SC, hz⟩, ⟨fm, SF, hfm⟩⟩ := id G
  refine Ctr.enter (own := "com/example/thalwil/thalwil/JoinColumn") (nm := "<init>") rfl rfl hEL (plainFor_of_name pn_4) #[.val (.ref j), .val (.ref a), .val (.ref b)] (fun m => by first | rfl | (simp [entryFrame, mkF, argsToLocals, Value.category, maxLocals]; done)) ?_
  intro p e s m below meth c T X
  refine g_aloadN X d5_0 rfl rfl 1 rfl ?_
  refine g_initO X (hw _ (List.mem_of_getElem? (i := 32) rfl)) (hw _ (List.mem_of_getElem? (i := 16) rfl)) (hw _ (List.mem_of_getElem? (i := 17) rfl)) rfl d5_1 (by decide) 0 (Nat.le_of_eq rfl) (by decide) 4 rfl ?_
  intro T1 X2
  refine g_aloadN X2 d5_4 rfl rfl 5 rfl ?_
  refine g_aloadN X2 d5_5 rfl rfl 6 rfl ?_
  refine g_putF X2 (Or.inl (hw _ (List.mem_of_getElem? (i := 33) rfl))) (host := "") Via.refl F0 E (Or.inr ⟨(hw _ (List.mem_of_getElem? (i := 34) rfl)), rfl, rfl⟩) (hw _ (List.mem_of_getElem? (i := 27) rfl)) (ty := (.object "java/lang/String")) (by rfl) rfl rfl (by simp) d5_6 9 rfl ?_
  intro T3 h4 X5 W6 F7 E8
  refine g_aloadN X5 d5_9 rfl rfl 10 rfl ?_
  refine g_aloadN X5 d5_10 rfl rfl 11 rfl ?_
  refine g_putF X5 (Or.inl (hw _ (List.mem_of_getElem? (i := 35) rfl))) (host := "") Via.refl (F1.other W6 (Or.inr (slot_ne (Or.inr (hw _ (List.mem_of_getElem? (i := 36) rfl))) (Or.inr (hw _ (List.mem_of_getElem? (i := 34) rfl))) (by decide) (by rfl) (by rfl)))) E8 (Or.inr ⟨(hw _ (List.mem_of_getElem? (i := 36) rfl)), rfl, rfl⟩) (hw _ (List.mem_of_getElem? (i := 27) rfl)) (ty := (.object "java/lang/String")) (by rfl) rfl rfl (by simp) d5_11 14 rfl ?_
  intro T9 h10 X11 W12 F13 E14
  exact g_ret X11 rfl d5_14 (by decide) (by decide) ⟨rfl, ⟨(((Keep.refl h [j]).wr W6 (Or.inl (by simp))).wr W12 (Or.inl (by simp))), E14, (F7.other W12 (Or.inr (slot_ne (Or.inr (hw _ (List.mem_of_getElem? (i := 34) rfl))) (Or.inr (hw _ (List.mem_of_getElem? (i := 36) rfl))) (by decide) (by rfl) (by rfl)))), F13⟩⟩
theorem d6_0 : decode prog_12_method_3_code 0 = .ok (.aload_n 1, 1) := by decide +kernel
theorem d6_1 : decode prog_12_method_3_code 1 = .ok (.instanceof 8, 3) := by decide +kernel
theorem d6_4 : decode prog_12_method_3_code 4 = .ok (.ifCond .ne 5, 3) := by decide +kernel
theorem d6_7 : decode prog_12_method_3_code 7 = .ok (.iconst 0, 1) := by decide +kernel
theorem d6_8 : decode prog_12_method_3_code 8 = .ok (.ireturn, 1) := by decide +kernel
theorem d6_9 : decode prog_12_method_3_code 9 = .ok (.aload_n 1, 1) := by decide +kernel
theorem d6_10 : decode prog_12_method_3_code 10 = .ok (.checkcast 8, 3) := by decide +kernel
theorem d6_13 : decode prog_12_method_3_code 13 = .ok (.astore_n 2, 1) := by decide +kernel
theorem d6_14 : decode prog_12_method_3_code 14 = .ok (.aload_n 0, 1) := by decide +kernel
theorem d6_15 : decode prog_12_method_3_code 15 = .ok (.getfield 7, 3) := by decide +kernel
theorem d6_18 : decode prog_12_method_3_code 18 = .ok (.aload_n 2, 1) := by decide +kernel
theorem d6_19 : decode prog_12_method_3_code 19 = .ok (.getfield 7, 3) := by decide +kernel
theorem d6_22 : decode prog_12_method_3_code 22 = .ok (.invokevirtual 26, 3) := by decide +kernel
theorem d6_25 : decode prog_12_method_3_code 25 = .ok (.ifCond .eq 21, 3) := by decide +kernel
theorem d6_28 : decode prog_12_method_3_code 28 = .ok (.aload_n 0, 1) := by decide +kernel
theorem d6_29 : decode prog_12_method_3_code 29 = .ok (.getfield 13, 3) := by decide +kernel
theorem d6_32 : decode prog_12_method_3_code 32 = .ok (.aload_n 2, 1) := by decide +kernel
theorem d6_33 : decode prog_12_method_3_code 33 = .ok (.getfield 13, 3) := by decide +kernel
theorem d6_36 : decode prog_12_method_3_code 36 = .ok (.invokevirtual 26, 3) := by decide +kernel
theorem d6_39 : decode prog_12_method_3_code 39 = .ok (.ifCond .eq 7, 3) := by decide +kernel
theorem d6_42 : decode prog_12_method_3_code 42 = .ok (.iconst 1, 1) := by decide +kernel
theorem d6_43 : decode prog_12_method_3_code 43 = .ok (.goto 4, 3) := by decide +kernel
theorem d6_46 : decode prog_12_method_3_code 46 = .ok (.iconst 0, 1) := by decide +kernel
theorem d6_47 : decode prog_12_method_3_code 47 = .ok (.ireturn, 1) := by decide +kernel
set_option maxRecDepth 65536 in
set_option maxHeartbeats 40000000 in
theorem c_je0 (l : Launch) (Z : State) (a0 : Array Value) (G : Gl Z a0) (j : Addr) (h : Heap)  :
    Ctr l Z EL nw (⟨"com/example/thalwil/thalwil/JoinColumn", "equals", "(Ljava/lang/Object;)Z"⟩ : MethodName) prog_12_method_3_code 3 (Option.some Jvm.ClassFile.FieldType.boolean) ({ frames := 0, cells := 0, slots := 0, locals := 0 } : Room) #[.ref j, .null] h [] (PureQ h fun v => v = .int 0) := by
  obtain ⟨hw, hEL, hSA, ⟨zc, SC, hz⟩, ⟨fm, SF, hfm⟩⟩ := id G
  refine Ctr.enter (own := "com/example/thalwil/thalwil/JoinColumn") (nm := "equals") rfl rfl hEL (plainFor_of_name pn_4) #[.val (.ref j), .val (.null), .unset] (fun m => by first | rfl | (simp [entryFrame, mkF, argsToLocals, Value.category, maxLocals]; done)) ?_
  intro p e s m below meth c T X
  refine g_aloadN X d6_0 rfl rfl 1 rfl ?_
  refine g_instNull X d6_1 4 rfl ?_
  refine g_ifNo X d6_4 (XT.ii_ne_f (by decide)) 7 rfl ?_
  refine g_iconst X (0 : Int32) d6_7 (by decide) 8 rfl ?_
  exact g_retN X (t := .boolean) rfl (by simp) d6_8 _ rfl (by decide) (by decide) ⟨rfl, _, rfl, rfl⟩
set_option maxRecDepth 65536 in
set_option maxHeartbeats 40000000 in
theorem c_jeS (l : Launch) (Z : State) (a0 : Array Value) (G : Gl Z a0) (j a : Addr) (us : List Addr) (cs : List Int32) (h : Heap) (S : Str Z h us a cs) :
    Ctr l Z EL nw (⟨"com/example/thalwil/thalwil/JoinColumn", "equals", "(Ljava/lang/Object;)Z"⟩ : MethodName) prog_12_method_3_code 3 (Option.some Jvm.ClassFile.FieldType.boolean) ({ frames := 0, cells := 0, slots := 0, locals := 0 } : Room) #[.ref j, .ref a] h [] (PureQ h fun v => v = .int 0) := by
  obtain ⟨hw, hEL, hSA, ⟨zc, SC, hz⟩, ⟨fm, SF, hfm⟩⟩ := id G
  refine Ctr.enter (own := "com/example/thalwil/thalwil/JoinColumn") (nm := "equals") rfl rfl hEL (plainFor_of_name pn_4) #[.val (.ref j), .val (.ref a), .unset] (fun m => by first | rfl | (simp [entryFrame, mkF, argsToLocals, Value.category, maxLocals]; done)) ?_
  intro p e s m below meth c T X
  refine g_aloadN X d6_0 rfl rfl 1 rfl ?_
  refine g_instNo X (hw _ (List.mem_of_getElem? (i := 45) rfl)) S.exa (own_noassign (hw _ (List.mem_of_getElem? (i := 72) rfl)) (hw _ (List.mem_of_getElem? (i := 73) rfl)) (hw _ (List.mem_of_getElem? (i := 27) rfl)) (by decide) (by decide)) d6_1 4 rfl ?_
  intro T1 X2
  refine g_ifNo X2 d6_4 (XT.ii_ne_f (by decide)) 7 rfl ?_
  refine g_iconst X2 (0 : Int32) d6_7 (by decide) 8 rfl ?_
  exact g_retN X2 (t := .boolean) rfl (by simp) d6_8 _ rfl (by decide) (by decide) ⟨rfl, _, rfl, rfl⟩
set_option maxRecDepth 65536 in
set_option maxHeartbeats 40000000 in
theorem c_je2 (l : Launch) (Z : State) (a0 : Array Value) (G : Gl Z a0) (j1 j2 t1 c1 t2 c2 : Addr) (us : List Addr) (ts1 cs1 ts2 cs2 : List Int32) (h : Heap) (FE1 : Exa Z h j1 "com/example/thalwil/thalwil/JoinColumn") (FT1 : Fld Z h j1 "com/example/thalwil/thalwil/JoinColumn" "table" "Ljava/lang/String;" (.ref t1)) (FC1 : Fld Z h j1 "com/example/thalwil/thalwil/JoinColumn" "column" "Ljava/lang/String;" (.ref c1)) (ST1 : Str Z h us t1 ts1) (SC1 : Str Z h us c1 cs1) (FE2 : Exa Z h j2 "com/example/thalwil/thalwil/JoinColumn") (FT2 : Fld Z h j2 "com/example/thalwil/thalwil/JoinColumn" "table" "Ljava/lang/String;" (.ref t2)) (FC2 : Fld Z h j2 "com/example/thalwil/thalwil/JoinColumn" "column" "Ljava/lang/String;" (.ref c2)) (ST2 : Str Z h us t2 ts2) (SC2 : Str Z h us c2 cs2) :
    Ctr l Z EL nw (⟨"com/example/thalwil/thalwil/JoinColumn", "equals", "(Ljava/lang/Object;)Z"⟩ : MethodName) prog_12_method_3_code 3 (Option.some Jvm.ClassFile.FieldType.boolean) ({ frames := 4, cells := 0, slots := 0, locals := 66 } : Room) #[.ref j1, .ref j2] h [] (PureQ h fun v => v = .int (if (eqI ts1 ts2 && eqI cs1 cs2) = true then 1 else 0)) := by
  obtain ⟨hw, hEL, hSA, ⟨zc, SC, hz⟩, ⟨fm, SF, hfm⟩⟩ := id G
  refine Ctr.enter (own := "com/example/thalwil/thalwil/JoinColumn") (nm := "equals") rfl rfl hEL (plainFor_of_name pn_4) #[.val (.ref j1), .val (.ref j2), .unset] (fun m => by first | rfl | (simp [entryFrame, mkF, argsToLocals, Value.category, maxLocals]; done)) ?_
  intro p e s m below meth c T X
  refine g_aloadN X d6_0 rfl rfl 1 rfl ?_
  refine g_instY X (hw _ (List.mem_of_getElem? (i := 45) rfl)) (Ins.self FE2) d6_1 4 rfl ?_
  intro T1 X2
  refine g_ifYes X2 d6_4 (XT.ii_ne_t (by decide)) 9 (by decide) (by decide) ?_
  refine g_aloadN X2 d6_9 rfl rfl 10 rfl ?_
  refine g_cast X2 (hw _ (List.mem_of_getElem? (i := 45) rfl)) (Ins.self FE2) d6_10 13 rfl ?_
  intro T3 X4
  refine g_astoreN X4 d6_13 rfl (Ls' := #[.val (.ref j1), .val (.ref j2), .val (.ref j2)]) rfl 14 rfl ?_
  refine g_aloadN X4 d6_14 rfl rfl 15 rfl ?_
  refine g_getF X4 (Or.inl (hw _ (List.mem_of_getElem? (i := 33) rfl))) (host := "") Via.refl FT1 d6_15 18 rfl ?_
  intro T5 X6
  refine g_aloadN X6 d6_18 rfl rfl 19 rfl ?_
  refine g_getF X6 (Or.inl (hw _ (List.mem_of_getElem? (i := 33) rfl))) (host := "") Via.refl FT2 d6_19 22 rfl ?_
  intro T7 X8
  obtain ⟨t9, kb10, e11, f12, f13, k14, b15, l16, n17⟩ := id ST1
  obtain ⟨t18, kb19, e20, f21, f22, k23, b24, l25, n26⟩ := id ST2
  refine g_callVp X8 (hw _ (List.mem_of_getElem? (i := 47) rfl)) (hw _ (List.mem_of_getElem? (i := 48) rfl)) (hw _ (List.mem_of_getElem? (i := 50) rfl)) (hw _ (List.mem_of_getElem? (i := 49) rfl)) (hw _ (List.mem_of_getElem? (i := 6) rfl)) (hw _ (List.mem_of_getElem? (i := 51) rfl)) (nfSel (hw _ (List.mem_of_getElem? (i := 50) rfl))) (by decide) e11 (c_eqic l Z a0 G t1 t2 t9 t18 kb10 kb19 ts1 ts2 (str_inj ST1 ST2) h e11 f12 f13 k14 b15 l16 e20 f21 f22 k23 b24 l25) (by simp) (argsL := [.ref t2]) (rest := []) pd_5 rfl rfl rfl rfl 0 (Nat.le_of_eq rfl) (by decide) (by decide) (ck := 0) rfl (cs := 0) rfl (by decide) (by decide) d6_22 25 rfl ?_
  intro w29 T27 X28 hq30
  subst hq30
  by_cases hb25 : (if eqI ts1 ts2 = true then (1 : Int32) else 0) = (0 : Int32)
  · refine g_ifYes X28 d6_25 (XT.ii_eq_t hb25) 46 (by decide) (by decide) ?_
    refine g_iconst X28 (0 : Int32) d6_46 (by decide) 47 rfl ?_
    exact g_retN X28 (t := .boolean) rfl (by simp) d6_47 _ rfl (by decide) (by decide) ⟨rfl, _, rfl, (by revert hb25; cases eqI ts1 ts2 <;> cases eqI cs1 cs2 <;> intros <;> first | rfl | (exfalso; simp_all))⟩
  · refine g_ifNo X28 d6_25 (XT.ii_eq_f hb25) 28 rfl ?_
    refine g_aloadN X28 d6_28 rfl rfl 29 rfl ?_
    refine g_getF X28 (Or.inl (hw _ (List.mem_of_getElem? (i := 35) rfl))) (host := "") Via.refl FC1 d6_29 32 rfl ?_
    intro T31 X32
    refine g_aloadN X32 d6_32 rfl rfl 33 rfl ?_
    refine g_getF X32 (Or.inl (hw _ (List.mem_of_getElem? (i := 35) rfl))) (host := "") Via.refl FC2 d6_33 36 rfl ?_
    intro T33 X34
    obtain ⟨t35, kb36, e37, f38, f39, k40, b41, l42, n43⟩ := id SC1
    obtain ⟨t44, kb45, e46, f47, f48, k49, b50, l51, n52⟩ := id SC2
    refine g_callVp X34 (hw _ (List.mem_of_getElem? (i := 47) rfl)) (hw _ (List.mem_of_getElem? (i := 48) rfl)) (hw _ (List.mem_of_getElem? (i := 50) rfl)) (hw _ (List.mem_of_getElem? (i := 49) rfl)) (hw _ (List.mem_of_getElem? (i := 6) rfl)) (hw _ (List.mem_of_getElem? (i := 51) rfl)) (nfSel (hw _ (List.mem_of_getElem? (i := 50) rfl))) (by decide) e37 (c_eqic l Z a0 G c1 c2 t35 t44 kb36 kb45 cs1 cs2 (str_inj SC1 SC2) h e37 f38 f39 k40 b41 l42 e46 f47 f48 k49 b50 l51) (by simp) (argsL := [.ref c2]) (rest := []) pd_5 rfl rfl rfl rfl 0 (Nat.le_of_eq rfl) (by decide) (by decide) (ck := 0) rfl (cs := 0) rfl (by decide) (by decide) d6_36 39 rfl ?_
    intro w55 T53 X54 hq56
    subst hq56
    by_cases hb39 : (if eqI cs1 cs2 = true then (1 : Int32) else 0) = (0 : Int32)
    · refine g_ifYes X54 d6_39 (XT.ii_eq_t hb39) 46 (by decide) (by decide) ?_
      refine g_iconst X54 (0 : Int32) d6_46 (by decide) 47 rfl ?_
      exact g_retN X54 (t := .boolean) rfl (by simp) d6_47 _ rfl (by decide) (by decide) ⟨rfl, _, rfl, (by revert hb25 hb39; cases eqI ts1 ts2 <;> cases eqI cs1 cs2 <;> intros <;> first | rfl | (exfalso; simp_all))⟩
    · refine g_ifNo X54 d6_39 (XT.ii_eq_f hb39) 42 rfl ?_
      refine g_iconst X54 (1 : Int32) d6_42 (by decide) 43 rfl ?_
      refine g_goto X54 d6_43 47 (by decide) (by decide) ?_
      exact g_retN X54 (t := .boolean) rfl (by simp) d6_47 _ rfl (by decide) (by decide) ⟨rfl, _, rfl, (by revert hb25 hb39; cases eqI ts1 ts2 <;> cases eqI cs1 cs2 <;> intros <;> first | rfl | (exfalso; simp_all))⟩
set_option maxRecDepth 65536 in
set_option maxHeartbeats 40000000 in
theorem c_law (l : Launch) (Z : State) (a0 : Array Value) (G : Gl Z a0) (k0 k1 k2 k3 k4 : Int32) (h : Heap)  :
    Ctr l Z EL nw x code maxLocals ret room_1 #[.int k0, .int k1, .int k2, .int k3, .int k4] h [] (fun v _ => v = some (.int 1)) := by
  obtain ⟨hw, hEL, hSA, ⟨zc, SC, hz⟩, ⟨fm, SF, hfm⟩⟩ := id G
  refine Ctr.enter (own := "com/example/thalwil/thalwil/JoinColumnEqualsPinLaw") (nm := "law") rfl rfl hEL (plainFor_of_name pn_1) #[.val (.int k0), .val (.int k1), .val (.int k2), .val (.int k3), .val (.int k4), .unset, .unset, .unset, .unset, .unset, .unset, .unset, .unset] (fun m => by first | rfl | (simp [entryFrame, mkF, argsToLocals, Value.category, maxLocals]; done)) ?_
  intro p e s m below meth c T X
  refine g_iloadN X at_0 rfl 1 rfl ?_
  refine g_callSv X (hw _ (List.mem_of_getElem? (i := 0) rfl)) (hw _ (List.mem_of_getElem? (i := 1) rfl)) (hw _ (List.mem_of_getElem? (i := 2) rfl)) (hw _ (List.mem_of_getElem? (i := 3) rfl)) (by decide) (c_mk l Z a0 G k0 ([]) h) (fun _ q => q) (argsL := [.int k0]) (rest := []) pd_0 rfl rfl rfl rfl 0 (Nat.le_of_eq rfl) (by decide) (by decide) (ck := 6) rfl (cs := 12) rfl (by decide) (by decide) at_1 4 rfl ?_
  intro w3 T1 h5 X2 hq4
  obtain ⟨s6, rfl, E7, S8⟩ := hq4
  refine g_astore X2 at_4 rfl (Ls' := #[.val (.int k0), .val (.int k1), .val (.int k2), .val (.int k3), .val (.int k4), .val (.ref s6), .unset, .unset, .unset, .unset, .unset, .unset, .unset]) rfl 6 rfl ?_
  refine g_iloadN X2 at_6 rfl 7 rfl ?_
  refine g_callSv X2 (hw _ (List.mem_of_getElem? (i := 0) rfl)) (hw _ (List.mem_of_getElem? (i := 1) rfl)) (hw _ (List.mem_of_getElem? (i := 2) rfl)) (hw _ (List.mem_of_getElem? (i := 3) rfl)) (by decide) (c_mk l Z a0 G k1 ([]) h5) (fun _ q => q) (argsL := [.int k1]) (rest := []) pd_0 rfl rfl rfl rfl 0 (Nat.le_of_eq rfl) (by decide) (by decide) (ck := 12) rfl (cs := 24) rfl (by decide) (by decide) at_7 10 rfl ?_
  intro w11 T9 h13 X10 hq12
  obtain ⟨s14, rfl, E15, S16⟩ := hq12
  refine g_astore X10 at_10 rfl (Ls' := #[.val (.int k0), .val (.int k1), .val (.int k2), .val (.int k3), .val (.int k4), .val (.ref s6), .val (.ref s14), .unset, .unset, .unset, .unset, .unset, .unset]) rfl 12 rfl ?_
  refine g_new X10 (hw _ (List.mem_of_getElem? (i := 26) rfl)) (hw _ (List.mem_of_getElem? (i := 27) rfl)) (hw _ (List.mem_of_getElem? (i := 28) rfl)) at_12 (ck := 13) rfl (cs := 26) rfl (by decide) (by decide) 15 rfl ?_
  intro a17 T18 h19 ea20 X21 E22 A23 D24
  have ne_s6_a17 : s6 ≠ a17 := by rw [ea20]; exact Nat.ne_of_lt (S8.ext E15).lt
  have ne_s14_a17 : s14 ≠ a17 := by rw [ea20]; exact Nat.ne_of_lt S16.lt
  have F25 : Fld Z h19 a17 "com/example/thalwil/thalwil/JoinColumn" "table" "Ljava/lang/String;" (.null) := D24 (Or.inr (hw _ (List.mem_of_getElem? (i := 34) rfl))) (ty := (.object "java/lang/String")) (by rfl)
  have F26 : Fld Z h19 a17 "com/example/thalwil/thalwil/JoinColumn" "column" "Ljava/lang/String;" (.null) := D24 (Or.inr (hw _ (List.mem_of_getElem? (i := 36) rfl))) (ty := (.object "java/lang/String")) (by rfl)
  refine g_dup X21 at_15 rfl 16 rfl ?_
  refine g_aload X21 at_16 rfl rfl 18 rfl ?_
  refine g_aload X21 at_18 rfl rfl 20 rfl ?_
  refine g_callIn X21 rfl (hw _ (List.mem_of_getElem? (i := 29) rfl)) (hw _ (List.mem_of_getElem? (i := 30) rfl)) (hw _ (List.mem_of_getElem? (i := 28) rfl)) (hw _ (List.mem_of_getElem? (i := 31) rfl)) (by decide) (c_jinit l Z a0 G a17 s6 s14 h19 A23 F25 F26) (by simp) (argsL := [.ref s6, .ref s14]) (rest := [.ref a17]) pd_3 rfl rfl rfl rfl 1 (Nat.le_of_eq rfl) (by decide) (by decide) (ck := 13) rfl (cs := 26) rfl (by decide) (by decide) at_20 23 rfl ?_
  intro T27 h30 X28 hq29
  obtain ⟨K31, E32, F33, F34⟩ := hq29
  have X35 := X28.sub (us' := []) (by simp)
  refine g_astore X35 at_23 rfl (Ls' := #[.val (.int k0), .val (.int k1), .val (.int k2), .val (.int k3), .val (.int k4), .val (.ref s6), .val (.ref s14), .val (.ref a17), .unset, .unset, .unset, .unset, .unset]) rfl 25 rfl ?_
  refine g_iload X35 at_25 rfl 27 rfl ?_
  refine g_iconst X35 (3 : Int32) at_27 (by decide) 28 rfl ?_
  refine g_iand X35 at_28 _ rfl 29 rfl ?_
  refine g_istore X35 at_29 (Ls' := #[.val (.int k0), .val (.int k1), .val (.int k2), .val (.int k3), .val (.int k4), .val (.ref s6), .val (.ref s14), .val (.ref a17), .val (.int (k4 &&& (3 : Int32))), .unset, .unset, .unset, .unset]) rfl 31 rfl ?_
  refine g_iload X35 at_31 rfl 33 rfl ?_
  by_cases hb33 : (k4 &&& (3 : Int32)) = (0 : Int32)
  · refine g_ifNo X35 at_33 (XT.ii_ne_f hb33) 36 rfl ?_
    refine g_aload X35 at_36 rfl rfl 38 rfl ?_
    refine g_aconstNull X35 at_38 39 rfl ?_
    refine g_callVp X35 (hw _ (List.mem_of_getElem? (i := 37) rfl)) (hw _ (List.mem_of_getElem? (i := 38) rfl)) (hw _ (List.mem_of_getElem? (i := 40) rfl)) (hw _ (List.mem_of_getElem? (i := 39) rfl)) (hw _ (List.mem_of_getElem? (i := 28) rfl)) (hw _ (List.mem_of_getElem? (i := 41) rfl)) (nfSel (hw _ (List.mem_of_getElem? (i := 40) rfl))) (by decide) E32 (c_je0 l Z a0 G a17 h30) (by simp) (argsL := [.null]) (rest := []) pd_4 rfl rfl rfl rfl 0 (Nat.le_of_eq rfl) (by decide) (by decide) (ck := 13) rfl (cs := 26) rfl (by decide) (by decide) at_39 42 rfl ?_
    intro w38 T36 X37 hq39
    subst hq39
    refine g_ifNo X37 at_42 (XT.ii_ne_f (by decide)) 45 rfl ?_
    refine g_iconst X37 (1 : Int32) at_45 (by decide) 46 rfl ?_
    refine g_goto X37 at_46 50 (by decide) (by decide) ?_
    exact g_retN X37 (t := .boolean) rfl (by simp) at_50 _ rfl (by decide) (by decide) rfl
  · refine g_ifYes X35 at_33 (XT.ii_ne_t hb33) 51 (by decide) (by decide) ?_
    refine g_iload X35 at_51 rfl 53 rfl ?_
    refine g_iconst X35 (1 : Int32) at_53 (by decide) 54 rfl ?_
    by_cases hb54 : (k4 &&& (3 : Int32)) = (1 : Int32)
    · refine g_icmpNo X35 at_54 (XT.ii_ne_f hb54) 57 rfl ?_
      refine g_aload X35 at_57 rfl rfl 59 rfl ?_
      refine g_aload X35 at_59 rfl rfl 61 rfl ?_
      refine g_callVp X35 (hw _ (List.mem_of_getElem? (i := 37) rfl)) (hw _ (List.mem_of_getElem? (i := 38) rfl)) (hw _ (List.mem_of_getElem? (i := 40) rfl)) (hw _ (List.mem_of_getElem? (i := 39) rfl)) (hw _ (List.mem_of_getElem? (i := 28) rfl)) (hw _ (List.mem_of_getElem? (i := 41) rfl)) (nfSel (hw _ (List.mem_of_getElem? (i := 40) rfl))) (by decide) E32 (c_jeS l Z a0 G a17 s6 [] (mkL k0) h30 ((((S8.ext E15).grow E22 ea20).keep K31 (by simp)).sub (us' := []) (by simp))) (by simp) (argsL := [.ref s6]) (rest := []) pd_4 rfl rfl rfl rfl 0 (Nat.le_of_eq rfl) (by decide) (by decide) (ck := 13) rfl (cs := 26) rfl (by decide) (by decide) at_61 64 rfl ?_
      intro w42 T40 X41 hq43
      subst hq43
      refine g_ifNo X41 at_64 (XT.ii_ne_f (by decide)) 67 rfl ?_
      refine g_iconst X41 (1 : Int32) at_67 (by decide) 68 rfl ?_
      refine g_goto X41 at_68 72 (by decide) (by decide) ?_
      exact g_retN X41 (t := .boolean) rfl (by simp) at_72 _ rfl (by decide) (by decide) rfl
    · refine g_icmpYes X35 at_54 (XT.ii_ne_t hb54) 73 (by decide) (by decide) ?_
      refine g_iloadN X35 at_73 rfl 74 rfl ?_
      refine g_iloadN X35 at_74 rfl 75 rfl ?_
      refine g_ixor X35 at_75 _ rfl 76 rfl ?_
      refine g_istore X35 at_76 (Ls' := #[.val (.int k0), .val (.int k1), .val (.int k2), .val (.int k3), .val (.int k4), .val (.ref s6), .val (.ref s14), .val (.ref a17), .val (.int (k4 &&& (3 : Int32))), .val (.int (k0 ^^^ k2)), .unset, .unset, .unset]) rfl 78 rfl ?_
      refine g_iloadN X35 at_78 rfl 79 rfl ?_
      refine g_iloadN X35 at_79 rfl 80 rfl ?_
      refine g_ixor X35 at_80 _ rfl 81 rfl ?_
      refine g_istore X35 at_81 (Ls' := #[.val (.int k0), .val (.int k1), .val (.int k2), .val (.int k3), .val (.int k4), .val (.ref s6), .val (.ref s14), .val (.ref a17), .val (.int (k4 &&& (3 : Int32))), .val (.int (k0 ^^^ k2)), .val (.int (k1 ^^^ k3)), .unset, .unset]) rfl 83 rfl ?_
      refine g_new X35 (hw _ (List.mem_of_getElem? (i := 26) rfl)) (hw _ (List.mem_of_getElem? (i := 27) rfl)) (hw _ (List.mem_of_getElem? (i := 28) rfl)) at_83 (ck := 14) rfl (cs := 28) rfl (by decide) (by decide) 86 rfl ?_
      intro a44 T45 h46 ea47 X48 E49 A50 D51
      have ne_s6_a44 : s6 ≠ a44 := by rw [ea47]; exact Nat.ne_of_lt ((((S8.ext E15).grow E22 ea20).keep K31 (by simp)).sub (us' := []) (by simp)).lt
      have ne_s14_a44 : s14 ≠ a44 := by rw [ea47]; exact Nat.ne_of_lt (((S16.grow E22 ea20).keep K31 (by simp)).sub (us' := []) (by simp)).lt
      have ne_a17_a44 : a17 ≠ a44 := by rw [ea47]; exact Nat.ne_of_lt E32.lt
      have F52 : Fld Z h46 a44 "com/example/thalwil/thalwil/JoinColumn" "table" "Ljava/lang/String;" (.null) := D51 (Or.inr (hw _ (List.mem_of_getElem? (i := 34) rfl))) (ty := (.object "java/lang/String")) (by rfl)
      have F53 : Fld Z h46 a44 "com/example/thalwil/thalwil/JoinColumn" "column" "Ljava/lang/String;" (.null) := D51 (Or.inr (hw _ (List.mem_of_getElem? (i := 36) rfl))) (ty := (.object "java/lang/String")) (by rfl)
      refine g_dup X48 at_86 rfl 87 rfl ?_
      refine g_iload X48 at_87 rfl 89 rfl ?_
      refine g_callSv X48 (hw _ (List.mem_of_getElem? (i := 0) rfl)) (hw _ (List.mem_of_getElem? (i := 1) rfl)) (hw _ (List.mem_of_getElem? (i := 2) rfl)) (hw _ (List.mem_of_getElem? (i := 3) rfl)) (by decide) (c_mk l Z a0 G (k0 ^^^ k2) ([a44]) h46) (fun _ q => q) (argsL := [.int (k0 ^^^ k2)]) (rest := [.ref a44, .ref a44]) pd_0 rfl rfl rfl rfl 2 (Nat.le_of_eq rfl) (by decide) (by decide) (ck := 20) rfl (cs := 40) rfl (by decide) (by decide) at_89 92 rfl ?_
      intro w56 T54 h58 X55 hq57
      obtain ⟨s59, rfl, E60, S61⟩ := hq57
      refine g_iload X55 at_92 rfl 94 rfl ?_
      refine g_callSv X55 (hw _ (List.mem_of_getElem? (i := 0) rfl)) (hw _ (List.mem_of_getElem? (i := 1) rfl)) (hw _ (List.mem_of_getElem? (i := 2) rfl)) (hw _ (List.mem_of_getElem? (i := 3) rfl)) (by decide) (c_mk l Z a0 G (k1 ^^^ k3) ([a44]) h58) (fun _ q => q) (argsL := [.int (k1 ^^^ k3)]) (rest := [.ref s59, .ref a44, .ref a44]) pd_0 rfl rfl rfl rfl 3 (Nat.le_of_eq rfl) (by decide) (by decide) (ck := 26) rfl (cs := 52) rfl (by decide) (by decide) at_94 97 rfl ?_
      intro w64 T62 h66 X63 hq65
      obtain ⟨s67, rfl, E68, S69⟩ := hq65
      refine g_callIn X63 rfl (hw _ (List.mem_of_getElem? (i := 29) rfl)) (hw _ (List.mem_of_getElem? (i := 30) rfl)) (hw _ (List.mem_of_getElem? (i := 28) rfl)) (hw _ (List.mem_of_getElem? (i := 31) rfl)) (by decide) (c_jinit l Z a0 G a44 s59 s67 h66 ((A50.ext E60).ext E68) ((F52.ext E60).ext E68) ((F53.ext E60).ext E68)) (by simp) (argsL := [.ref s59, .ref s67]) (rest := [.ref a44]) pd_3 rfl rfl rfl rfl 1 (Nat.le_of_eq rfl) (by decide) (by decide) (ck := 26) rfl (cs := 52) rfl (by decide) (by decide) at_97 100 rfl ?_
      intro T70 h73 X71 hq72
      obtain ⟨K74, E75, F76, F77⟩ := hq72
      have X78 := X71.sub (us' := []) (by simp)
      refine g_astore X78 at_100 rfl (Ls' := #[.val (.int k0), .val (.int k1), .val (.int k2), .val (.int k3), .val (.int k4), .val (.ref s6), .val (.ref s14), .val (.ref a17), .val (.int (k4 &&& (3 : Int32))), .val (.int (k0 ^^^ k2)), .val (.int (k1 ^^^ k3)), .val (.ref a44), .unset]) rfl 102 rfl ?_
      refine g_iloadN X78 at_102 rfl 103 rfl ?_
      refine g_iload X78 at_103 rfl 105 rfl ?_
      refine g_callSp X78 (hw _ (List.mem_of_getElem? (i := 42) rfl)) (hw _ (List.mem_of_getElem? (i := 43) rfl)) (hw _ (List.mem_of_getElem? (i := 2) rfl)) (hw _ (List.mem_of_getElem? (i := 44) rfl)) (by decide) (c_same l Z a0 G k0 (k0 ^^^ k2) h73) (by simp) (argsL := [.int k0, .int (k0 ^^^ k2)]) (rest := []) pd_2 rfl rfl rfl rfl 0 (Nat.le_of_eq rfl) (by decide) (by decide) (ck := 26) rfl (cs := 52) rfl (by decide) (by decide) at_105 108 rfl ?_
      intro w81 T79 X80 hq82
      subst hq82
      by_cases hb108 : (if sameB k0 (k0 ^^^ k2) = true then (1 : Int32) else 0) = (0 : Int32)
      · refine g_ifYes X80 at_108 (XT.ii_eq_t hb108) 124 (by decide) (by decide) ?_
        refine g_iconst X80 (0 : Int32) at_124 (by decide) 125 rfl ?_
        refine g_istore X80 at_125 (Ls' := #[.val (.int k0), .val (.int k1), .val (.int k2), .val (.int k3), .val (.int k4), .val (.ref s6), .val (.ref s14), .val (.ref a17), .val (.int (k4 &&& (3 : Int32))), .val (.int (k0 ^^^ k2)), .val (.int (k1 ^^^ k3)), .val (.ref a44), .val (.int (0 : Int32))]) rfl 127 rfl ?_
        refine g_aload X80 at_127 rfl rfl 129 rfl ?_
        refine g_aload X80 at_129 rfl rfl 131 rfl ?_
        refine g_callVp X80 (hw _ (List.mem_of_getElem? (i := 37) rfl)) (hw _ (List.mem_of_getElem? (i := 38) rfl)) (hw _ (List.mem_of_getElem? (i := 40) rfl)) (hw _ (List.mem_of_getElem? (i := 39) rfl)) (hw _ (List.mem_of_getElem? (i := 28) rfl)) (hw _ (List.mem_of_getElem? (i := 41) rfl)) (nfSel (hw _ (List.mem_of_getElem? (i := 40) rfl))) (by decide) ((((E32.ext E49).ext E60).ext E68).keep K74) (c_je2 l Z a0 G a17 a44 s6 s14 s59 s67 [] (mkL k0) (mkL k1) (mkL (k0 ^^^ k2)) (mkL (k1 ^^^ k3)) h73 ((((E32.ext E49).ext E60).ext E68).keep K74) ((((F33.ext E49).ext E60).ext E68).keep K74 (ninS ne_a17_a44 nin0)) ((((F34.ext E49).ext E60).ext E68).keep K74 (ninS ne_a17_a44 nin0)) (((((((((S8.ext E15).grow E22 ea20).keep K31 (by simp)).sub (us' := []) (by simp)).grow E49 ea47).ext E60).ext E68).keep K74 (by simp)).sub (us' := []) (by simp)) ((((((((S16.grow E22 ea20).keep K31 (by simp)).sub (us' := []) (by simp)).grow E49 ea47).ext E60).ext E68).keep K74 (by simp)).sub (us' := []) (by simp)) E75 F76 F77 (((S61.ext E68).keep K74 (by simp)).sub (us' := []) (by simp)) ((S69.keep K74 (by simp)).sub (us' := []) (by simp))) (by simp) (argsL := [.ref a44]) (rest := []) pd_4 rfl rfl rfl rfl 0 (Nat.le_of_eq rfl) (by decide) (by decide) (ck := 26) rfl (cs := 52) rfl (by decide) (by decide) at_131 134 rfl ?_
        intro w85 T83 X84 hq86
        subst hq86
        refine g_iload X84 at_134 rfl 136 rfl ?_
        refine g_icmpNo X84 at_136 (XT.ii_ne_f (by simp only [key]; revert hb108; cases sameB k0 (k0 ^^^ k2) <;> cases sameB k1 (k1 ^^^ k3) <;> intros <;> first | rfl | (exfalso; simp_all))) 139 rfl ?_
        refine g_aload X84 at_139 rfl rfl 141 rfl ?_
        refine g_aload X84 at_141 rfl rfl 143 rfl ?_
        refine g_callVp X84 (hw _ (List.mem_of_getElem? (i := 37) rfl)) (hw _ (List.mem_of_getElem? (i := 38) rfl)) (hw _ (List.mem_of_getElem? (i := 40) rfl)) (hw _ (List.mem_of_getElem? (i := 39) rfl)) (hw _ (List.mem_of_getElem? (i := 28) rfl)) (hw _ (List.mem_of_getElem? (i := 41) rfl)) (nfSel (hw _ (List.mem_of_getElem? (i := 40) rfl))) (by decide) E75 (c_je2 l Z a0 G a44 a17 s59 s67 s6 s14 [] (mkL (k0 ^^^ k2)) (mkL (k1 ^^^ k3)) (mkL k0) (mkL k1) h73 E75 F76 F77 (((S61.ext E68).keep K74 (by simp)).sub (us' := []) (by simp)) ((S69.keep K74 (by simp)).sub (us' := []) (by simp)) ((((E32.ext E49).ext E60).ext E68).keep K74) ((((F33.ext E49).ext E60).ext E68).keep K74 (ninS ne_a17_a44 nin0)) ((((F34.ext E49).ext E60).ext E68).keep K74 (ninS ne_a17_a44 nin0)) (((((((((S8.ext E15).grow E22 ea20).keep K31 (by simp)).sub (us' := []) (by simp)).grow E49 ea47).ext E60).ext E68).keep K74 (by simp)).sub (us' := []) (by simp)) ((((((((S16.grow E22 ea20).keep K31 (by simp)).sub (us' := []) (by simp)).grow E49 ea47).ext E60).ext E68).keep K74 (by simp)).sub (us' := []) (by simp))) (by simp) (argsL := [.ref a17]) (rest := []) pd_4 rfl rfl rfl rfl 0 (Nat.le_of_eq rfl) (by decide) (by decide) (ck := 26) rfl (cs := 52) rfl (by decide) (by decide) at_143 146 rfl ?_
        intro w89 T87 X88 hq90
        subst hq90
        refine g_iload X88 at_146 rfl 148 rfl ?_
        refine g_icmpNo X88 at_148 (XT.ii_ne_f (by simp only [key]; rw [same_comm (k0 ^^^ k2), same_comm (k1 ^^^ k3)]; revert hb108; cases sameB k0 (k0 ^^^ k2) <;> cases sameB k1 (k1 ^^^ k3) <;> intros <;> first | rfl | (exfalso; simp_all))) 151 rfl ?_
        refine g_iconst X88 (1 : Int32) at_151 (by decide) 152 rfl ?_
        refine g_goto X88 at_152 156 (by decide) (by decide) ?_
        exact g_retN X88 (t := .boolean) rfl (by simp) at_156 _ rfl (by decide) (by decide) rfl
      · refine g_ifNo X80 at_108 (XT.ii_eq_f hb108) 111 rfl ?_
        refine g_iloadN X80 at_111 rfl 112 rfl ?_
        refine g_iload X80 at_112 rfl 114 rfl ?_
        refine g_callSp X80 (hw _ (List.mem_of_getElem? (i := 42) rfl)) (hw _ (List.mem_of_getElem? (i := 43) rfl)) (hw _ (List.mem_of_getElem? (i := 2) rfl)) (hw _ (List.mem_of_getElem? (i := 44) rfl)) (by decide) (c_same l Z a0 G k1 (k1 ^^^ k3) h73) (by simp) (argsL := [.int k1, .int (k1 ^^^ k3)]) (rest := []) pd_2 rfl rfl rfl rfl 0 (Nat.le_of_eq rfl) (by decide) (by decide) (ck := 26) rfl (cs := 52) rfl (by decide) (by decide) at_114 117 rfl ?_
        intro w93 T91 X92 hq94
        subst hq94
        by_cases hb117 : (if sameB k1 (k1 ^^^ k3) = true then (1 : Int32) else 0) = (0 : Int32)
        · refine g_ifYes X92 at_117 (XT.ii_eq_t hb117) 124 (by decide) (by decide) ?_
          refine g_iconst X92 (0 : Int32) at_124 (by decide) 125 rfl ?_
          refine g_istore X92 at_125 (Ls' := #[.val (.int k0), .val (.int k1), .val (.int k2), .val (.int k3), .val (.int k4), .val (.ref s6), .val (.ref s14), .val (.ref a17), .val (.int (k4 &&& (3 : Int32))), .val (.int (k0 ^^^ k2)), .val (.int (k1 ^^^ k3)), .val (.ref a44), .val (.int (0 : Int32))]) rfl 127 rfl ?_
          refine g_aload X92 at_127 rfl rfl 129 rfl ?_
          refine g_aload X92 at_129 rfl rfl 131 rfl ?_
          refine g_callVp X92 (hw _ (List.mem_of_getElem? (i := 37) rfl)) (hw _ (List.mem_of_getElem? (i := 38) rfl)) (hw _ (List.mem_of_getElem? (i := 40) rfl)) (hw _ (List.mem_of_getElem? (i := 39) rfl)) (hw _ (List.mem_of_getElem? (i := 28) rfl)) (hw _ (List.mem_of_getElem? (i := 41) rfl)) (nfSel (hw _ (List.mem_of_getElem? (i := 40) rfl))) (by decide) ((((E32.ext E49).ext E60).ext E68).keep K74) (c_je2 l Z a0 G a17 a44 s6 s14 s59 s67 [] (mkL k0) (mkL k1) (mkL (k0 ^^^ k2)) (mkL (k1 ^^^ k3)) h73 ((((E32.ext E49).ext E60).ext E68).keep K74) ((((F33.ext E49).ext E60).ext E68).keep K74 (ninS ne_a17_a44 nin0)) ((((F34.ext E49).ext E60).ext E68).keep K74 (ninS ne_a17_a44 nin0)) (((((((((S8.ext E15).grow E22 ea20).keep K31 (by simp)).sub (us' := []) (by simp)).grow E49 ea47).ext E60).ext E68).keep K74 (by simp)).sub (us' := []) (by simp)) ((((((((S16.grow E22 ea20).keep K31 (by simp)).sub (us' := []) (by simp)).grow E49 ea47).ext E60).ext E68).keep K74 (by simp)).sub (us' := []) (by simp)) E75 F76 F77 (((S61.ext E68).keep K74 (by simp)).sub (us' := []) (by simp)) ((S69.keep K74 (by simp)).sub (us' := []) (by simp))) (by simp) (argsL := [.ref a44]) (rest := []) pd_4 rfl rfl rfl rfl 0 (Nat.le_of_eq rfl) (by decide) (by decide) (ck := 26) rfl (cs := 52) rfl (by decide) (by decide) at_131 134 rfl ?_
          intro w97 T95 X96 hq98
          subst hq98
          refine g_iload X96 at_134 rfl 136 rfl ?_
          refine g_icmpNo X96 at_136 (XT.ii_ne_f (by simp only [key]; revert hb108 hb117; cases sameB k0 (k0 ^^^ k2) <;> cases sameB k1 (k1 ^^^ k3) <;> intros <;> first | rfl | (exfalso; simp_all))) 139 rfl ?_
          refine g_aload X96 at_139 rfl rfl 141 rfl ?_
          refine g_aload X96 at_141 rfl rfl 143 rfl ?_
          refine g_callVp X96 (hw _ (List.mem_of_getElem? (i := 37) rfl)) (hw _ (List.mem_of_getElem? (i := 38) rfl)) (hw _ (List.mem_of_getElem? (i := 40) rfl)) (hw _ (List.mem_of_getElem? (i := 39) rfl)) (hw _ (List.mem_of_getElem? (i := 28) rfl)) (hw _ (List.mem_of_getElem? (i := 41) rfl)) (nfSel (hw _ (List.mem_of_getElem? (i := 40) rfl))) (by decide) E75 (c_je2 l Z a0 G a44 a17 s59 s67 s6 s14 [] (mkL (k0 ^^^ k2)) (mkL (k1 ^^^ k3)) (mkL k0) (mkL k1) h73 E75 F76 F77 (((S61.ext E68).keep K74 (by simp)).sub (us' := []) (by simp)) ((S69.keep K74 (by simp)).sub (us' := []) (by simp)) ((((E32.ext E49).ext E60).ext E68).keep K74) ((((F33.ext E49).ext E60).ext E68).keep K74 (ninS ne_a17_a44 nin0)) ((((F34.ext E49).ext E60).ext E68).keep K74 (ninS ne_a17_a44 nin0)) (((((((((S8.ext E15).grow E22 ea20).keep K31 (by simp)).sub (us' := []) (by simp)).grow E49 ea47).ext E60).ext E68).keep K74 (by simp)).sub (us' := []) (by simp)) ((((((((S16.grow E22 ea20).keep K31 (by simp)).sub (us' := []) (by simp)).grow E49 ea47).ext E60).ext E68).keep K74 (by simp)).sub (us' := []) (by simp))) (by simp) (argsL := [.ref a17]) (rest := []) pd_4 rfl rfl rfl rfl 0 (Nat.le_of_eq rfl) (by decide) (by decide) (ck := 26) rfl (cs := 52) rfl (by decide) (by decide) at_143 146 rfl ?_
          intro w101 T99 X100 hq102
          subst hq102
          refine g_iload X100 at_146 rfl 148 rfl ?_
          refine g_icmpNo X100 at_148 (XT.ii_ne_f (by simp only [key]; rw [same_comm (k0 ^^^ k2), same_comm (k1 ^^^ k3)]; revert hb108 hb117; cases sameB k0 (k0 ^^^ k2) <;> cases sameB k1 (k1 ^^^ k3) <;> intros <;> first | rfl | (exfalso; simp_all))) 151 rfl ?_
          refine g_iconst X100 (1 : Int32) at_151 (by decide) 152 rfl ?_
          refine g_goto X100 at_152 156 (by decide) (by decide) ?_
          exact g_retN X100 (t := .boolean) rfl (by simp) at_156 _ rfl (by decide) (by decide) rfl
        · refine g_ifNo X92 at_117 (XT.ii_eq_f hb117) 120 rfl ?_
          refine g_iconst X92 (1 : Int32) at_120 (by decide) 121 rfl ?_
          refine g_goto X92 at_121 125 (by decide) (by decide) ?_
          refine g_istore X92 at_125 (Ls' := #[.val (.int k0), .val (.int k1), .val (.int k2), .val (.int k3), .val (.int k4), .val (.ref s6), .val (.ref s14), .val (.ref a17), .val (.int (k4 &&& (3 : Int32))), .val (.int (k0 ^^^ k2)), .val (.int (k1 ^^^ k3)), .val (.ref a44), .val (.int (1 : Int32))]) rfl 127 rfl ?_
          refine g_aload X92 at_127 rfl rfl 129 rfl ?_
          refine g_aload X92 at_129 rfl rfl 131 rfl ?_
          refine g_callVp X92 (hw _ (List.mem_of_getElem? (i := 37) rfl)) (hw _ (List.mem_of_getElem? (i := 38) rfl)) (hw _ (List.mem_of_getElem? (i := 40) rfl)) (hw _ (List.mem_of_getElem? (i := 39) rfl)) (hw _ (List.mem_of_getElem? (i := 28) rfl)) (hw _ (List.mem_of_getElem? (i := 41) rfl)) (nfSel (hw _ (List.mem_of_getElem? (i := 40) rfl))) (by decide) ((((E32.ext E49).ext E60).ext E68).keep K74) (c_je2 l Z a0 G a17 a44 s6 s14 s59 s67 [] (mkL k0) (mkL k1) (mkL (k0 ^^^ k2)) (mkL (k1 ^^^ k3)) h73 ((((E32.ext E49).ext E60).ext E68).keep K74) ((((F33.ext E49).ext E60).ext E68).keep K74 (ninS ne_a17_a44 nin0)) ((((F34.ext E49).ext E60).ext E68).keep K74 (ninS ne_a17_a44 nin0)) (((((((((S8.ext E15).grow E22 ea20).keep K31 (by simp)).sub (us' := []) (by simp)).grow E49 ea47).ext E60).ext E68).keep K74 (by simp)).sub (us' := []) (by simp)) ((((((((S16.grow E22 ea20).keep K31 (by simp)).sub (us' := []) (by simp)).grow E49 ea47).ext E60).ext E68).keep K74 (by simp)).sub (us' := []) (by simp)) E75 F76 F77 (((S61.ext E68).keep K74 (by simp)).sub (us' := []) (by simp)) ((S69.keep K74 (by simp)).sub (us' := []) (by simp))) (by simp) (argsL := [.ref a44]) (rest := []) pd_4 rfl rfl rfl rfl 0 (Nat.le_of_eq rfl) (by decide) (by decide) (ck := 26) rfl (cs := 52) rfl (by decide) (by decide) at_131 134 rfl ?_
          intro w105 T103 X104 hq106
          subst hq106
          refine g_iload X104 at_134 rfl 136 rfl ?_
          refine g_icmpNo X104 at_136 (XT.ii_ne_f (by simp only [key]; revert hb108 hb117; cases sameB k0 (k0 ^^^ k2) <;> cases sameB k1 (k1 ^^^ k3) <;> intros <;> first | rfl | (exfalso; simp_all))) 139 rfl ?_
          refine g_aload X104 at_139 rfl rfl 141 rfl ?_
          refine g_aload X104 at_141 rfl rfl 143 rfl ?_
          refine g_callVp X104 (hw _ (List.mem_of_getElem? (i := 37) rfl)) (hw _ (List.mem_of_getElem? (i := 38) rfl)) (hw _ (List.mem_of_getElem? (i := 40) rfl)) (hw _ (List.mem_of_getElem? (i := 39) rfl)) (hw _ (List.mem_of_getElem? (i := 28) rfl)) (hw _ (List.mem_of_getElem? (i := 41) rfl)) (nfSel (hw _ (List.mem_of_getElem? (i := 40) rfl))) (by decide) E75 (c_je2 l Z a0 G a44 a17 s59 s67 s6 s14 [] (mkL (k0 ^^^ k2)) (mkL (k1 ^^^ k3)) (mkL k0) (mkL k1) h73 E75 F76 F77 (((S61.ext E68).keep K74 (by simp)).sub (us' := []) (by simp)) ((S69.keep K74 (by simp)).sub (us' := []) (by simp)) ((((E32.ext E49).ext E60).ext E68).keep K74) ((((F33.ext E49).ext E60).ext E68).keep K74 (ninS ne_a17_a44 nin0)) ((((F34.ext E49).ext E60).ext E68).keep K74 (ninS ne_a17_a44 nin0)) (((((((((S8.ext E15).grow E22 ea20).keep K31 (by simp)).sub (us' := []) (by simp)).grow E49 ea47).ext E60).ext E68).keep K74 (by simp)).sub (us' := []) (by simp)) ((((((((S16.grow E22 ea20).keep K31 (by simp)).sub (us' := []) (by simp)).grow E49 ea47).ext E60).ext E68).keep K74 (by simp)).sub (us' := []) (by simp))) (by simp) (argsL := [.ref a17]) (rest := []) pd_4 rfl rfl rfl rfl 0 (Nat.le_of_eq rfl) (by decide) (by decide) (ck := 26) rfl (cs := 52) rfl (by decide) (by decide) at_143 146 rfl ?_
          intro w109 T107 X108 hq110
          subst hq110
          refine g_iload X108 at_146 rfl 148 rfl ?_
          refine g_icmpNo X108 at_148 (XT.ii_ne_f (by simp only [key]; rw [same_comm (k0 ^^^ k2), same_comm (k1 ^^^ k3)]; revert hb108 hb117; cases sameB k0 (k0 ^^^ k2) <;> cases sameB k1 (k1 ^^^ k3) <;> intros <;> first | rfl | (exfalso; simp_all))) 151 rfl ?_
          refine g_iconst X108 (1 : Int32) at_151 (by decide) 152 rfl ?_
          refine g_goto X108 at_152 156 (by decide) (by decide) ?_
          exact g_retN X108 (t := .boolean) rfl (by simp) at_156 _ rfl (by decide) (by decide) rfl
set_option maxRecDepth 65536 in
set_option maxHeartbeats 40000000 in
theorem comes_1 {Post : Tables → Env → Array Value → State → Outcome → State → Prop} (hpost : ∀ tb e args s v u, (limb_1_1.after args s (.returned v) u = true ∧ limb_1_2.after args s (.returned v) u = true) → FramedW s (.returned v) u (Jvm.fieldLocs frame_1_writes args s ++ Jvm.arrayLocs frame_1_arrays args s ++ Jvm.staticLocs frame_1_statics s) 40 1216 → Post tb e args s (.returned v) u) :
    ArmFor flags0 classFile x code maxLocals ret World_1 tables_1 room_1 Calls_1 rest_1 Pre_1 Post := by
  intro l hfl _ _ p e ha hc hk s m args below hf hA hF happ hP
  obtain ⟨hcalls, hrest, hpre⟩ := hP
  obtain ⟨-, -, -, hnamed, -, -, -, hat⟩ := (Spec.applies_iff hf).mp happ
  obtain ⟨hg, hn⟩ := and_e (Cond.before_iff.mp (show (Jvm.Cond.and given_1 narrow_1).before args s = true from hpre))
  obtain ⟨h1, hg⟩ := and_e hg
  obtain ⟨w0, w1, w2, w3, w4, rfl⟩ : ∃ w0 w1 w2 w3 w4 : Value, args = #[w0, w1, w2, w3, w4] := by
    have hs : args.size = 5 := by simpa [Cond.value, given_1] using h1
    obtain ⟨L⟩ := args
    match L, hs with
    | [w0, w1, w2, w3, w4], _ => exact ⟨w0, w1, w2, w3, w4, rfl⟩
  have hw := fun d (hd : d ∈ tables_1) => atoms_spec (ws := Jvm.Cond.code x code maxLocals ret :: tables_1) hat d (List.mem_cons_of_mem _ hd)
  obtain ⟨g0, hg⟩ := and_e hg
  obtain ⟨g1, hg⟩ := and_e hg
  obtain ⟨g2, hg⟩ := and_e hg
  obtain ⟨g3, hg⟩ := and_e hg
  have g4 := hg
  obtain ⟨i0, e0⟩ := is_v g0
  obtain rfl : w0 = (.int i0) := Option.some.inj e0
  obtain ⟨i1, e1⟩ := is_v g1
  obtain rfl : w1 = (.int i1) := Option.some.inj e1
  obtain ⟨i2, e2⟩ := is_v g2
  obtain rfl : w2 = (.int i2) := Option.some.inj e2
  obtain ⟨i3, e3⟩ := is_v g3
  obtain rfl : w3 = (.int i3) := Option.some.inj e3
  obtain ⟨i4, e4⟩ := is_v g4
  obtain rfl : w4 = (.int i4) := Option.some.inj e4
  have q0 := hn
  obtain ⟨hsets, hown0⟩ := atoms_of _ (rest_1_c_eq ▸ (show rest_1_c.before _ s = true from hrest))
  obtain ⟨zc, ezc⟩ := is_v (Cond.before_iff.mp (hsets _ (List.mem_of_getElem? (i := 1) rfl)))
  have SC : Sta s s.heap "java/lang/String" "COMPACT_STRINGS" "Z" (.int zc) := Sta.start ezc (Or.inl (hsets _ (List.mem_of_getElem? (i := 0) rfl)))
  have hz : ¬ zc = 0 := fun q => by
    have n5 := not_v (Cond.before_iff.mp (hsets _ (List.mem_of_getElem? (i := 2) rfl)))
    exact absurd q (gotF (Cond.eq_ints ezc (Term.int_eval 0)) n5)
  obtain ⟨fm, efm, hfm⟩ := isR_v (Cond.before_iff.mp (hsets _ (List.mem_of_getElem? (i := 8) rfl)))
  have SF : Sta s s.heap "jdk/internal/util/Preconditions" "SIOOBE_FORMATTER" "Ljava/util/function/BiFunction;" fm := Sta.start efm (Or.inl (hsets _ (List.mem_of_getElem? (i := 7) rfl)))
  have hSA : ∀ a ∈ Bundle.stringAtoms, a.before _ s = true := fun d hd => hw d ((by decide +kernel : ∀ d ∈ Bundle.stringAtoms, d ∈ tables_1) d hd)
  have hEW : EW s _ EL := (EW.cons (hw _ (List.mem_of_getElem? (i := 18) rfl)) (by decide) EW.nil)
  have G : Gl s #[.int i0, .int i1, .int i2, .int i3, .int i4] := ⟨hw, hEW, hSA, ⟨zc, SC, hz⟩, ⟨fm, SF, hfm⟩⟩
  obtain ⟨n, o, h1, h2, h3, v, L, rfl, hQ, N, -, -, hq, hnw⟩ := c_law l s _ G i0 i1 i2 i3 i4 s.heap tables_1 p e ha hc hk s m _ below hf ((Spec.applies_iff_loose hf).mp happ).1 ⟨rfl, State.Warmed39.refl s, rfl, Ext.refl _, (CHv.start hEW (fun p hp => hcalls.1 p hp) (hsets _ (List.mem_of_getElem? (i := 2) rfl)) (hw _ (List.mem_of_getElem? (i := 19) rfl)) (hw _ (List.mem_of_getElem? (i := 5) rfl))), fun _ q => nomatch q⟩ trivial
  obtain ⟨rfl⟩ : v = some (.int 1) := hQ
  exact ⟨n, _, h1, h2, h3, hpost _ _ _ _ _ _ ⟨Cond.after_iff.mpr rfl, Cond.after_iff.mpr (eq_i res_at (Term.int_eval (1)) rfl)⟩ ⟨hq.1, hq.2.1, hq.2.2.1, (hq.2.2.2.sift fun y hy => Or.inr (N y hy)).mono (by decide) (by decide)⟩⟩
theorem main_1_1 : Claimed_1_1 := comes_1 fun _ _ _ _ _ _ h hF => ⟨h.1, hF⟩
theorem main_1_2 : Claimed_1_2 := comes_1 fun _ _ _ _ _ _ h hF => ⟨h.2, hF⟩
end Jvm.Pilot.@@N@@
namespace Jvm.Pilot.@@N@@
open Jvm Jvm.ClassFile Sem Op Lib Jvm.Free Jvm.Stand Jvm.Pilot.@@N@@.Jvm.D
/-! MADE BY PROGRAM (witnessworld.py) out of the Statement's table words and the real class files: 22 classes; the members and pool entries that the words name. The judged class is class 1, her method 4. -/
namespace start1
open Jvm.ClassFile
def u (s : String) : CpInfo := .utf8 (stringToUtf16 s)
/-- a pool by its gaps: so many unusable entries, then the entry; so many at the end -/
def gap : Nat → List CpInfo → List CpInfo
  | 0, r => r
  | n + 1, r => .unusable :: gap n r
def poolList (es : List (Nat × CpInfo)) (last : Nat) : List CpInfo := es.foldr (fun e r => gap e.1 (e.2 :: r)) (gap last [])
def pool (es : List (Nat × CpInfo)) (last : Nat) : Array CpInfo := ⟨poolList es last⟩
def fileOf (pool : Array CpInfo) (this : Nat) (attrs : Array Attribute := #[]) (ms : Array MethodInfo := #[]) (fl : Nat := 33) (sup : Nat := 0) (ifs : Array Nat := #[]) (fds : Array FieldInfo := #[]) : ClassFile where
  minorVersion := 0
  majorVersion := 65
  constantPool := pool
  accessFlags := fl
  thisClass := this
  superClass := sup
  interfaces := ifs
  fields := fds
  methods := ms
  attributes := attrs
def plain (name : String) (sup : Option ClassId) : Class where
  name := name
  kind := .ordinary
  loader := none
  accessFlags := 33
  super := sup
  interfaces := #[]
  cf := none
  fields := #[]
  methods := #[]
  instanceTypes := #[]
  staticTypes := #[]
  resolved := #[]
  callSites := []
  init := .initialized
  statics := none
  mirror := none

def pool0 : Array CpInfo := pool [(5, u "<init>"), (0, u "()V"), (1, .class_ 10), (1, u "java/lang/Object")] 113

def k0c0 : Code := { maxStack := 0, maxLocals := 1, code := object_method_1_code, exceptionTable := #[], attributes := #[] }
def k0m0 : Method := { name := "<init>", desc := "()V", sig := { parameters := [], returnType := none }, accessFlags := 1, code := some k0c0 }
/-- java/lang/Object -/
def k0 : Class := { plain "java/lang/Object" none with
  accessFlags := 33
  interfaces := #[]
  cf := some (fileOf pool0 8 #[] #[{ accessFlags := 1, nameIndex := 5, descriptorIndex := 6, attributes := #[] }] 33 0 #[] #[])
  fields := #[]
  methods := #[k0m0]
  instanceTypes := #[]
  staticTypes := #[]
  resolved := Array.replicate 124 none
  statics := none }

def pool1 : Array CpInfo := pool [(2, .class_ 4), (1, u "java/lang/Object"), (0, u "<init>"), (0, u "()V"), (0, .class_ 8), (0, u "java/lang/String"), (0, .methodref 7 10), (0, .nameAndType 5 11), (0, u "([C)V"), (0, .methodref 13 14), (0, .class_ 15), (0, .nameAndType 16 17), (0, u "com/example/thalwil/thalwil/JoinColumnEqualsPinLaw"), (0, u "fold"), (0, u "(I)I"), (0, .methodref 13 19), (0, .nameAndType 20 21), (0, u "mk"), (0, u "(I)Ljava/lang/String;"), (0, .class_ 23), (0, u "com/example/thalwil/thalwil/JoinColumn"), (0, .methodref 22 25), (0, .nameAndType 5 26), (0, u "(Ljava/lang/String;Ljava/lang/String;)V"), (0, .methodref 22 28), (0, .nameAndType 29 30), (0, u "equals"), (0, u "(Ljava/lang/Object;)Z"), (0, .methodref 13 32), (0, .nameAndType 33 34), (0, u "same"), (0, u "(II)Z"), (3, u "law"), (0, u "(IIIII)Z")] 2

def k1m0 : Method := { name := "<init>", desc := "()V", sig := { parameters := [], returnType := none }, accessFlags := 1, code := none }
def k1c1 : Code := { maxStack := 6, maxLocals := 5, code := method_2_code, exceptionTable := #[], attributes := #[] }
def k1m1 : Method := { name := "mk", desc := "(I)Ljava/lang/String;", sig := { parameters := [.int], returnType := some (.object "java/lang/String") }, accessFlags := 10, code := some k1c1 }
def k1c2 : Code := { maxStack := 2, maxLocals := 1, code := method_3_code, exceptionTable := #[], attributes := #[] }
def k1m2 : Method := { name := "fold", desc := "(I)I", sig := { parameters := [.int], returnType := some .int }, accessFlags := 10, code := some k1c2 }
def k1c3 : Code := { maxStack := 3, maxLocals := 7, code := method_4_code, exceptionTable := #[], attributes := #[] }
def k1m3 : Method := { name := "same", desc := "(II)Z", sig := { parameters := [.int, .int], returnType := some .boolean }, accessFlags := 10, code := some k1c3 }
def k1c4 : Code := { maxStack := 4, maxLocals := 13, code := code, exceptionTable := #[], attributes := #[] }
def k1m4 : Method := { name := "law", desc := "(IIIII)Z", sig := { parameters := [.int, .int, .int, .int, .int], returnType := some .boolean }, accessFlags := 9, code := some k1c4 }
/-- com/example/thalwil/thalwil/JoinColumnEqualsPinLaw -/
def k1 : Class := { plain "com/example/thalwil/thalwil/JoinColumnEqualsPinLaw" (some 0) with
  accessFlags := 49
  interfaces := #[]
  cf := some (fileOf pool1 13 #[] #[{ accessFlags := 1, nameIndex := 5, descriptorIndex := 6, attributes := #[] }, { accessFlags := 10, nameIndex := 20, descriptorIndex := 21, attributes := #[] }, { accessFlags := 10, nameIndex := 16, descriptorIndex := 17, attributes := #[] }, { accessFlags := 10, nameIndex := 33, descriptorIndex := 34, attributes := #[] }, { accessFlags := 9, nameIndex := 38, descriptorIndex := 39, attributes := #[] }] 49 2 #[] #[])
  fields := #[]
  methods := #[k1m0, k1m1, k1m2, k1m3, k1m4]
  instanceTypes := #[]
  staticTypes := #[]
  resolved := Array.replicate 42 none
  statics := none }

def pool2 : Array CpInfo := pool [(1, .class_ 2), (0, u "java/io/Serializable"), (0, .class_ 4), (0, u "java/lang/Object")] 2

/-- java/io/Serializable -/
def k2 : Class := { plain "java/io/Serializable" (some 0) with
  accessFlags := 1537
  interfaces := #[]
  cf := some (fileOf pool2 1 #[] #[] 1537 3 #[] #[])
  fields := #[]
  methods := #[]
  instanceTypes := #[]
  staticTypes := #[]
  resolved := Array.replicate 7 none
  statics := none }

def pool3 : Array CpInfo := pool [(1, .class_ 2), (0, u "java/lang/Comparable"), (0, .class_ 4), (0, u "java/lang/Object")] 7

/-- java/lang/Comparable -/
def k3 : Class := { plain "java/lang/Comparable" (some 0) with
  accessFlags := 1537
  interfaces := #[]
  cf := some (fileOf pool3 1 #[] #[] 1537 3 #[] #[])
  fields := #[]
  methods := #[]
  instanceTypes := #[]
  staticTypes := #[]
  resolved := Array.replicate 12 none
  statics := none }

def pool4 : Array CpInfo := pool [(2, .class_ 4), (1, u "java/lang/CharSequence"), (42, .class_ 48), (0, u "java/lang/CharSequence$1CodePointIterator"), (10, .class_ 60), (0, u "java/lang/CharSequence$1CharIterator"), (5, .class_ 67), (0, u "java/lang/Object")] 63

/-- java/lang/CharSequence -/
def k4 : Class := { plain "java/lang/CharSequence" (some 0) with
  accessFlags := 1537
  interfaces := #[]
  cf := some (fileOf pool4 2 #[.nestMembers #[47, 59]] #[] 1537 66 #[] #[])
  fields := #[]
  methods := #[]
  instanceTypes := #[]
  staticTypes := #[]
  resolved := Array.replicate 131 none
  statics := none }

def pool5 : Array CpInfo := pool [(1, .class_ 2), (0, u "java/lang/constant/Constable"), (0, .class_ 4), (0, u "java/lang/Object")] 6

/-- java/lang/constant/Constable -/
def k5 : Class := { plain "java/lang/constant/Constable" (some 0) with
  accessFlags := 1537
  interfaces := #[]
  cf := some (fileOf pool5 1 #[] #[] 1537 3 #[] #[])
  fields := #[]
  methods := #[]
  instanceTypes := #[]
  staticTypes := #[]
  resolved := Array.replicate 11 none
  statics := none }

def pool6 : Array CpInfo := pool [(1, .class_ 2), (0, u "java/lang/constant/ConstantDesc"), (0, .class_ 4), (0, u "java/lang/Object")] 32

/-- java/lang/constant/ConstantDesc -/
def k6 : Class := { plain "java/lang/constant/ConstantDesc" (some 0) with
  accessFlags := 1537
  interfaces := #[]
  cf := some (fileOf pool6 1 #[] #[] 1537 3 #[] #[])
  fields := #[]
  methods := #[]
  instanceTypes := #[]
  staticTypes := #[]
  resolved := Array.replicate 37 none
  statics := none }

def pool7 : Array CpInfo := pool [(1, .methodref 2 3), (0, .class_ 4), (0, .nameAndType 5 6), (0, u "java/lang/Object"), (0, u "<init>"), (0, u "()V"), (0, .string 8), (0, u ""), (0, .fieldref 10 11), (0, .class_ 12), (0, .nameAndType 13 14), (0, u "java/lang/String"), (0, u "value"), (0, u "[B"), (0, .fieldref 10 16), (0, .nameAndType 17 18), (0, u "coder"), (0, u "B"), (2, u "hash"), (0, u "I"), (2, u "hashIsZero"), (0, u "Z"), (0, .methodref 10 28), (0, .nameAndType 5 29), (0, u "([CIILjava/lang/Void;)V"), (8, .fieldref 10 39), (0, .nameAndType 40 26), (0, u "COMPACT_STRINGS"), (1, .class_ 44), (1, u "java/lang/StringUTF16"), (0, u "compress"), (1, .methodref 42 48), (0, .nameAndType 49 50), (0, u "coderFromArrayLen"), (0, u "([BI)B"), (56, .class_ 109), (1, u "java/lang/StringLatin1"), (67, .methodref 42 178), (0, .nameAndType 45 179), (0, u "([CII)[B"), (154, u "()I"), (0, .methodref 10 336), (0, .nameAndType 17 337), (0, u "()B"), (167, .methodref 10 506), (0, .nameAndType 507 334), (0, u "length"), (67, .class_ 576), (0, u "java/lang/CharSequence"), (5, .methodref 10 583), (0, .nameAndType 584 585), (0, u "regionMatches"), (0, u "(ZILjava/lang/String;II)Z"), (13, u "CASE_INSENSITIVE_ORDER"), (0, u "Ljava/util/Comparator;"), (12, .methodref 107 614), (0, .nameAndType 615 616), (0, u "regionMatchesCI"), (0, u "([BI[BII)Z"), (393, u "([C)V"), (90, u "serialPersistentFields"), (0, u "[Ljava/io/ObjectStreamField;"), (0, .class_ 1104), (0, u "java/lang/String$CaseInsensitiveComparator"), (1, .class_ 1107), (0, u "java/io/Serializable"), (0, .class_ 1109), (0, u "java/lang/Comparable"), (0, .class_ 1111), (0, u "java/lang/constant/Constable"), (0, .class_ 1113), (0, u "java/lang/constant/ConstantDesc"), (2, u "serialVersionUID"), (0, u "J"), (3, u "REPL"), (0, u "C"), (2, u "LATIN1"), (1, u "UTF16"), (128, u "equalsIgnoreCase"), (0, u "(Ljava/lang/String;)Z")] 193

def k7m0 : Method := { name := "<init>", desc := "()V", sig := { parameters := [], returnType := none }, accessFlags := 1, code := none }
def k7c1 : Code := { maxStack := 5, maxLocals := 2, code := jdk_42_method_3_code, exceptionTable := #[], attributes := #[] }
def k7m1 : Method := { name := "<init>", desc := "([C)V", sig := { parameters := [(.array .char)], returnType := none }, accessFlags := 1, code := some k7c1 }
def k7c2 : Code := { maxStack := 2, maxLocals := 1, code := jdk_42_method_54_code, exceptionTable := #[], attributes := #[] }
def k7m2 : Method := { name := "length", desc := "()I", sig := { parameters := [], returnType := some .int }, accessFlags := 1, code := some k7c2 }
def k7c3 : Code := { maxStack := 6, maxLocals := 2, code := jdk_42_method_70_code, exceptionTable := #[], attributes := #[] }
def k7m3 : Method := { name := "equalsIgnoreCase", desc := "(Ljava/lang/String;)Z", sig := { parameters := [(.object "java/lang/String")], returnType := some .boolean }, accessFlags := 1, code := some k7c3 }
def k7c4 : Code := { maxStack := 6, maxLocals := 9, code := jdk_42_method_74_code, exceptionTable := #[], attributes := #[] }
def k7m4 : Method := { name := "regionMatches", desc := "(ZILjava/lang/String;II)Z", sig := { parameters := [.boolean, .int, (.object "java/lang/String"), .int, .int], returnType := some .boolean }, accessFlags := 1, code := some k7c4 }
def k7c5 : Code := { maxStack := 4, maxLocals := 6, code := jdk_42_method_149_code, exceptionTable := #[], attributes := #[] }
def k7m5 : Method := { name := "<init>", desc := "([CIILjava/lang/Void;)V", sig := { parameters := [(.array .char), .int, .int, (.object "java/lang/Void")], returnType := none }, accessFlags := 2, code := some k7c5 }
def k7c6 : Code := { maxStack := 1, maxLocals := 1, code := jdk_42_method_152_code, exceptionTable := #[], attributes := #[] }
def k7m6 : Method := { name := "coder", desc := "()B", sig := { parameters := [], returnType := some .byte }, accessFlags := 0, code := some k7c6 }
/-- java/lang/String -/
def k7 : Class := { plain "java/lang/String" (some 0) with
  accessFlags := 49
  interfaces := #[2, 3, 4, 5, 6]
  cf := some (fileOf pool7 10 #[.nestMembers #[1103]] #[{ accessFlags := 1, nameIndex := 5, descriptorIndex := 6, attributes := #[] }, { accessFlags := 1, nameIndex := 5, descriptorIndex := 1010, attributes := #[] }, { accessFlags := 1, nameIndex := 507, descriptorIndex := 334, attributes := #[] }, { accessFlags := 1, nameIndex := 1256, descriptorIndex := 1257, attributes := #[] }, { accessFlags := 1, nameIndex := 584, descriptorIndex := 585, attributes := #[] }, { accessFlags := 2, nameIndex := 5, descriptorIndex := 29, attributes := #[] }, { accessFlags := 0, nameIndex := 17, descriptorIndex := 337, attributes := #[] }] 49 2 #[1106, 1108, 575, 1110, 1112] #[{ accessFlags := 18, nameIndex := 13, descriptorIndex := 14, attributes := #[] }, { accessFlags := 18, nameIndex := 17, descriptorIndex := 18, attributes := #[] }, { accessFlags := 2, nameIndex := 21, descriptorIndex := 22, attributes := #[] }, { accessFlags := 2, nameIndex := 25, descriptorIndex := 26, attributes := #[] }, { accessFlags := 26, nameIndex := 1116, descriptorIndex := 1117, attributes := #[] }, { accessFlags := 24, nameIndex := 40, descriptorIndex := 26, attributes := #[] }, { accessFlags := 26, nameIndex := 1101, descriptorIndex := 1102, attributes := #[] }, { accessFlags := 26, nameIndex := 1121, descriptorIndex := 1122, attributes := #[] }, { accessFlags := 25, nameIndex := 599, descriptorIndex := 600, attributes := #[] }, { accessFlags := 24, nameIndex := 1125, descriptorIndex := 18, attributes := #[] }, { accessFlags := 24, nameIndex := 1127, descriptorIndex := 18, attributes := #[] }])
  fields := #[{ name := "value", type := (.array .byte), accessFlags := 18, slot := 0, constantValue := 0 }, { name := "coder", type := .byte, accessFlags := 18, slot := 1, constantValue := 0 }, { name := "hash", type := .int, accessFlags := 2, slot := 2, constantValue := 0 }, { name := "hashIsZero", type := .boolean, accessFlags := 2, slot := 3, constantValue := 0 }, { name := "serialVersionUID", type := .long, accessFlags := 26, slot := 0, constantValue := 0 }, { name := "COMPACT_STRINGS", type := .boolean, accessFlags := 24, slot := 1, constantValue := 0 }, { name := "serialPersistentFields", type := (.array (.object "java/io/ObjectStreamField")), accessFlags := 26, slot := 2, constantValue := 0 }, { name := "REPL", type := .char, accessFlags := 26, slot := 3, constantValue := 0 }, { name := "CASE_INSENSITIVE_ORDER", type := (.object "java/util/Comparator"), accessFlags := 25, slot := 4, constantValue := 0 }, { name := "LATIN1", type := .byte, accessFlags := 24, slot := 5, constantValue := 0 }, { name := "UTF16", type := .byte, accessFlags := 24, slot := 6, constantValue := 0 }]
  methods := #[k7m0, k7m1, k7m2, k7m3, k7m4, k7m5, k7m6]
  instanceTypes := #[(.array .byte), .byte, .int, .boolean]
  staticTypes := #[.long, .boolean, (.array (.object "java/io/ObjectStreamField")), .char, (.object "java/util/Comparator"), .byte, .byte]
  resolved := Array.replicate 1451 none
  statics := some 0 }

def pool8 : Array CpInfo := pool [(1, .methodref 2 3), (0, .class_ 4), (0, .nameAndType 5 6), (0, u "java/lang/Object"), (0, u "<init>"), (0, u "()V"), (0, .fieldref 8 9), (0, .class_ 10), (0, .nameAndType 11 12), (0, u "com/example/thalwil/thalwil/JoinColumn"), (0, u "table"), (0, u "Ljava/lang/String;"), (0, .fieldref 8 14), (0, .nameAndType 15 12), (0, u "column"), (10, .methodref 27 28), (0, .class_ 29), (0, .nameAndType 30 31), (0, u "java/lang/String"), (0, u "equalsIgnoreCase"), (0, u "(Ljava/lang/String;)Z"), (17, u "(Ljava/lang/String;Ljava/lang/String;)V"), (4, u "equals"), (0, u "(Ljava/lang/Object;)Z")] 24

def k8c0 : Code := { maxStack := 2, maxLocals := 3, code := prog_12_method_1_code, exceptionTable := #[], attributes := #[] }
def k8m0 : Method := { name := "<init>", desc := "(Ljava/lang/String;Ljava/lang/String;)V", sig := { parameters := [(.object "java/lang/String"), (.object "java/lang/String")], returnType := none }, accessFlags := 0, code := some k8c0 }
def k8c1 : Code := { maxStack := 2, maxLocals := 3, code := prog_12_method_3_code, exceptionTable := #[], attributes := #[] }
def k8m1 : Method := { name := "equals", desc := "(Ljava/lang/Object;)Z", sig := { parameters := [(.object "java/lang/Object")], returnType := some .boolean }, accessFlags := 1, code := some k8c1 }
/-- com/example/thalwil/thalwil/JoinColumn -/
def k8 : Class := { plain "com/example/thalwil/thalwil/JoinColumn" (some 0) with
  accessFlags := 48
  interfaces := #[]
  cf := some (fileOf pool8 8 #[] #[{ accessFlags := 0, nameIndex := 5, descriptorIndex := 49, attributes := #[] }, { accessFlags := 1, nameIndex := 54, descriptorIndex := 55, attributes := #[] }] 48 2 #[] #[{ accessFlags := 18, nameIndex := 11, descriptorIndex := 12, attributes := #[] }, { accessFlags := 18, nameIndex := 15, descriptorIndex := 12, attributes := #[] }])
  fields := #[{ name := "table", type := (.object "java/lang/String"), accessFlags := 18, slot := 0, constantValue := 0 }, { name := "column", type := (.object "java/lang/String"), accessFlags := 18, slot := 1, constantValue := 0 }]
  methods := #[k8m0, k8m1]
  instanceTypes := #[(.object "java/lang/String"), (.object "java/lang/String")]
  staticTypes := #[]
  resolved := Array.replicate 80 none
  statics := none }

def pool9 : Array CpInfo := pool [(4, .class_ 6), (1, u "java/lang/Object"), (0, u "<init>"), (0, u "()V"), (5, .class_ 16), (1, u "java/lang/StringLatin1"), (50, .class_ 69), (1, u "java/lang/CharacterDataLatin1"), (51, u "$assertionsDisabled"), (0, u "Z"), (30, .methodref 67 154), (0, .nameAndType 155 156), (0, u "equalsIgnoreCase"), (0, u "(BB)Z"), (64, .class_ 223), (1, u "java/lang/StringLatin1$LinesSpliterator"), (116, u "regionMatchesCI"), (0, u "([BI[BII)Z"), (48, .class_ 391), (0, u "java/lang/StringLatin1$CharsSpliterator")] 3

def k9m0 : Method := { name := "<init>", desc := "()V", sig := { parameters := [], returnType := none }, accessFlags := 0, code := none }
def k9c1 : Code := { maxStack := 2, maxLocals := 8, code := jdk_43_method_30_code, exceptionTable := #[], attributes := #[] }
def k9m1 : Method := { name := "regionMatchesCI", desc := "([BI[BII)Z", sig := { parameters := [(.array .byte), .int, (.array .byte), .int, .int], returnType := some .boolean }, accessFlags := 9, code := some k9c1 }
/-- java/lang/StringLatin1 -/
def k9 : Class := { plain "java/lang/StringLatin1" (some 0) with
  accessFlags := 48
  interfaces := #[]
  cf := some (fileOf pool9 14 #[.nestMembers #[390, 221]] #[{ accessFlags := 0, nameIndex := 7, descriptorIndex := 8, attributes := #[] }, { accessFlags := 9, nameIndex := 340, descriptorIndex := 341, attributes := #[] }] 48 4 #[] #[{ accessFlags := 4120, nameIndex := 121, descriptorIndex := 122, attributes := #[] }])
  fields := #[{ name := "$assertionsDisabled", type := .boolean, accessFlags := 4120, slot := 0, constantValue := 0 }]
  methods := #[k9m0, k9m1]
  instanceTypes := #[]
  staticTypes := #[.boolean]
  resolved := Array.replicate 395 none
  statics := none }

def pool10 : Array CpInfo := pool [(6, .class_ 8), (1, u "java/lang/Object"), (0, u "<init>"), (0, u "()V"), (1, .class_ 14), (1, u "java/lang/StringUTF16"), (31, u "$assertionsDisabled"), (0, u "Z"), (13, u "HI_BYTE_SHIFT"), (0, u "I"), (2, u "LO_BYTE_SHIFT"), (49, .methodref 12 116), (0, .nameAndType 117 118), (0, u "compress"), (0, u "([CI[BII)I"), (3, u "([CII)[B"), (138, u "coderFromArrayLen"), (0, u "([BI)B"), (106, .class_ 371), (1, u "java/lang/StringUTF16$LinesSpliterator"), (58, u "MAX_LENGTH"), (196, .class_ 628), (0, u "java/lang/StringUTF16$CodePointsSpliterator"), (0, .class_ 630), (0, u "java/lang/StringUTF16$CharsSpliterator")] 4

def k10m0 : Method := { name := "<init>", desc := "()V", sig := { parameters := [], returnType := none }, accessFlags := 0, code := none }
def k10c1 : Code := { maxStack := 2, maxLocals := 2, code := jdk_52_method_15_code, exceptionTable := #[], attributes := #[] }
def k10m1 : Method := { name := "coderFromArrayLen", desc := "([BI)B", sig := { parameters := [(.array .byte), .int], returnType := some .byte }, accessFlags := 8, code := some k10c1 }
def k10c2 : Code := { maxStack := 5, maxLocals := 6, code := jdk_52_method_16_code, exceptionTable := #[], attributes := #[] }
def k10m2 : Method := { name := "compress", desc := "([CII)[B", sig := { parameters := [(.array .char), .int, .int], returnType := some (.array .byte) }, accessFlags := 9, code := some k10c2 }
def k10c3 : Code := { maxStack := 3, maxLocals := 7, code := jdk_52_method_21_code, exceptionTable := #[], attributes := #[] }
def k10m3 : Method := { name := "compress", desc := "([CI[BII)I", sig := { parameters := [(.array .char), .int, (.array .byte), .int, .int], returnType := some .int }, accessFlags := 9, code := some k10c3 }
/-- java/lang/StringUTF16 -/
def k10 : Class := { plain "java/lang/StringUTF16" (some 0) with
  accessFlags := 48
  interfaces := #[]
  cf := some (fileOf pool10 12 #[.nestMembers #[627, 629, 369]] #[{ accessFlags := 0, nameIndex := 9, descriptorIndex := 10, attributes := #[] }, { accessFlags := 8, nameIndex := 261, descriptorIndex := 262, attributes := #[] }, { accessFlags := 9, nameIndex := 117, descriptorIndex := 122, attributes := #[] }, { accessFlags := 9, nameIndex := 117, descriptorIndex := 118, attributes := #[] }] 48 6 #[] #[{ accessFlags := 26, nameIndex := 61, descriptorIndex := 62, attributes := #[] }, { accessFlags := 26, nameIndex := 65, descriptorIndex := 62, attributes := #[] }, { accessFlags := 24, nameIndex := 430, descriptorIndex := 62, attributes := #[] }, { accessFlags := 4120, nameIndex := 46, descriptorIndex := 47, attributes := #[] }])
  fields := #[{ name := "HI_BYTE_SHIFT", type := .int, accessFlags := 26, slot := 0, constantValue := 0 }, { name := "LO_BYTE_SHIFT", type := .int, accessFlags := 26, slot := 1, constantValue := 0 }, { name := "MAX_LENGTH", type := .int, accessFlags := 24, slot := 2, constantValue := 0 }, { name := "$assertionsDisabled", type := .boolean, accessFlags := 4120, slot := 3, constantValue := 0 }]
  methods := #[k10m0, k10m1, k10m2, k10m3]
  instanceTypes := #[]
  staticTypes := #[.int, .int, .int, .boolean]
  resolved := Array.replicate 635 none
  statics := none }

def pool11 : Array CpInfo := pool [(2, .class_ 4), (1, u "java/lang/Object"), (0, u "<init>"), (0, u "()V"), (1, .class_ 10), (1, u "java/lang/CharacterData")] 75

def k11m0 : Method := { name := "<init>", desc := "()V", sig := { parameters := [], returnType := none }, accessFlags := 0, code := none }
/-- java/lang/CharacterData -/
def k11 : Class := { plain "java/lang/CharacterData" (some 0) with
  accessFlags := 1056
  interfaces := #[]
  cf := some (fileOf pool11 8 #[] #[{ accessFlags := 0, nameIndex := 5, descriptorIndex := 6, attributes := #[] }] 1056 2 #[] #[])
  fields := #[]
  methods := #[k11m0]
  instanceTypes := #[]
  staticTypes := #[]
  resolved := Array.replicate 86 none
  statics := none }

def pool12 : Array CpInfo := pool [(2, .class_ 4), (1, u "java/lang/CharacterDataLatin1"), (0, u "A"), (0, u "[I"), (2, u "B"), (0, u "[C"), (16, u "DIGITS"), (0, u "[B"), (8, u "sharpsMap"), (1, .class_ 41), (1, u "java/lang/CharacterData"), (0, u "<init>"), (0, u "()V"), (3, u "instance"), (0, u "Ljava/lang/CharacterDataLatin1;"), (66, u "equalsIgnoreCase"), (0, u "(BB)Z")] 24

def k12c0 : Code := { maxStack := 3, maxLocals := 3, code := jdk_116_method_22_code, exceptionTable := #[], attributes := #[] }
def k12m0 : Method := { name := "equalsIgnoreCase", desc := "(BB)Z", sig := { parameters := [.byte, .byte], returnType := some .boolean }, accessFlags := 8, code := some k12c0 }
def k12m1 : Method := { name := "<init>", desc := "()V", sig := { parameters := [], returnType := none }, accessFlags := 2, code := none }
/-- java/lang/CharacterDataLatin1 -/
def k12 : Class := { plain "java/lang/CharacterDataLatin1" (some 11) with
  accessFlags := 32
  interfaces := #[]
  cf := some (fileOf pool12 2 #[] #[{ accessFlags := 8, nameIndex := 115, descriptorIndex := 116, attributes := #[] }, { accessFlags := 2, nameIndex := 42, descriptorIndex := 43, attributes := #[] }] 32 39 #[] #[{ accessFlags := 26, nameIndex := 27, descriptorIndex := 28, attributes := #[] }, { accessFlags := 8, nameIndex := 37, descriptorIndex := 10, attributes := #[] }, { accessFlags := 24, nameIndex := 47, descriptorIndex := 48, attributes := #[] }, { accessFlags := 24, nameIndex := 5, descriptorIndex := 6, attributes := #[] }, { accessFlags := 24, nameIndex := 9, descriptorIndex := 10, attributes := #[] }])
  fields := #[{ name := "DIGITS", type := (.array .byte), accessFlags := 26, slot := 0, constantValue := 0 }, { name := "sharpsMap", type := (.array .char), accessFlags := 8, slot := 1, constantValue := 0 }, { name := "instance", type := (.object "java/lang/CharacterDataLatin1"), accessFlags := 24, slot := 2, constantValue := 0 }, { name := "A", type := (.array .int), accessFlags := 24, slot := 3, constantValue := 0 }, { name := "B", type := (.array .char), accessFlags := 24, slot := 4, constantValue := 0 }]
  methods := #[k12m0, k12m1]
  instanceTypes := #[]
  staticTypes := #[(.array .byte), (.array .char), (.object "java/lang/CharacterDataLatin1"), (.array .int), (.array .char)]
  resolved := Array.replicate 141 none
  statics := none }

def pool13 : Array CpInfo := pool [(2, .class_ 4), (1, u "java/lang/Object"), (0, u "<init>"), (0, u "()V"), (17, .class_ 26), (1, u "jdk/internal/util/Preconditions"), (28, .class_ 56), (0, u "jdk/internal/util/Preconditions$4"), (57, .class_ 115), (0, u "jdk/internal/util/Preconditions$1"), (7, u "SIOOBE_FORMATTER"), (0, u "Ljava/util/function/BiFunction;"), (0, .class_ 126), (0, u "jdk/internal/util/Preconditions$2"), (3, u "AIOOBE_FORMATTER"), (0, .class_ 132), (0, u "jdk/internal/util/Preconditions$3"), (3, u "IOOBE_FORMATTER")] 57

def k13m0 : Method := { name := "<init>", desc := "()V", sig := { parameters := [], returnType := none }, accessFlags := 1, code := none }
/-- jdk/internal/util/Preconditions -/
def k13 : Class := { plain "jdk/internal/util/Preconditions" (some 0) with
  accessFlags := 33
  interfaces := #[]
  cf := some (fileOf pool13 24 #[.nestMembers #[55, 131, 125, 114]] #[{ accessFlags := 1, nameIndex := 5, descriptorIndex := 6, attributes := #[] }] 33 2 #[] #[{ accessFlags := 25, nameIndex := 123, descriptorIndex := 124, attributes := #[] }, { accessFlags := 25, nameIndex := 130, descriptorIndex := 124, attributes := #[] }, { accessFlags := 25, nameIndex := 136, descriptorIndex := 124, attributes := #[] }])
  fields := #[{ name := "SIOOBE_FORMATTER", type := (.object "java/util/function/BiFunction"), accessFlags := 25, slot := 0, constantValue := 0 }, { name := "AIOOBE_FORMATTER", type := (.object "java/util/function/BiFunction"), accessFlags := 25, slot := 1, constantValue := 0 }, { name := "IOOBE_FORMATTER", type := (.object "java/util/function/BiFunction"), accessFlags := 25, slot := 2, constantValue := 0 }]
  methods := #[k13m0]
  instanceTypes := #[]
  staticTypes := #[(.object "java/util/function/BiFunction"), (.object "java/util/function/BiFunction"), (.object "java/util/function/BiFunction")]
  resolved := Array.replicate 194 none
  statics := some 1 }

def pool14 : Array CpInfo := pool [(9, u "<init>"), (6, .class_ 18), (1, u "java/lang/Object"), (0, u "()V"), (1, .class_ 23), (1, u "jdk/internal/util/ArraysSupport"), (0, u "LOG2_ARRAY_LONG_INDEX_SCALE"), (0, u "I"), (2, u "U"), (0, u "Ljdk/internal/misc/Unsafe;"), (8, u "BIG_ENDIAN"), (0, u "Z"), (8, u "LOG2_BYTE_BIT_SIZE"), (4, u "LOG2_ARRAY_INT_INDEX_SCALE"), (54, u "JLA"), (0, u "Ljdk/internal/access/JavaLangAccess;"), (11, u "LOG2_ARRAY_BOOLEAN_INDEX_SCALE"), (9, u "LOG2_ARRAY_BYTE_INDEX_SCALE"), (5, u "LOG2_ARRAY_CHAR_INDEX_SCALE"), (5, u "LOG2_ARRAY_SHORT_INDEX_SCALE"), (18, u "LOG2_ARRAY_FLOAT_INDEX_SCALE"), (24, u "LOG2_ARRAY_DOUBLE_INDEX_SCALE"), (89, u "T_BOOLEAN"), (2, u "T_CHAR"), (1, u "T_FLOAT"), (1, u "T_DOUBLE"), (1, u "T_BYTE"), (1, u "T_SHORT"), (1, u "T_INT"), (1, u "T_LONG"), (1, u "SOFT_MAX_ARRAY_LENGTH")] 83

def k14m0 : Method := { name := "<init>", desc := "()V", sig := { parameters := [], returnType := none }, accessFlags := 2, code := none }
/-- jdk/internal/util/ArraysSupport -/
def k14 : Class := { plain "jdk/internal/util/ArraysSupport" (some 0) with
  accessFlags := 33
  interfaces := #[]
  cf := some (fileOf pool14 21 #[] #[{ accessFlags := 2, nameIndex := 9, descriptorIndex := 19, attributes := #[] }] 33 16 #[] #[{ accessFlags := 24, nameIndex := 28, descriptorIndex := 29, attributes := #[] }, { accessFlags := 26, nameIndex := 38, descriptorIndex := 39, attributes := #[] }, { accessFlags := 25, nameIndex := 121, descriptorIndex := 25, attributes := #[] }, { accessFlags := 25, nameIndex := 131, descriptorIndex := 25, attributes := #[] }, { accessFlags := 25, nameIndex := 137, descriptorIndex := 25, attributes := #[] }, { accessFlags := 25, nameIndex := 143, descriptorIndex := 25, attributes := #[] }, { accessFlags := 25, nameIndex := 53, descriptorIndex := 25, attributes := #[] }, { accessFlags := 25, nameIndex := 24, descriptorIndex := 25, attributes := #[] }, { accessFlags := 25, nameIndex := 162, descriptorIndex := 25, attributes := #[] }, { accessFlags := 25, nameIndex := 187, descriptorIndex := 25, attributes := #[] }, { accessFlags := 26, nameIndex := 48, descriptorIndex := 25, attributes := #[] }, { accessFlags := 25, nameIndex := 277, descriptorIndex := 25, attributes := #[] }, { accessFlags := 25, nameIndex := 280, descriptorIndex := 25, attributes := #[] }, { accessFlags := 25, nameIndex := 282, descriptorIndex := 25, attributes := #[] }, { accessFlags := 25, nameIndex := 284, descriptorIndex := 25, attributes := #[] }, { accessFlags := 25, nameIndex := 286, descriptorIndex := 25, attributes := #[] }, { accessFlags := 25, nameIndex := 288, descriptorIndex := 25, attributes := #[] }, { accessFlags := 25, nameIndex := 290, descriptorIndex := 25, attributes := #[] }, { accessFlags := 25, nameIndex := 292, descriptorIndex := 25, attributes := #[] }, { accessFlags := 26, nameIndex := 108, descriptorIndex := 109, attributes := #[] }, { accessFlags := 25, nameIndex := 294, descriptorIndex := 25, attributes := #[] }])
  fields := #[{ name := "U", type := (.object "jdk/internal/misc/Unsafe"), accessFlags := 24, slot := 0, constantValue := 0 }, { name := "BIG_ENDIAN", type := .boolean, accessFlags := 26, slot := 1, constantValue := 0 }, { name := "LOG2_ARRAY_BOOLEAN_INDEX_SCALE", type := .int, accessFlags := 25, slot := 2, constantValue := 0 }, { name := "LOG2_ARRAY_BYTE_INDEX_SCALE", type := .int, accessFlags := 25, slot := 3, constantValue := 0 }, { name := "LOG2_ARRAY_CHAR_INDEX_SCALE", type := .int, accessFlags := 25, slot := 4, constantValue := 0 }, { name := "LOG2_ARRAY_SHORT_INDEX_SCALE", type := .int, accessFlags := 25, slot := 5, constantValue := 0 }, { name := "LOG2_ARRAY_INT_INDEX_SCALE", type := .int, accessFlags := 25, slot := 6, constantValue := 0 }, { name := "LOG2_ARRAY_LONG_INDEX_SCALE", type := .int, accessFlags := 25, slot := 7, constantValue := 0 }, { name := "LOG2_ARRAY_FLOAT_INDEX_SCALE", type := .int, accessFlags := 25, slot := 8, constantValue := 0 }, { name := "LOG2_ARRAY_DOUBLE_INDEX_SCALE", type := .int, accessFlags := 25, slot := 9, constantValue := 0 }, { name := "LOG2_BYTE_BIT_SIZE", type := .int, accessFlags := 26, slot := 10, constantValue := 0 }, { name := "T_BOOLEAN", type := .int, accessFlags := 25, slot := 11, constantValue := 0 }, { name := "T_CHAR", type := .int, accessFlags := 25, slot := 12, constantValue := 0 }, { name := "T_FLOAT", type := .int, accessFlags := 25, slot := 13, constantValue := 0 }, { name := "T_DOUBLE", type := .int, accessFlags := 25, slot := 14, constantValue := 0 }, { name := "T_BYTE", type := .int, accessFlags := 25, slot := 15, constantValue := 0 }, { name := "T_SHORT", type := .int, accessFlags := 25, slot := 16, constantValue := 0 }, { name := "T_INT", type := .int, accessFlags := 25, slot := 17, constantValue := 0 }, { name := "T_LONG", type := .int, accessFlags := 25, slot := 18, constantValue := 0 }, { name := "JLA", type := (.object "jdk/internal/access/JavaLangAccess"), accessFlags := 26, slot := 19, constantValue := 0 }, { name := "SOFT_MAX_ARRAY_LENGTH", type := .int, accessFlags := 25, slot := 20, constantValue := 0 }]
  methods := #[k14m0]
  instanceTypes := #[]
  staticTypes := #[(.object "jdk/internal/misc/Unsafe"), .boolean, .int, .int, .int, .int, .int, .int, .int, .int, .int, .int, .int, .int, .int, .int, .int, .int, .int, (.object "jdk/internal/access/JavaLangAccess"), .int]
  resolved := Array.replicate 378 none
  statics := none }

def pool15 : Array CpInfo := pool [(1, u "java/lang/Cloneable"), (0, .class_ 1), (0, u "java/lang/Object"), (0, .class_ 3)] 3

/-- java/lang/Cloneable -/
def k15 : Class := { plain "java/lang/Cloneable" (some 0) with
  accessFlags := 1537
  interfaces := #[]
  cf := some (fileOf pool15 2 #[] #[] 1537 4 #[] #[])
  fields := #[]
  methods := #[]
  instanceTypes := #[]
  staticTypes := #[]
  resolved := Array.replicate 8 none
  statics := none }

/-- the primitive byte -/
def k16 : Class := { plain "byte" none with kind := .primitive 'B', accessFlags := 0x411 }
/-- [B -/
def k17 : Class := { plain "[B" (some 0) with kind := .array 16 .byte, interfaces := #[15, 2], accessFlags := 1041 }

/-- the primitive char -/
def k18 : Class := { plain "char" none with kind := .primitive 'C', accessFlags := 0x411 }
/-- [C -/
def k19 : Class := { plain "[C" (some 0) with kind := .array 18 .char, interfaces := #[15, 2], accessFlags := 1041 }

/-- the primitive int -/
def k20 : Class := { plain "int" none with kind := .primitive 'I', accessFlags := 0x411 }
/-- [I -/
def k21 : Class := { plain "[I" (some 0) with kind := .array 20 .int, interfaces := #[15, 2], accessFlags := 1041 }

def heap : Heap := #[{ cls := 7, slots := #[.long 0, .int 1, .null, .int 0, .null, .int 0, .int 0], vm := .statics 7 },
  { cls := 13, slots := #[.null, .null, .null], vm := .statics 13 }]
def classes : Array Class := #[k0, k1, k2, k3, k4, k5, k6, k7, k8, k9, k10, k11, k12, k13, k14, k15, k16, k17, k18, k19, k20, k21]
def interned : List (Array UInt16 × Addr) := []
def slotsUsed : Nat := 10
def theMethod : MethodId := ⟨1, 4⟩
def args0 : Array Value := #[.int 5, .int 5, .int 5, .int 5, .int 5]
def aboutOver (below : List Frame) : State where
  vm := { classes := classes, interned := interned.toArray }
  heap := heap
  slotsUsed := slotsUsed
  threads := #[{ frames := .invoking theMethod args0 :: below }]
def below0 : List Frame := [.native { method := ⟨0, 0⟩, args := #[] }]
def about1 : State := aboutOver below0
def p0 : Program := .bare "" "" ""
def e0 : Env := launch0.env 0 0 0
theorem w_frames : about1.frames = Frame.invoking theMethod args0 :: below0 := rfl
set_option maxRecDepth 65536 in
theorem w_args : argsFit about1.vm theMethod args0 = true := by decide +kernel
set_option maxRecDepth 65536 in
theorem w_heap : heapFits about1 = true := by decide +kernel
set_option maxRecDepth 65536 in
theorem w_runnable : about1.curStatus? = some .runnable := by decide +kernel
set_option maxRecDepth 65536 in
theorem w_alone : about1.alone = true := by decide +kernel
set_option maxRecDepth 65536 in
theorem w_named : about1.methodNamed? x = some theMethod := by decide +kernel
set_option maxRecDepth 65536 in
theorem w_hears : about1.hears theMethod below0 = true := by decide +kernel
set_option maxRecDepth 65536 in
theorem w_ripe : about1.ripe theMethod args0 below0 = true := by decide +kernel
theorem w_running : about1.status = .running := rfl
set_option maxRecDepth 65536 in
theorem w_room : about1.hasRoom e0.platform room_1 = true :=
  launch0.hasRoom_least _ room_1 (by decide +kernel) (by decide +kernel) (by decide +kernel) (by decide +kernel) (by decide +kernel) (by decide +kernel)
theorem allAtoms_all (ts : List Jvm.Cond) (a : Array Jvm.Value) (st : Jvm.State) : (allAtoms ts).before a st = ts.all (fun c => c.before a st) := by
  induction ts with
  | nil => rfl
  | cons c t ih =>
    show (Jvm.Cond.and c (allAtoms t)).before a st = _
    rw [Jvm.Cond.before_and, ih, List.all_cons]
def words1 : List Jvm.Cond := Jvm.Cond.code x code maxLocals ret :: tables_1
/-- a 'code' word, met by the world's own term for the bytes: nothing is compared byte by byte -/
theorem code_word {y : MethodName} {bytes : ByteArray} {mx : Nat} {rt : Option FieldType} {a : Array Value} {s : State} {m : MethodId} {meth : Method} {c : Code} (h1 : s.methodNamed? y = some m) (h2 : s.vm.method? m = some meth) (h3 : meth.code = some c) (h4 : c.code = bytes)
    (h5 : (c.maxLocals == mx && c.exceptionTable.isEmpty && decide (c.maxStack ≤ mostOperands) && decide (meth.sig.returnType = rt) && !meth.locks && decide (parseMethodDescriptor y.desc = some meth.sig)) = true) : (Jvm.Cond.code y bytes mx rt).before a s = true := by
  simp only [Bool.and_eq_true, beq_iff_eq, Bool.not_eq_true', decide_eq_true_eq] at h5
  obtain ⟨⟨⟨⟨⟨g1, g2⟩, g3⟩, g4⟩, g5⟩, g6⟩ := h5
  simp [Cond.before, Cond.holds, Cond.value, h1, h2, h3, h4, g1, g2, g3, g4, g5, g6]
def isCode : Jvm.Cond → Bool
  | .code _ _ _ _ => true
  | _ => false
theorem all_split {L : List Jvm.Cond} {P : Jvm.Cond → Bool} (h1 : L.all (fun c => isCode c || P c) = true) (h2 : ∀ c ∈ L.filter isCode, P c = true) : L.all P = true := by
  refine List.all_eq_true.mpr fun c hc => ?_
  have h := List.all_eq_true.mp h1 c hc
  rcases Bool.eq_false_or_eq_true (isCode c) with hi | hi
  · exact h2 c (List.mem_filter.mpr ⟨hc, hi⟩)
  · simpa [hi] using h
set_option maxRecDepth 65536 in
theorem w_c0 : (Jvm.Cond.code x code maxLocals ret).before args0 about1 = true := code_word (m := ⟨1, 4⟩) (meth := k1m4) (c := k1c4) (by decide +kernel) rfl rfl rfl (by decide +kernel)
set_option maxRecDepth 65536 in
theorem w_c1 : (Jvm.Cond.code ({ cls := "com/example/thalwil/thalwil/JoinColumnEqualsPinLaw", name := "mk", desc := "(I)Ljava/lang/String;" } : Jvm.MethodName) method_2_code (5 : Nat) (Option.some (Jvm.ClassFile.FieldType.object "java/lang/String"))).before args0 about1 = true := code_word (m := ⟨1, 1⟩) (meth := k1m1) (c := k1c1) (by decide +kernel) rfl rfl rfl (by decide +kernel)
set_option maxRecDepth 65536 in
theorem w_c2 : (Jvm.Cond.code ({ cls := "java/lang/String", name := "<init>", desc := "([C)V" } : Jvm.MethodName) jdk_42_method_3_code (2 : Nat) (Option.none : Option Jvm.ClassFile.FieldType)).before args0 about1 = true := code_word (m := ⟨7, 1⟩) (meth := k7m1) (c := k7c1) (by decide +kernel) rfl rfl rfl (by decide +kernel)
set_option maxRecDepth 65536 in
theorem w_c3 : (Jvm.Cond.code ({ cls := "java/lang/String", name := "<init>", desc := "([CIILjava/lang/Void;)V" } : Jvm.MethodName) jdk_42_method_149_code (6 : Nat) (Option.none : Option Jvm.ClassFile.FieldType)).before args0 about1 = true := code_word (m := ⟨7, 5⟩) (meth := k7m5) (c := k7c5) (by decide +kernel) rfl rfl rfl (by decide +kernel)
set_option maxRecDepth 65536 in
theorem w_c4 : (Jvm.Cond.code ({ cls := "java/lang/Object", name := "<init>", desc := "()V" } : Jvm.MethodName) object_method_1_code (1 : Nat) (Option.none : Option Jvm.ClassFile.FieldType)).before args0 about1 = true := code_word (m := ⟨0, 0⟩) (meth := k0m0) (c := k0c0) (by decide +kernel) rfl rfl rfl (by decide +kernel)
set_option maxRecDepth 65536 in
theorem w_c5 : (Jvm.Cond.code ({ cls := "com/example/thalwil/thalwil/JoinColumn", name := "<init>", desc := "(Ljava/lang/String;Ljava/lang/String;)V" } : Jvm.MethodName) prog_12_method_1_code (3 : Nat) (Option.none : Option Jvm.ClassFile.FieldType)).before args0 about1 = true := code_word (m := ⟨8, 0⟩) (meth := k8m0) (c := k8c0) (by decide +kernel) rfl rfl rfl (by decide +kernel)
set_option maxRecDepth 65536 in
theorem w_c6 : (Jvm.Cond.code ({ cls := "com/example/thalwil/thalwil/JoinColumn", name := "equals", desc := "(Ljava/lang/Object;)Z" } : Jvm.MethodName) prog_12_method_3_code (3 : Nat) (Option.some Jvm.ClassFile.FieldType.boolean)).before args0 about1 = true := code_word (m := ⟨8, 1⟩) (meth := k8m1) (c := k8c1) (by decide +kernel) rfl rfl rfl (by decide +kernel)
set_option maxRecDepth 65536 in
theorem w_c7 : (Jvm.Cond.code ({ cls := "com/example/thalwil/thalwil/JoinColumnEqualsPinLaw", name := "same", desc := "(II)Z" } : Jvm.MethodName) method_4_code (7 : Nat) (Option.some Jvm.ClassFile.FieldType.boolean)).before args0 about1 = true := code_word (m := ⟨1, 3⟩) (meth := k1m3) (c := k1c3) (by decide +kernel) rfl rfl rfl (by decide +kernel)
set_option maxRecDepth 65536 in
theorem w_c8 : (Jvm.Cond.code ({ cls := "java/lang/String", name := "equalsIgnoreCase", desc := "(Ljava/lang/String;)Z" } : Jvm.MethodName) jdk_42_method_70_code (2 : Nat) (Option.some Jvm.ClassFile.FieldType.boolean)).before args0 about1 = true := code_word (m := ⟨7, 3⟩) (meth := k7m3) (c := k7c3) (by decide +kernel) rfl rfl rfl (by decide +kernel)
set_option maxRecDepth 65536 in
theorem w_c9 : (Jvm.Cond.code ({ cls := "java/lang/String", name := "length", desc := "()I" } : Jvm.MethodName) jdk_42_method_54_code (1 : Nat) (Option.some Jvm.ClassFile.FieldType.int)).before args0 about1 = true := code_word (m := ⟨7, 2⟩) (meth := k7m2) (c := k7c2) (by decide +kernel) rfl rfl rfl (by decide +kernel)
set_option maxRecDepth 65536 in
theorem w_c10 : (Jvm.Cond.code ({ cls := "java/lang/String", name := "coder", desc := "()B" } : Jvm.MethodName) jdk_42_method_152_code (1 : Nat) (Option.some Jvm.ClassFile.FieldType.byte)).before args0 about1 = true := code_word (m := ⟨7, 6⟩) (meth := k7m6) (c := k7c6) (by decide +kernel) rfl rfl rfl (by decide +kernel)
set_option maxRecDepth 65536 in
theorem w_c11 : (Jvm.Cond.code ({ cls := "java/lang/String", name := "regionMatches", desc := "(ZILjava/lang/String;II)Z" } : Jvm.MethodName) jdk_42_method_74_code (9 : Nat) (Option.some Jvm.ClassFile.FieldType.boolean)).before args0 about1 = true := code_word (m := ⟨7, 4⟩) (meth := k7m4) (c := k7c4) (by decide +kernel) rfl rfl rfl (by decide +kernel)
set_option maxRecDepth 65536 in
theorem w_c12 : (Jvm.Cond.code ({ cls := "java/lang/StringLatin1", name := "regionMatchesCI", desc := "([BI[BII)Z" } : Jvm.MethodName) jdk_43_method_30_code (8 : Nat) (Option.some Jvm.ClassFile.FieldType.boolean)).before args0 about1 = true := code_word (m := ⟨9, 1⟩) (meth := k9m1) (c := k9c1) (by decide +kernel) rfl rfl rfl (by decide +kernel)
set_option maxRecDepth 65536 in
theorem w_c13 : (Jvm.Cond.code ({ cls := "java/lang/StringUTF16", name := "compress", desc := "([CII)[B" } : Jvm.MethodName) jdk_52_method_16_code (6 : Nat) (Option.some (Jvm.ClassFile.FieldType.array Jvm.ClassFile.FieldType.byte))).before args0 about1 = true := code_word (m := ⟨10, 2⟩) (meth := k10m2) (c := k10c2) (by decide +kernel) rfl rfl rfl (by decide +kernel)
set_option maxRecDepth 65536 in
theorem w_c14 : (Jvm.Cond.code ({ cls := "java/lang/StringUTF16", name := "compress", desc := "([CI[BII)I" } : Jvm.MethodName) jdk_52_method_21_code (7 : Nat) (Option.some Jvm.ClassFile.FieldType.int)).before args0 about1 = true := code_word (m := ⟨10, 3⟩) (meth := k10m3) (c := k10c3) (by decide +kernel) rfl rfl rfl (by decide +kernel)
set_option maxRecDepth 65536 in
theorem w_c15 : (Jvm.Cond.code ({ cls := "java/lang/StringUTF16", name := "coderFromArrayLen", desc := "([BI)B" } : Jvm.MethodName) jdk_52_method_15_code (2 : Nat) (Option.some Jvm.ClassFile.FieldType.byte)).before args0 about1 = true := code_word (m := ⟨10, 1⟩) (meth := k10m1) (c := k10c1) (by decide +kernel) rfl rfl rfl (by decide +kernel)
set_option maxRecDepth 65536 in
theorem w_c16 : (Jvm.Cond.code ({ cls := "com/example/thalwil/thalwil/JoinColumnEqualsPinLaw", name := "fold", desc := "(I)I" } : Jvm.MethodName) method_3_code (1 : Nat) (Option.some Jvm.ClassFile.FieldType.int)).before args0 about1 = true := code_word (m := ⟨1, 2⟩) (meth := k1m2) (c := k1c2) (by decide +kernel) rfl rfl rfl (by decide +kernel)
set_option maxRecDepth 65536 in
theorem w_c17 : (Jvm.Cond.code ({ cls := "java/lang/CharacterDataLatin1", name := "equalsIgnoreCase", desc := "(BB)Z" } : Jvm.MethodName) jdk_116_method_22_code (3 : Nat) (Option.some Jvm.ClassFile.FieldType.boolean)).before args0 about1 = true := code_word (m := ⟨12, 0⟩) (meth := k12m0) (c := k12c0) (by decide +kernel) rfl rfl rfl (by decide +kernel)
def codes1 : List Jvm.Cond := [Jvm.Cond.code x code maxLocals ret, Jvm.Cond.code ({ cls := "com/example/thalwil/thalwil/JoinColumnEqualsPinLaw", name := "mk", desc := "(I)Ljava/lang/String;" } : Jvm.MethodName) method_2_code (5 : Nat) (Option.some (Jvm.ClassFile.FieldType.object "java/lang/String")), Jvm.Cond.code ({ cls := "java/lang/String", name := "<init>", desc := "([C)V" } : Jvm.MethodName) jdk_42_method_3_code (2 : Nat) (Option.none : Option Jvm.ClassFile.FieldType), Jvm.Cond.code ({ cls := "java/lang/String", name := "<init>", desc := "([CIILjava/lang/Void;)V" } : Jvm.MethodName) jdk_42_method_149_code (6 : Nat) (Option.none : Option Jvm.ClassFile.FieldType), Jvm.Cond.code ({ cls := "java/lang/Object", name := "<init>", desc := "()V" } : Jvm.MethodName) object_method_1_code (1 : Nat) (Option.none : Option Jvm.ClassFile.FieldType), Jvm.Cond.code ({ cls := "com/example/thalwil/thalwil/JoinColumn", name := "<init>", desc := "(Ljava/lang/String;Ljava/lang/String;)V" } : Jvm.MethodName) prog_12_method_1_code (3 : Nat) (Option.none : Option Jvm.ClassFile.FieldType), Jvm.Cond.code ({ cls := "com/example/thalwil/thalwil/JoinColumn", name := "equals", desc := "(Ljava/lang/Object;)Z" } : Jvm.MethodName) prog_12_method_3_code (3 : Nat) (Option.some Jvm.ClassFile.FieldType.boolean), Jvm.Cond.code ({ cls := "com/example/thalwil/thalwil/JoinColumnEqualsPinLaw", name := "same", desc := "(II)Z" } : Jvm.MethodName) method_4_code (7 : Nat) (Option.some Jvm.ClassFile.FieldType.boolean), Jvm.Cond.code ({ cls := "java/lang/String", name := "equalsIgnoreCase", desc := "(Ljava/lang/String;)Z" } : Jvm.MethodName) jdk_42_method_70_code (2 : Nat) (Option.some Jvm.ClassFile.FieldType.boolean), Jvm.Cond.code ({ cls := "java/lang/String", name := "length", desc := "()I" } : Jvm.MethodName) jdk_42_method_54_code (1 : Nat) (Option.some Jvm.ClassFile.FieldType.int), Jvm.Cond.code ({ cls := "java/lang/String", name := "coder", desc := "()B" } : Jvm.MethodName) jdk_42_method_152_code (1 : Nat) (Option.some Jvm.ClassFile.FieldType.byte), Jvm.Cond.code ({ cls := "java/lang/String", name := "regionMatches", desc := "(ZILjava/lang/String;II)Z" } : Jvm.MethodName) jdk_42_method_74_code (9 : Nat) (Option.some Jvm.ClassFile.FieldType.boolean), Jvm.Cond.code ({ cls := "java/lang/StringLatin1", name := "regionMatchesCI", desc := "([BI[BII)Z" } : Jvm.MethodName) jdk_43_method_30_code (8 : Nat) (Option.some Jvm.ClassFile.FieldType.boolean), Jvm.Cond.code ({ cls := "java/lang/StringUTF16", name := "compress", desc := "([CII)[B" } : Jvm.MethodName) jdk_52_method_16_code (6 : Nat) (Option.some (Jvm.ClassFile.FieldType.array Jvm.ClassFile.FieldType.byte)), Jvm.Cond.code ({ cls := "java/lang/StringUTF16", name := "compress", desc := "([CI[BII)I" } : Jvm.MethodName) jdk_52_method_21_code (7 : Nat) (Option.some Jvm.ClassFile.FieldType.int), Jvm.Cond.code ({ cls := "java/lang/StringUTF16", name := "coderFromArrayLen", desc := "([BI)B" } : Jvm.MethodName) jdk_52_method_15_code (2 : Nat) (Option.some Jvm.ClassFile.FieldType.byte), Jvm.Cond.code ({ cls := "com/example/thalwil/thalwil/JoinColumnEqualsPinLaw", name := "fold", desc := "(I)I" } : Jvm.MethodName) method_3_code (1 : Nat) (Option.some Jvm.ClassFile.FieldType.int), Jvm.Cond.code ({ cls := "java/lang/CharacterDataLatin1", name := "equalsIgnoreCase", desc := "(BB)Z" } : Jvm.MethodName) jdk_116_method_22_code (3 : Nat) (Option.some Jvm.ClassFile.FieldType.boolean)]
set_option maxRecDepth 65536 in
theorem codes_eq : words1.filter isCode = codes1 := rfl
theorem w_codes : ∀ c ∈ words1.filter isCode, c.before args0 about1 = true := by
  rw [codes_eq]
  intro c hc
  simp only [codes1, List.mem_cons, List.not_mem_nil, or_false] at hc
  rcases hc with rfl | rfl | rfl | rfl | rfl | rfl | rfl | rfl | rfl | rfl | rfl | rfl | rfl | rfl | rfl | rfl | rfl | rfl
  · exact w_c0
  · exact w_c1
  · exact w_c2
  · exact w_c3
  · exact w_c4
  · exact w_c5
  · exact w_c6
  · exact w_c7
  · exact w_c8
  · exact w_c9
  · exact w_c10
  · exact w_c11
  · exact w_c12
  · exact w_c13
  · exact w_c14
  · exact w_c15
  · exact w_c16
  · exact w_c17
set_option maxRecDepth 65536 in
theorem w_t1 : (words1.take 24).all (fun c => isCode c || c.before args0 about1) = true := by decide +kernel
set_option maxRecDepth 65536 in
theorem w_t2 : ((words1.drop 24).take 24).all (fun c => isCode c || c.before args0 about1) = true := by decide +kernel
set_option maxRecDepth 65536 in
theorem w_t3 : (((words1.drop 24).drop 24).take 24).all (fun c => isCode c || c.before args0 about1) = true := by decide +kernel
set_option maxRecDepth 65536 in
theorem w_t4 : (((words1.drop 24).drop 24).drop 24).all (fun c => isCode c || c.before args0 about1) = true := by decide +kernel
theorem w_tables : (allAtoms (Jvm.Cond.code x code maxLocals ret :: tables_1)).before args0 about1 = true := by
  rw [allAtoms_all]
  show words1.all (fun c => c.before args0 about1) = true
  refine all_split ?_ w_codes
  rw [← List.take_append_drop 24 words1, List.all_append, w_t1, ← List.take_append_drop 24 (words1.drop 24), List.all_append, w_t2, ← List.take_append_drop 24 ((words1.drop 24).drop 24), List.all_append, w_t3, w_t4]
  rfl
set_option maxRecDepth 65536 in
theorem w_rest : rest_1_c.before args0 about1 = true := by decide +kernel
set_option maxRecDepth 65536 in
theorem w_case : (Jvm.Cond.and given_1 narrow_1).before args0 about1 = true := by decide +kernel
set_option maxRecDepth 65536 in
theorem w_consts : constsHeld consts_1 about1 := Jvm.Lit.constsHeldB_iff.mp (by decide +kernel)
theorem w_applies : (headSpec (Jvm.Cond.code x code maxLocals ret :: tables_1) room_1).applies x e0.platform about1 = true :=
  (Spec.applies_iff w_frames).mpr ⟨w_running, w_runnable, w_alone, w_named, w_hears, w_ripe, w_room, w_tables⟩
theorem atStart : AtStart classFile x code maxLocals ret World_1 tables_1 room_1 Calls_1 rest_1 Pre_1 launch0 p0 e0 about1 theMethod args0 below0 :=
  ⟨lists_1, trivial, launch0.admits_env _ _ _, launch0.least_env, fairChoices_fair.cas, fairChoices_fair.clock, w_frames, w_args, w_heap, w_applies, ⟨w_consts, trivial⟩, w_rest, w_case⟩
end start1
theorem witness_1 : WitnessClaimed_1 := ⟨start1.p0, start1.e0, start1.about1, start1.theMethod, start1.args0, start1.below0, start1.atStart⟩
end Jvm.Pilot.@@N@@
