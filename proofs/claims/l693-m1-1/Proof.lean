import JvmDerived
import JvmDerived.Pilot.@@N@@Statement
import JvmDerived.Pilot.@@N@@Code
set_option linter.unusedVariables false
set_option linter.unusedSimpArgs false
namespace Jvm.RoadKit
theorem Ext.refl (h : Heap) : Ext h h := ⟨Nat.le_refl _, fun _ _ q => q⟩
theorem Ext.trans {h h1 h2 : Heap} (A : Ext h h1) (B : Ext h1 h2) : Ext h h2 := ⟨Nat.le_trans A.1 B.1, fun a c q => B.2 a c (A.2 a c q)⟩
end Jvm.RoadKit
namespace Jvm.OwnKit
open Sem ClassFile Op Lib Jvm.Stand Jvm.Free Jvm.LawKit Jvm.RoadKit

/-- where the walk stands: the tables so far, nothing old written, the String constants held, the objects under construction -/
def St (p : Program) (l : Launch) (e : Env) (R : Room) (s : State) (m : MethodId) (args : Array Value) (below : List Frame) (meth : Method) (c : Code)
    (own : String) (bytes : ByteArray) (maxL : Nat) (ret : Option FieldType) (nm : String) (Z : State) (EL : List (String × Nat)) (nw : Bool) (us : List Addr)
    (T : State) (h : Heap) (cells slots : Nat) : Prop :=
  (p.tables.exec = Jvm.exec ∧ c.code = bytes ∧ c.maxLocals = maxL ∧ meth.sig.returnType = ret ∧ meth.name = nm ∧ meth.locks = false ∧ ∃ a0, EW Z a0 EL) ∧
  ∃ (vm0 : Vm) (locs : List Loc), Stand p l e R (s.setVm vm0) m args below meth c T locs cells slots ∧ Fr Z.heap.size locs ∧ T.heap = h ∧ s.Since vm0 h.size ∧
    Z.Warmed39 vm0 ∧ vm0.findClass own = some m.cls ∧ Ext Z.heap h ∧ CHr Z EL s.vm s.heap vm0 h ∧
    (∀ x ∈ us, Z.heap.size ≤ x ∧ x < h.size ∧ Safe Z EL vm0 h x) ∧ (nw = true → s.WarmedH vm0)

/-- from here the method returns, with Q of what it returns and of the heap it leaves -/
def Goes (p : Program) (e : Env) (below : List Frame) (s Z : State) (EL : List (String × Nat)) (nw : Bool) (Q : Option Value → Heap → Prop) (kk nn : Nat) (S : State) : Prop :=
  ∃ U o, Steps p.tables e below S U ∧ U.status = .running ∧ Ended U below o ∧ ∃ v L, o = .returned v ∧ Q v U.heap ∧ Fr Z.heap.size L ∧ Ext Z.heap U.heap ∧
    CHr Z EL s.vm s.heap U.vm U.heap ∧ ReturnedEndW s o U L kk nn ∧ (nw = true → s.WarmedH U.vm)

/-- the contract of a method for the arguments as' at the heap h -/
def Ctr (l : Launch) (Z : State) (EL : List (String × Nat)) (nw : Bool) (y : MethodName) (bytes : ByteArray) (maxL : Nat) (ret : Option FieldType) (rm : Room) (as' : Array Value) (h : Heap) (us : List Addr)
    (Q : Option Value → Heap → Prop) : Prop :=
  ∀ ws : List Jvm.Cond, MetFree l y (head1 (Jvm.Cond.code y bytes maxL ret :: ws) rm)
    (fun a U => a = as' ∧ Z.Warmed39 U.vm ∧ U.heap = h ∧ Ext Z.heap h ∧ CHv Z EL U.vm h ∧ ∀ x ∈ us, Z.heap.size ≤ x ∧ x < h.size ∧ Safe Z EL U.vm h x)
    (fun _ _ _ _ _ => True)
    (fun _ U o U' => ∃ v L, o = .returned v ∧ Q v U'.heap ∧ Fr Z.heap.size L ∧ Ext Z.heap U'.heap ∧ CHr Z EL U.vm U.heap U'.vm U'.heap ∧ ReturnedEndW U o U' L rm.cells rm.slots ∧ (nw = true → U.WarmedH U'.vm))

def PureQ (h : Heap) (Qv : Value → Prop) : Option Value → Heap → Prop := fun v h' => h' = h ∧ ∃ w, v = some w ∧ Qv w
def ValQ (Qv : Value → Heap → Prop) : Option Value → Heap → Prop := fun v h' => ∃ w, v = some w ∧ Qv w h'
def VoidQ (Qn : Heap → Prop) : Option Value → Heap → Prop := fun v h' => v = none ∧ Qn h'
section Base
variable {p : Program} {l : Launch} {e : Env} {R : Room} {s : State} {m : MethodId} {args : Array Value} {below : List Frame} {meth : Method} {c : Code}
  {own : String} {bytes : ByteArray} {maxL : Nat} {ret : Option FieldType} {nm : String} {Z : State} {EL : List (String × Nat)} {nw : Bool} {us : List Addr}
  {T : State} {h : Heap} {cells slots : Nat} {Q : Option Value → Heap → Prop} {kk nn : Nat} {a0 : Array Value}

theorem ext_keep {h h1 h2 : Heap} {ws : List Addr} (A : Ext h h1) (K : Keep h1 h2 ws) (q : ∀ x ∈ ws, h.size ≤ x) : Ext h h2 :=
  ⟨Nat.le_trans A.1 K.1, fun a c r => K.2.1 a c (A.2 a c r) fun z => absurd (Array.getElem?_eq_some_iff.mp r).1 (Nat.not_lt.mpr (q a z))⟩
theorem ext_wr {h h1 h2 : Heap} {a : Addr} {sl : Nat} {v : Value} (A : Ext h h1) (W : Wr h1 h2 a sl v) (q : h.size ≤ a) : Ext h h2 :=
  ext_keep A (Keep.of_wr W) (fun x hx => by cases List.mem_singleton.mp hx; exact q)
theorem nar_mask (x : Int32) : nar .char (x &&& 255) = x &&& 255 := i2c_mask x
theorem ref_nar {v : Value} {t : FieldType} (h : v.isRef = true) (ht : t.isReference = true) : narrow t v = v := by
  rcases ref_cases h with rfl | ⟨a, rfl⟩ <;> cases t <;> first | rfl | simp [FieldType.isReference] at ht
theorem ref_fit {v : Value} {t : FieldType} (h : v.isRef = true) (ht : t.isReference = true) : fits t v = true := by
  rcases ref_cases h with rfl | ⟨a, rfl⟩ <;> cases t <;> first | rfl | simp [FieldType.isReference] at ht
theorem Sta.keepN {h1 h2 : Heap} {C n d : String} {v : Value} {ws : List Addr} (F : Sta Z Z.heap C n d v) (E : Ext Z.heap h2) : Sta Z h2 C n d v := Sta.ext E F

theorem St.at (X : St p l e R s m args below meth c own bytes maxL ret nm Z EL nw us T h cells slots) : At T m c below := by obtain ⟨-, _, _, Y, -⟩ := X; exact Y.here
theorem St.std (X : St p l e R s m args below meth c own bytes maxL ret nm Z EL nw us T h cells slots) : ∃ vm0 locs, Stand p l e R (s.setVm vm0) m args below meth c T locs cells slots := by obtain ⟨-, vm0, locs, Y, -⟩ := X; exact ⟨vm0, locs, Y⟩
theorem St.hx (X : St p l e R s m args below meth c own bytes maxL ret nm Z EL nw us T h cells slots) : p.tables.exec = Jvm.exec := X.1.1
theorem St.by (X : St p l e R s m args below meth c own bytes maxL ret nm Z EL nw us T h cells slots) : c.code = bytes := X.1.2.1
theorem St.old (X : St p l e R s m args below meth c own bytes maxL ret nm Z EL nw us T h cells slots) : Ext Z.heap h := by obtain ⟨-, _, _, -, -, -, -, -, -, q, -⟩ := X; exact q
theorem St.new (X : St p l e R s m args below meth c own bytes maxL ret nm Z EL nw us T h cells slots) {x : Addr} (hx : x ∈ us) : Z.heap.size ≤ x ∧ x < h.size := by
  obtain ⟨-, _, _, -, -, -, -, -, -, -, -, q, -⟩ := X; exact ⟨(q x hx).1, (q x hx).2.1⟩
theorem St.mono (X : St p l e R s m args below meth c own bytes maxL ret nm Z EL nw us T h cells slots) {cells' slots' : Nat} (hc : cells ≤ cells') (hs : slots ≤ slots') : St p l e R s m args below meth c own bytes maxL ret nm Z EL nw us T h cells' slots' := by
  obtain ⟨cx, vm0, locs, Y, r⟩ := X
  exact ⟨cx, vm0, locs, Y.mono hc hs, r⟩
theorem St.sub (X : St p l e R s m args below meth c own bytes maxL ret nm Z EL nw us T h cells slots) {us' : List Addr} (q : ∀ x ∈ us', x ∈ us) : St p l e R s m args below meth c own bytes maxL ret nm Z EL nw us' T h cells slots := by
  obtain ⟨cx, vm0, locs, Y, r1, r2, r3, r4, r5, r6, r7, r8, r9⟩ := X
  exact ⟨cx, vm0, locs, Y, r1, r2, r3, r4, r5, r6, r7, fun x hx => r8 x (q x hx), r9⟩

theorem Goes.step {S S' : State} (f : ∀ t, Steps p.tables e below S' t → Steps p.tables e below S t) (K : Goes p e below s Z EL nw Q kk nn S') : Goes p e below s Z EL nw Q kk nn S := by
  obtain ⟨U, o, hs, r⟩ := K; exact ⟨U, o, f _ hs, r⟩
theorem Goes.imp {Q' : Option Value → Heap → Prop} {S : State} (f : ∀ v h, Q v h → Q' v h) (K : Goes p e below s Z EL nw Q kk nn S) : Goes p e below s Z EL nw Q' kk nn S := by
  obtain ⟨U, o, h1, h2, h3, v, L, h4, h5, r⟩ := K; exact ⟨U, o, h1, h2, h3, v, L, h4, f _ _ h5, r⟩

/-- entering a method -/
theorem Ctr.enter {y : MethodName} {rm : Room} {as' : Array Value} (h1 : y.cls = own) (h2 : y.name = nm) (hEL : EW Z a0 EL) (hn : plainFor y = true) (Ls : Array Slot) (ef : ∀ m, entryFrame m as' maxL = mkF m 0 Ls [])
    (body : ∀ (p : Program) (e : Env) (s : State) (m : MethodId) (below : List Frame) (meth : Method) (c : Code) (T : State),
      St p l e rm s m as' below meth c own bytes maxL ret nm Z EL nw us T h 0 0 → Goes p e below s Z EL nw Q rm.cells rm.slots (T.setTop (mkF m 0 Ls []))) :
    Ctr l Z EL nw y bytes maxL ret rm as' h us Q := by
  subst h1 h2
  intro ws
  refine MetFree.of_bodySF hn hisR ?_
  intro p e s m args below meth c s₁ Bd hml0 hP _
  obtain ⟨rfl, hZ, hh, hE, hC, hU⟩ := hP
  have hnm := (name_of_methodNamed Bd.named Bd.method).1
  have hown : s.vm.findClass y.cls = some m.cls := findClass_of_methodNamed Bd.named
  have e0 : s₁.heap = h := by rw [← hh, Bd.state]; rfl
  have X0 : Stand p l e rm (s.setVm s.vm) m args below meth c s₁ [] 0 0 := Stand.of_body Bd
  have X : St p l e rm s m args below meth c y.cls bytes maxL ret y.name Z EL nw us s₁ h 0 0 :=
    ⟨⟨Bd.exec, Bd.bytes, hml0, Bd.returns, hnm, Bd.notSynchronized, a0, hEL⟩, s.vm, [], X0, Fr.nil _, e0, (State.WarmedH.refl s).since _, hZ, hown, hE, by rw [hh]; exact CHr.refl hC, hU, fun _ => State.WarmedH.refl s⟩
  obtain ⟨U, o, h1, h2, h3, h4⟩ := body p e s m below meth c s₁ X
  refine ⟨U, o, ?_, h2, h3, h4⟩
  rw [ef m]; exact h1

theorem leave0 (X : St p l e R s m args below meth c own bytes maxL ret nm Z EL nw us T h cells slots) {v : Option Value} (hv : ret = none → v = none) (hc : cells ≤ kk) (hn : slots ≤ nn) (hQ : Q v h)
    {S : State} (f : ∀ fs, (∀ (f : JFrame) (acts : List Action), f.method = m → f.locked = none → f.entered = [] → (doReturn e (T.setTop f) acts v).1 = T.setFrames fs) → Steps p.tables e below S (T.setFrames fs)) :
    Goes p e below s Z EL nw Q kk nn S := by
  obtain ⟨⟨h1, h2, h3, h4, h5, h6, a0', hEL⟩, vm0, locs, Y, N, eT, hS, hZ, hown, hE, hC, hU, hW⟩ := X
  have Y' := Y.mono hc hn
  obtain ⟨fs, g1, g2, g3, g4⟩ := Y'.leaveW hS (Nat.le_of_eq (by rw [eT])) (v := v) (fun q => hv (h4 ▸ q)) h6
  have hal : CHr Z EL s.vm s.heap (T.setFrames fs).vm (T.setFrames fs).heap := by
    show CHr Z EL s.vm s.heap T.vm T.heap
    rw [eT]
    exact hC.trans (CHv.at Y hZ hEL hC.1)
  exact ⟨_, _, f fs g1, g2, g3, v, locs, rfl, by show Q v T.heap; rw [eT]; exact hQ, N, by show Ext Z.heap T.heap; rw [eT]; exact hE, hal, g4, fun q => State.WarmedH.trans (t := s.setVm vm0) (hW q) Y.warmed⟩
end Base
section Ops
variable {p : Program} {l : Launch} {e : Env} {R : Room} {s : State} {m : MethodId} {args : Array Value} {below : List Frame} {meth : Method} {c : Code}
  {own : String} {bytes : ByteArray} {maxL : Nat} {ret : Option FieldType} {nm : String} {Z : State} {EL : List (String × Nat)} {nw : Bool} {us : List Addr}
  {T : State} {h : Heap} {cells slots : Nat} {Q : Option Value → Heap → Prop} {kk nn : Nat} {a0 : Array Value} {pc : Nat} {Ls : Array Slot} {st : List Value}
theorem g_aload (X : St p l e R s m args below meth c own bytes maxL ret nm Z EL nw us T h cells slots) {k : Nat} {v : Value} (hd : decode bytes pc = .ok (.aload k, 2)) (hl : Ls[k]? = some (.val v)) (hv : v.isRef = true) (pc' : Nat) (hp : pc + 2 = pc')
    (K : Goes p e below s Z EL nw Q kk nn (T.setTop (mkF m pc' Ls (v :: st)))) : Goes p e below s Z EL nw Q kk nn (T.setTop (mkF m pc Ls (st))) := by
  subst hp
  exact K.step fun t k => XS.aload X.at X.hx rfl (hb X.by hd) hl hv k

theorem g_aloadN (X : St p l e R s m args below meth c own bytes maxL ret nm Z EL nw us T h cells slots) {k : Fin 4} {v : Value} (hd : decode bytes pc = .ok (.aload_n k, 1)) (hl : Ls[k.val]? = some (.val v)) (hv : v.isRef = true) (pc' : Nat) (hp : pc + 1 = pc')
    (K : Goes p e below s Z EL nw Q kk nn (T.setTop (mkF m pc' Ls (v :: st)))) : Goes p e below s Z EL nw Q kk nn (T.setTop (mkF m pc Ls (st))) := by
  subst hp
  exact K.step fun t k => XS.aloadN X.at X.hx rfl (hb X.by hd) hl hv k

theorem g_iload (X : St p l e R s m args below meth c own bytes maxL ret nm Z EL nw us T h cells slots) {k : Nat} {v : Int32} (hd : decode bytes pc = .ok (.iload k, 2)) (hl : Ls[k]? = some (.val (.int v))) (pc' : Nat) (hp : pc + 2 = pc')
    (K : Goes p e below s Z EL nw Q kk nn (T.setTop (mkF m pc' Ls (.int v :: st)))) : Goes p e below s Z EL nw Q kk nn (T.setTop (mkF m pc Ls (st))) := by
  subst hp
  exact K.step fun t k => XS.iload X.at X.hx rfl (hb X.by hd) hl k

theorem g_iloadN (X : St p l e R s m args below meth c own bytes maxL ret nm Z EL nw us T h cells slots) {k : Fin 4} {v : Int32} (hd : decode bytes pc = .ok (.iload_n k, 1)) (hl : Ls[k.val]? = some (.val (.int v))) (pc' : Nat) (hp : pc + 1 = pc')
    (K : Goes p e below s Z EL nw Q kk nn (T.setTop (mkF m pc' Ls (.int v :: st)))) : Goes p e below s Z EL nw Q kk nn (T.setTop (mkF m pc Ls (st))) := by
  subst hp
  exact K.step fun t k => XS.iloadN X.at X.hx rfl (hb X.by hd) hl k

theorem g_istore (X : St p l e R s m args below meth c own bytes maxL ret nm Z EL nw us T h cells slots) {k : Nat} {x : Int32} {Ls' : Array Slot} (hd : decode bytes pc = .ok (.istore k, 2)) (hl : storeLocals Ls k (.int x) = some Ls') (pc' : Nat) (hp : pc + 2 = pc')
    (K : Goes p e below s Z EL nw Q kk nn (T.setTop (mkF m pc' Ls' (st)))) : Goes p e below s Z EL nw Q kk nn (T.setTop (mkF m pc Ls (.int x :: st))) := by
  subst hp
  exact K.step fun t k => XS.istore X.at X.hx rfl (hb X.by hd) rfl hl k

theorem g_istoreN (X : St p l e R s m args below meth c own bytes maxL ret nm Z EL nw us T h cells slots) {k : Fin 4} {x : Int32} {Ls' : Array Slot} (hd : decode bytes pc = .ok (.istore_n k, 1)) (hl : storeLocals Ls k.val (.int x) = some Ls') (pc' : Nat) (hp : pc + 1 = pc')
    (K : Goes p e below s Z EL nw Q kk nn (T.setTop (mkF m pc' Ls' (st)))) : Goes p e below s Z EL nw Q kk nn (T.setTop (mkF m pc Ls (.int x :: st))) := by
  subst hp
  exact K.step fun t k => XS.istoreN X.at X.hx rfl (hb X.by hd) rfl hl k

theorem g_astore (X : St p l e R s m args below meth c own bytes maxL ret nm Z EL nw us T h cells slots) {k : Nat} {x : Value} {Ls' : Array Slot} (hd : decode bytes pc = .ok (.astore k, 2)) (hv : x.isRef = true) (hl : storeLocals Ls k x = some Ls') (pc' : Nat) (hp : pc + 2 = pc')
    (K : Goes p e below s Z EL nw Q kk nn (T.setTop (mkF m pc' Ls' (st)))) : Goes p e below s Z EL nw Q kk nn (T.setTop (mkF m pc Ls (x :: st))) := by
  subst hp
  exact K.step fun t k => XS.astore X.at X.hx rfl (hb X.by hd) rfl hv hl k

theorem g_astoreN (X : St p l e R s m args below meth c own bytes maxL ret nm Z EL nw us T h cells slots) {k : Fin 4} {x : Value} {Ls' : Array Slot} (hd : decode bytes pc = .ok (.astore_n k, 1)) (hv : x.isRef = true) (hl : storeLocals Ls k.val x = some Ls') (pc' : Nat) (hp : pc + 1 = pc')
    (K : Goes p e below s Z EL nw Q kk nn (T.setTop (mkF m pc' Ls' (st)))) : Goes p e below s Z EL nw Q kk nn (T.setTop (mkF m pc Ls (x :: st))) := by
  subst hp
  exact K.step fun t k => XS.astoreN X.at X.hx rfl (hb X.by hd) rfl hv hl k

theorem g_iconst (X : St p l e R s m args below meth c own bytes maxL ret nm Z EL nw us T h cells slots) {i : Int} (w : Int32) (hd : decode bytes pc = .ok (.iconst i, 1)) (hw : Int32.ofInt i = w) (pc' : Nat) (hp : pc + 1 = pc')
    (K : Goes p e below s Z EL nw Q kk nn (T.setTop (mkF m pc' Ls (.int w :: st)))) : Goes p e below s Z EL nw Q kk nn (T.setTop (mkF m pc Ls (st))) := by
  subst hp
  exact K.step fun t k => XS.iconst X.at X.hx rfl (hb X.by hd) (by rw [hw]; exact k)

theorem g_bipush (X : St p l e R s m args below meth c own bytes maxL ret nm Z EL nw us T h cells slots) {i : Int} (w : Int32) (hd : decode bytes pc = .ok (.bipush i, 2)) (hw : (Int8.ofInt i).toInt32 = w) (pc' : Nat) (hp : pc + 2 = pc')
    (K : Goes p e below s Z EL nw Q kk nn (T.setTop (mkF m pc' Ls (.int w :: st)))) : Goes p e below s Z EL nw Q kk nn (T.setTop (mkF m pc Ls (st))) := by
  subst hp
  exact K.step fun t k => XS.bipush X.at X.hx rfl (hb X.by hd) (by rw [hw]; exact k)

theorem g_sipush (X : St p l e R s m args below meth c own bytes maxL ret nm Z EL nw us T h cells slots) {i : Int} (w : Int32) (hd : decode bytes pc = .ok (.sipush i, 3)) (hw : (Int16.ofInt i).toInt32 = w) (pc' : Nat) (hp : pc + 3 = pc')
    (K : Goes p e below s Z EL nw Q kk nn (T.setTop (mkF m pc' Ls (.int w :: st)))) : Goes p e below s Z EL nw Q kk nn (T.setTop (mkF m pc Ls (st))) := by
  subst hp
  exact K.step fun t k => XS.sipush X.at X.hx rfl (hb X.by hd) (by rw [hw]; exact k)

theorem g_aconstNull (X : St p l e R s m args below meth c own bytes maxL ret nm Z EL nw us T h cells slots)  (hd : decode bytes pc = .ok (.aconst_null, 1))  (pc' : Nat) (hp : pc + 1 = pc')
    (K : Goes p e below s Z EL nw Q kk nn (T.setTop (mkF m pc' Ls (.null :: st)))) : Goes p e below s Z EL nw Q kk nn (T.setTop (mkF m pc Ls (st))) := by
  subst hp
  exact K.step fun t k => XS.aconstNull X.at X.hx rfl (hb X.by hd) k

theorem g_iadd (X : St p l e R s m args below meth c own bytes maxL ret nm Z EL nw us T h cells slots) {x y : Int32} (hd : decode bytes pc = .ok (.iadd, 1)) (w : Int32) (hw : x + y = w) (pc' : Nat) (hp : pc + 1 = pc')
    (K : Goes p e below s Z EL nw Q kk nn (T.setTop (mkF m pc' Ls (.int w :: st)))) : Goes p e below s Z EL nw Q kk nn (T.setTop (mkF m pc Ls (.int y :: .int x :: st))) := by
  subst hp
  exact K.step fun t k => XS.iadd X.at X.hx rfl (hb X.by hd) rfl (by rw [hw]; exact k)

theorem g_isub (X : St p l e R s m args below meth c own bytes maxL ret nm Z EL nw us T h cells slots) {x y : Int32} (hd : decode bytes pc = .ok (.isub, 1)) (w : Int32) (hw : x - y = w) (pc' : Nat) (hp : pc + 1 = pc')
    (K : Goes p e below s Z EL nw Q kk nn (T.setTop (mkF m pc' Ls (.int w :: st)))) : Goes p e below s Z EL nw Q kk nn (T.setTop (mkF m pc Ls (.int y :: .int x :: st))) := by
  subst hp
  exact K.step fun t k => XS.isub X.at X.hx rfl (hb X.by hd) rfl (by rw [hw]; exact k)

theorem g_iand (X : St p l e R s m args below meth c own bytes maxL ret nm Z EL nw us T h cells slots) {x y : Int32} (hd : decode bytes pc = .ok (.iand, 1)) (w : Int32) (hw : x &&& y = w) (pc' : Nat) (hp : pc + 1 = pc')
    (K : Goes p e below s Z EL nw Q kk nn (T.setTop (mkF m pc' Ls (.int w :: st)))) : Goes p e below s Z EL nw Q kk nn (T.setTop (mkF m pc Ls (.int y :: .int x :: st))) := by
  subst hp
  exact K.step fun t k => XS.iand X.at X.hx rfl (hb X.by hd) rfl (by rw [hw]; exact k)

theorem g_imul (X : St p l e R s m args below meth c own bytes maxL ret nm Z EL nw us T h cells slots) {x y : Int32} (hd : decode bytes pc = .ok (.imul, 1)) (w : Int32) (hw : x * y = w) (pc' : Nat) (hp : pc + 1 = pc')
    (K : Goes p e below s Z EL nw Q kk nn (T.setTop (mkF m pc' Ls (.int w :: st)))) : Goes p e below s Z EL nw Q kk nn (T.setTop (mkF m pc Ls (.int y :: .int x :: st))) := by
  subst hp
  exact K.step fun t k => XS.imul X.at X.hx rfl (hb X.by hd) rfl (by rw [hw]; exact k)

theorem g_ixor (X : St p l e R s m args below meth c own bytes maxL ret nm Z EL nw us T h cells slots) {x y : Int32} (hd : decode bytes pc = .ok (.ixor, 1)) (w : Int32) (hw : x ^^^ y = w) (pc' : Nat) (hp : pc + 1 = pc')
    (K : Goes p e below s Z EL nw Q kk nn (T.setTop (mkF m pc' Ls (.int w :: st)))) : Goes p e below s Z EL nw Q kk nn (T.setTop (mkF m pc Ls (.int y :: .int x :: st))) := by
  subst hp
  exact K.step fun t k => XT.ixor X.at X.hx rfl (hb X.by hd) rfl (by rw [hw]; exact k)

theorem g_ior (X : St p l e R s m args below meth c own bytes maxL ret nm Z EL nw us T h cells slots) {x y : Int32} (hd : decode bytes pc = .ok (.ior, 1)) (w : Int32) (hw : x ||| y = w) (pc' : Nat) (hp : pc + 1 = pc')
    (K : Goes p e below s Z EL nw Q kk nn (T.setTop (mkF m pc' Ls (.int w :: st)))) : Goes p e below s Z EL nw Q kk nn (T.setTop (mkF m pc Ls (.int y :: .int x :: st))) := by
  subst hp
  exact K.step fun t k => XT.ior X.at X.hx rfl (hb X.by hd) rfl (by rw [hw]; exact k)

theorem g_irem (X : St p l e R s m args below meth c own bytes maxL ret nm Z EL nw us T h cells slots) {x y : Int32} (hd : decode bytes pc = .ok (.irem, 1)) (hy : y ≠ 0) (w : Int32) (hw : x % y = w) (pc' : Nat) (hp : pc + 1 = pc')
    (K : Goes p e below s Z EL nw Q kk nn (T.setTop (mkF m pc' Ls (.int w :: st)))) : Goes p e below s Z EL nw Q kk nn (T.setTop (mkF m pc Ls (.int y :: .int x :: st))) := by
  subst hp hw
  obtain ⟨vm0, locs, Y⟩ := X.std
  exact K.step fun t k => iremM Y X.hx rfl (hb X.by hd) rfl hy k

theorem g_idiv (X : St p l e R s m args below meth c own bytes maxL ret nm Z EL nw us T h cells slots) {x y : Int32} (hd : decode bytes pc = .ok (.idiv, 1)) (hy : y ≠ 0) (w : Int32) (hw : x / y = w) (pc' : Nat) (hp : pc + 1 = pc')
    (K : Goes p e below s Z EL nw Q kk nn (T.setTop (mkF m pc' Ls (.int w :: st)))) : Goes p e below s Z EL nw Q kk nn (T.setTop (mkF m pc Ls (.int y :: .int x :: st))) := by
  subst hp
  exact K.step fun t k => XS.idiv X.at X.hx rfl (hb X.by hd) rfl hy (by rw [hw]; exact k)

theorem g_ineg (X : St p l e R s m args below meth c own bytes maxL ret nm Z EL nw us T h cells slots) {x : Int32} (hd : decode bytes pc = .ok (.ineg, 1)) (w : Int32) (hw : -x = w) (pc' : Nat) (hp : pc + 1 = pc')
    (K : Goes p e below s Z EL nw Q kk nn (T.setTop (mkF m pc' Ls (.int w :: st)))) : Goes p e below s Z EL nw Q kk nn (T.setTop (mkF m pc Ls (.int x :: st))) := by
  subst hp
  exact K.step fun t k => XS.ineg X.at X.hx rfl (hb X.by hd) rfl (by rw [hw]; exact k)

theorem g_iushr (X : St p l e R s m args below meth c own bytes maxL ret nm Z EL nw us T h cells slots) {x y : Int32} (hd : decode bytes pc = .ok (.iushr, 1)) (w : Int32) (hw : XT.ushr x y = w) (pc' : Nat) (hp : pc + 1 = pc')
    (K : Goes p e below s Z EL nw Q kk nn (T.setTop (mkF m pc' Ls (.int w :: st)))) : Goes p e below s Z EL nw Q kk nn (T.setTop (mkF m pc Ls (.int y :: .int x :: st))) := by
  subst hp
  exact K.step fun t k => XT.iushr X.at X.hx rfl (hb X.by hd) rfl (by rw [hw]; exact k)

theorem g_ishr (X : St p l e R s m args below meth c own bytes maxL ret nm Z EL nw us T h cells slots) {x y : Int32} (hd : decode bytes pc = .ok (.ishr, 1)) (w : Int32) (hw : x >>> (y &&& 31) = w) (pc' : Nat) (hp : pc + 1 = pc')
    (K : Goes p e below s Z EL nw Q kk nn (T.setTop (mkF m pc' Ls (.int w :: st)))) : Goes p e below s Z EL nw Q kk nn (T.setTop (mkF m pc Ls (.int y :: .int x :: st))) := by
  subst hp
  exact K.step fun t k => XT.ishr X.at X.hx rfl (hb X.by hd) rfl (by rw [hw]; exact k)

theorem g_ishl (X : St p l e R s m args below meth c own bytes maxL ret nm Z EL nw us T h cells slots) {x y : Int32} (hd : decode bytes pc = .ok (.ishl, 1)) (w : Int32) (hw : x <<< (y &&& 31) = w) (pc' : Nat) (hp : pc + 1 = pc')
    (K : Goes p e below s Z EL nw Q kk nn (T.setTop (mkF m pc' Ls (.int w :: st)))) : Goes p e below s Z EL nw Q kk nn (T.setTop (mkF m pc Ls (.int y :: .int x :: st))) := by
  subst hp
  exact K.step fun t k => XT.ishl X.at X.hx rfl (hb X.by hd) rfl (by rw [hw]; exact k)

theorem g_i2c (X : St p l e R s m args below meth c own bytes maxL ret nm Z EL nw us T h cells slots) {x : Int32} (hd : decode bytes pc = .ok (.i2c, 1)) (w : Int32) (hw : x.toUInt32.toUInt16.toUInt32.toInt32 = w) (pc' : Nat) (hp : pc + 1 = pc')
    (K : Goes p e below s Z EL nw Q kk nn (T.setTop (mkF m pc' Ls (.int w :: st)))) : Goes p e below s Z EL nw Q kk nn (T.setTop (mkF m pc Ls (.int x :: st))) := by
  subst hp
  exact K.step fun t k => XT.i2c X.at X.hx rfl (hb X.by hd) rfl (by rw [hw]; exact k)

theorem g_i2b (X : St p l e R s m args below meth c own bytes maxL ret nm Z EL nw us T h cells slots) {x : Int32} (hd : decode bytes pc = .ok (.i2b, 1)) (w : Int32) (hw : x.toInt8.toInt32 = w) (pc' : Nat) (hp : pc + 1 = pc')
    (K : Goes p e below s Z EL nw Q kk nn (T.setTop (mkF m pc' Ls (.int w :: st)))) : Goes p e below s Z EL nw Q kk nn (T.setTop (mkF m pc Ls (.int x :: st))) := by
  subst hp
  exact K.step fun t k => XT.i2b X.at X.hx rfl (hb X.by hd) rfl (by rw [hw]; exact k)

theorem g_i2l (X : St p l e R s m args below meth c own bytes maxL ret nm Z EL nw us T h cells slots) {x : Int32} (hd : decode bytes pc = .ok (.i2l, 1)) (w : Int64) (hw : x.toInt64 = w) (pc' : Nat) (hp : pc + 1 = pc')
    (K : Goes p e below s Z EL nw Q kk nn (T.setTop (mkF m pc' Ls (.long w :: st)))) : Goes p e below s Z EL nw Q kk nn (T.setTop (mkF m pc Ls (.int x :: st))) := by
  subst hp
  exact K.step fun t k => XT.i2l X.at X.hx rfl (hb X.by hd) rfl (by rw [hw]; exact k)

theorem g_lsub (X : St p l e R s m args below meth c own bytes maxL ret nm Z EL nw us T h cells slots) {x y : Int64} (hd : decode bytes pc = .ok (.lsub, 1)) (w : Int64) (hw : x - y = w) (pc' : Nat) (hp : pc + 1 = pc')
    (K : Goes p e below s Z EL nw Q kk nn (T.setTop (mkF m pc' Ls (.long w :: st)))) : Goes p e below s Z EL nw Q kk nn (T.setTop (mkF m pc Ls (.long y :: .long x :: st))) := by
  subst hp
  exact K.step fun t k => XT.lsub X.at X.hx rfl (hb X.by hd) rfl (by rw [hw]; exact k)

theorem g_lcmp (X : St p l e R s m args below meth c own bytes maxL ret nm Z EL nw us T h cells slots) {x y : Int64} (hd : decode bytes pc = .ok (.lcmp, 1)) (w : Int32) (hw : XT.cmpL x y = w) (pc' : Nat) (hp : pc + 1 = pc')
    (K : Goes p e below s Z EL nw Q kk nn (T.setTop (mkF m pc' Ls (.int w :: st)))) : Goes p e below s Z EL nw Q kk nn (T.setTop (mkF m pc Ls (.long y :: .long x :: st))) := by
  subst hp
  exact K.step fun t k => XT.lcmp X.at X.hx rfl (hb X.by hd) rfl (by rw [hw]; exact k)

theorem g_dup (X : St p l e R s m args below meth c own bytes maxL ret nm Z EL nw us T h cells slots) {x : Value} (hd : decode bytes pc = .ok (.dup, 1)) (hc : x.category = 1) (pc' : Nat) (hp : pc + 1 = pc')
    (K : Goes p e below s Z EL nw Q kk nn (T.setTop (mkF m pc' Ls (x :: x :: st)))) : Goes p e below s Z EL nw Q kk nn (T.setTop (mkF m pc Ls (x :: st))) := by
  subst hp
  exact K.step fun t k => XS.dup X.at X.hx rfl (hb X.by hd) rfl hc k

theorem g_pop (X : St p l e R s m args below meth c own bytes maxL ret nm Z EL nw us T h cells slots) {x : Value} (hd : decode bytes pc = .ok (.pop, 1)) (hc : x.category = 1) (pc' : Nat) (hp : pc + 1 = pc')
    (K : Goes p e below s Z EL nw Q kk nn (T.setTop (mkF m pc' Ls (st)))) : Goes p e below s Z EL nw Q kk nn (T.setTop (mkF m pc Ls (x :: st))) := by
  subst hp
  exact K.step fun t k => XT.pop X.at X.hx rfl (hb X.by hd) rfl hc k

theorem g_iinc (X : St p l e R s m args below meth c own bytes maxL ret nm Z EL nw us T h cells slots) {k : Nat} {i : Int} {x : Int32} {Ls' : Array Slot} (hd : decode bytes pc = .ok (.iinc k i, 3)) (hl : Ls[k]? = some (.val (.int x))) (w : Int32) (hw : x + Int32.ofInt i = w) (hl' : storeLocals Ls k (.int w) = some Ls') (pc' : Nat) (hp : pc + 3 = pc')
    (K : Goes p e below s Z EL nw Q kk nn (T.setTop (mkF m pc' Ls' (st)))) : Goes p e below s Z EL nw Q kk nn (T.setTop (mkF m pc Ls (st))) := by
  subst hp
  exact K.step fun t k => XS.iinc X.at X.hx rfl (hb X.by hd) hl (by rw [hw]; exact hl') k

theorem g_ifNo (X : St p l e R s m args below meth c own bytes maxL ret nm Z EL nw us T h cells slots) {cd : ClassFile.Cond} {o : Int} {x : Int32} (hd : decode bytes pc = .ok (.ifCond cd o, 3)) (hc : if_icmp.holds cd x 0 = false) (pc' : Nat) (hp : pc + 3 = pc')
    (K : Goes p e below s Z EL nw Q kk nn (T.setTop (mkF m pc' Ls (st)))) : Goes p e below s Z EL nw Q kk nn (T.setTop (mkF m pc Ls (.int x :: st))) := by
  subst hp
  exact K.step fun t k => XS.ifNo X.at X.hx rfl (hb X.by hd) rfl ((if0 cd x).trans hc) k

theorem g_icmpNo (X : St p l e R s m args below meth c own bytes maxL ret nm Z EL nw us T h cells slots) {cd : ClassFile.Cond} {o : Int} {x y : Int32} (hd : decode bytes pc = .ok (.if_icmp cd o, 3)) (hc : if_icmp.holds cd x y = false) (pc' : Nat) (hp : pc + 3 = pc')
    (K : Goes p e below s Z EL nw Q kk nn (T.setTop (mkF m pc' Ls (st)))) : Goes p e below s Z EL nw Q kk nn (T.setTop (mkF m pc Ls (.int y :: .int x :: st))) := by
  subst hp
  exact K.step fun t k => XS.icmpNo X.at X.hx rfl (hb X.by hd) rfl hc k

theorem g_ifnullNo (X : St p l e R s m args below meth c own bytes maxL ret nm Z EL nw us T h cells slots) {o : Int} {b : Addr} (hd : decode bytes pc = .ok (.ifnull o, 3))  (pc' : Nat) (hp : pc + 3 = pc')
    (K : Goes p e below s Z EL nw Q kk nn (T.setTop (mkF m pc' Ls (st)))) : Goes p e below s Z EL nw Q kk nn (T.setTop (mkF m pc Ls (.ref b :: st))) := by
  subst hp
  exact K.step fun t k => XS.ifnullNo X.at X.hx rfl (hb X.by hd) rfl k

theorem g_ifnonnullNo (X : St p l e R s m args below meth c own bytes maxL ret nm Z EL nw us T h cells slots) {o : Int} (hd : decode bytes pc = .ok (.ifnonnull o, 3))  (pc' : Nat) (hp : pc + 3 = pc')
    (K : Goes p e below s Z EL nw Q kk nn (T.setTop (mkF m pc' Ls (st)))) : Goes p e below s Z EL nw Q kk nn (T.setTop (mkF m pc Ls (.null :: st))) := by
  subst hp
  exact K.step fun t k => XT.ifnonnullNo X.at X.hx rfl (hb X.by hd) rfl k

theorem g_acmpNo (X : St p l e R s m args below meth c own bytes maxL ret nm Z EL nw us T h cells slots) {cd : ClassFile.ACond} {o : Int} {x y : Value} (hd : decode bytes pc = .ok (.if_acmp cd o, 3)) (hx' : x.isRef = true) (hy' : y.isRef = true) (hc : XT.acmp cd x y = false) (pc' : Nat) (hp : pc + 3 = pc')
    (K : Goes p e below s Z EL nw Q kk nn (T.setTop (mkF m pc' Ls (st)))) : Goes p e below s Z EL nw Q kk nn (T.setTop (mkF m pc Ls (y :: x :: st))) := by
  subst hp
  exact K.step fun t k => XT.acmpNo X.at X.hx rfl (hb X.by hd) rfl hx' hy' hc k

theorem g_goto (X : St p l e R s m args below meth c own bytes maxL ret nm Z EL nw us T h cells slots)  {o : Int} (hd : decode bytes pc = .ok (.goto o, 3))  (pc' : Nat) (ho : 0 ≤ (pc : Int) + o) (hp : ((pc : Int) + o).toNat = pc')
    (K : Goes p e below s Z EL nw Q kk nn (T.setTop (mkF m pc' Ls (st)))) : Goes p e below s Z EL nw Q kk nn (T.setTop (mkF m pc Ls (st))) :=
  K.step fun t k => XS.goto X.at X.hx rfl (pc0 := pc) rfl (hb X.by hd) ho hp k

theorem g_ifYes (X : St p l e R s m args below meth c own bytes maxL ret nm Z EL nw us T h cells slots) {cd : ClassFile.Cond} {x : Int32} {o : Int} (hd : decode bytes pc = .ok (.ifCond cd o, 3)) (hc : if_icmp.holds cd x 0 = true) (pc' : Nat) (ho : 0 ≤ (pc : Int) + o) (hp : ((pc : Int) + o).toNat = pc')
    (K : Goes p e below s Z EL nw Q kk nn (T.setTop (mkF m pc' Ls (st)))) : Goes p e below s Z EL nw Q kk nn (T.setTop (mkF m pc Ls (.int x :: st))) :=
  K.step fun t k => XS.ifYes X.at X.hx rfl (pc0 := pc) rfl (hb X.by hd) rfl ((if0 cd x).trans hc) ho hp k

theorem g_icmpYes (X : St p l e R s m args below meth c own bytes maxL ret nm Z EL nw us T h cells slots) {cd : ClassFile.Cond} {x y : Int32} {o : Int} (hd : decode bytes pc = .ok (.if_icmp cd o, 3)) (hc : if_icmp.holds cd x y = true) (pc' : Nat) (ho : 0 ≤ (pc : Int) + o) (hp : ((pc : Int) + o).toNat = pc')
    (K : Goes p e below s Z EL nw Q kk nn (T.setTop (mkF m pc' Ls (st)))) : Goes p e below s Z EL nw Q kk nn (T.setTop (mkF m pc Ls (.int y :: .int x :: st))) :=
  K.step fun t k => XS.icmpYes X.at X.hx rfl (pc0 := pc) rfl (hb X.by hd) rfl hc ho hp k

theorem g_ifnullYes (X : St p l e R s m args below meth c own bytes maxL ret nm Z EL nw us T h cells slots)  {o : Int} (hd : decode bytes pc = .ok (.ifnull o, 3))  (pc' : Nat) (ho : 0 ≤ (pc : Int) + o) (hp : ((pc : Int) + o).toNat = pc')
    (K : Goes p e below s Z EL nw Q kk nn (T.setTop (mkF m pc' Ls (st)))) : Goes p e below s Z EL nw Q kk nn (T.setTop (mkF m pc Ls (.null :: st))) :=
  K.step fun t k => XS.ifnullYes X.at X.hx rfl (pc0 := pc) rfl (hb X.by hd) rfl ho hp k

theorem g_ifnonnullYes (X : St p l e R s m args below meth c own bytes maxL ret nm Z EL nw us T h cells slots) {b : Addr} {o : Int} (hd : decode bytes pc = .ok (.ifnonnull o, 3))  (pc' : Nat) (ho : 0 ≤ (pc : Int) + o) (hp : ((pc : Int) + o).toNat = pc')
    (K : Goes p e below s Z EL nw Q kk nn (T.setTop (mkF m pc' Ls (st)))) : Goes p e below s Z EL nw Q kk nn (T.setTop (mkF m pc Ls (.ref b :: st))) :=
  K.step fun t k => XT.ifnonnullYes X.at X.hx rfl (pc0 := pc) rfl (hb X.by hd) rfl ho hp k

theorem g_acmpYes (X : St p l e R s m args below meth c own bytes maxL ret nm Z EL nw us T h cells slots) {cd : ClassFile.ACond} {x y : Value} {o : Int} (hd : decode bytes pc = .ok (.if_acmp cd o, 3)) (hx' : x.isRef = true) (hy' : y.isRef = true) (hc : XT.acmp cd x y = true) (pc' : Nat) (ho : 0 ≤ (pc : Int) + o) (hp : ((pc : Int) + o).toNat = pc')
    (K : Goes p e below s Z EL nw Q kk nn (T.setTop (mkF m pc' Ls (st)))) : Goes p e below s Z EL nw Q kk nn (T.setTop (mkF m pc Ls (y :: x :: st))) :=
  K.step fun t k => XT.acmpYes X.at X.hx rfl (pc0 := pc) rfl (hb X.by hd) rfl hx' hy' hc ho hp k
end Ops
section Rets
variable {p : Program} {l : Launch} {e : Env} {R : Room} {s : State} {m : MethodId} {args : Array Value} {below : List Frame} {meth : Method} {c : Code}
  {own : String} {bytes : ByteArray} {maxL : Nat} {ret : Option FieldType} {nm : String} {Z : State} {EL : List (String × Nat)} {nw : Bool} {us : List Addr}
  {T : State} {h : Heap} {cells slots : Nat} {Q : Option Value → Heap → Prop} {kk nn : Nat} {a0 : Array Value} {pc : Nat} {Ls : Array Slot} {st : List Value}

theorem g_retN (X : St p l e R s m args below meth c own bytes maxL ret nm Z EL nw us T h cells slots) {z : Int32} {t : FieldType} {rest : List Value} (hret : ret = some t) (ht : t = .boolean ∨ t = .byte ∨ t = .char ∨ t = .short) (hd : decode bytes pc = .ok (.ireturn, 1)) (w : Int32) (hw : nar t z = w) (hc : cells ≤ kk) (hn : slots ≤ nn) (hQ : Q (some (.int w)) h) :
    Goes p e below s Z EL nw Q kk nn (T.setTop (mkF m pc Ls (.int z :: rest))) := by
  subst hw
  have h4 := X.1.2.2.2.1
  exact leave0 X (fun q => by rw [hret] at q; cases q) hc hn hQ fun fs g1 => by
    obtain ⟨vm0, locs, Y⟩ := X.std
    exact retN Y X.hx (h4.trans hret) ht (hb X.by hd) g1
theorem g_retI (X : St p l e R s m args below meth c own bytes maxL ret nm Z EL nw us T h cells slots) {z : Int32} {rest : List Value} (hret : ret = some .int) (hd : decode bytes pc = .ok (.ireturn, 1)) (hc : cells ≤ kk) (hn : slots ≤ nn) (hQ : Q (some (.int z)) h) :
    Goes p e below s Z EL nw Q kk nn (T.setTop (mkF m pc Ls (.int z :: rest))) := by
  have h4 := X.1.2.2.2.1
  exact leave0 X (fun q => by rw [hret] at q; cases q) hc hn hQ fun fs g1 => by
    obtain ⟨vm0, locs, Y⟩ := X.std
    exact retOut Y X.hx (h4.trans hret) rfl (Or.inl ⟨rfl, Or.inl rfl, z, rfl⟩) (hb X.by hd) g1
theorem g_retA (X : St p l e R s m args below meth c own bytes maxL ret nm Z EL nw us T h cells slots) {w : Value} {t : FieldType} {rest : List Value} (hret : ret = some t) (ht : t.isReference = true) (hw : w.isRef = true) (hd : decode bytes pc = .ok (.areturn, 1)) (hc : cells ≤ kk) (hn : slots ≤ nn) (hQ : Q (some w) h) :
    Goes p e below s Z EL nw Q kk nn (T.setTop (mkF m pc Ls (w :: rest))) := by
  have h4 := X.1.2.2.2.1
  have hnar : narrow t w = w := by
    rcases ref_cases hw with rfl | ⟨a, rfl⟩ <;> cases t <;> first | rfl | simp [FieldType.isReference] at ht
  exact leave0 X (fun q => by rw [hret] at q; cases q) hc hn hQ fun fs g1 => by
    obtain ⟨vm0, locs, Y⟩ := X.std
    exact retOut Y X.hx (h4.trans hret) hnar (Or.inr (Or.inr (Or.inr (Or.inr ⟨rfl, ht, hw⟩)))) (hb X.by hd) g1
theorem g_ret (X : St p l e R s m args below meth c own bytes maxL ret nm Z EL nw us T h cells slots) (hret : ret = none) (hd : decode bytes pc = .ok (.return_, 1)) (hc : cells ≤ kk) (hn : slots ≤ nn) (hQ : Q none h) :
    Goes p e below s Z EL nw Q kk nn (T.setTop (mkF m pc Ls [])) := by
  have h4 := X.1.2.2.2.1
  exact leave0 X (fun _ => rfl) hc hn hQ fun fs g1 => by
    obtain ⟨vm0, locs, Y⟩ := X.std
    exact Y.returnOut X.hx (h4.trans hret) (hb X.by hd) g1
end Rets
section HeapOps
variable {p : Program} {l : Launch} {e : Env} {R : Room} {s : State} {m : MethodId} {args : Array Value} {below : List Frame} {meth : Method} {c : Code}
  {own : String} {bytes : ByteArray} {maxL : Nat} {ret : Option FieldType} {nm : String} {Z : State} {EL : List (String × Nat)} {nw : Bool} {us : List Addr}
  {T : State} {h : Heap} {cells slots : Nat} {Q : Option Value → Heap → Prop} {kk nn : Nat} {a0 : Array Value} {pc : Nat} {Ls : Array Slot} {st : List Value}

theorem g_ldcI (X : St p l e R s m args below meth c own bytes maxL ret nm Z EL nw us T h cells slots) {ix : Nat} {v : Int32} (w : (Jvm.Cond.constant own ix v).before a0 Z = true) (hd : decode bytes pc = .ok (.ldc ix, 2)) (pc' : Nat) (hp : pc + 2 = pc')
    (K : Goes p e below s Z EL nw Q kk nn (T.setTop (mkF m pc' Ls (.int v :: st)))) : Goes p e below s Z EL nw Q kk nn (T.setTop (mkF m pc Ls st)) := by
  subst hp
  obtain ⟨cx, vm0, locs, Y, N, eT, hS, hZ, hown, r⟩ := X
  exact K.step fun t k => Y.ldcI cx.1 hown (mv (s := s.setVm vm0) hZ w) rfl (hb cx.2.1 hd) k
theorem g_getF (X : St p l e R s m args below meth c own bytes maxL ret nm Z EL nw us T h cells slots) {R0 O n d host : String} {ix : Nat} {a : Addr} {v : Value} (w : (Jvm.Cond.fieldLink own ix R0 n d).before a0 Z = true ∨ (Jvm.Cond.fieldLinkNest own ix R0 n d host).before a0 Z = true) (via : Via Z R0 O n d) (F : Fld Z h a O n d v)
    (hd : decode bytes pc = .ok (.getfield ix, 3)) (pc' : Nat) (hp : pc + 3 = pc')
    (K : ∀ T', St p l e R s m args below meth c own bytes maxL ret nm Z EL nw us T' h cells slots → Goes p e below s Z EL nw Q kk nn (T'.setTop (mkF m pc' Ls (v :: st)))) : Goes p e below s Z EL nw Q kk nn (T.setTop (mkF m pc Ls (.ref a :: st))) := by
  subst hp
  obtain ⟨cx, vm0, locs, Y, N, eT, hS, hZ, hown, r⟩ := X
  obtain ⟨T', Y', e', stp⟩ := getF Y cx.1 hZ hown w via eT F (g := mkF m pc Ls (.ref a :: st)) rfl rfl (hb cx.2.1 hd)
  exact (K T' ⟨cx, vm0, locs, Y', N, e', hS, hZ, hown, r⟩).step stp
theorem g_getS (X : St p l e R s m args below meth c own bytes maxL ret nm Z EL nw us T h cells slots) {R0 O n d host : String} {ix : Nat} {v : Value} (w : (Jvm.Cond.fieldLink own ix R0 n d).before a0 Z = true ∨ (Jvm.Cond.fieldLinkNest own ix R0 n d host).before a0 Z = true) (via : Via Z R0 O n d) (F : Sta Z h O n d v)
    (hd : decode bytes pc = .ok (.getstatic ix, 3)) (pc' : Nat) (hp : pc + 3 = pc')
    (K : ∀ T', St p l e R s m args below meth c own bytes maxL ret nm Z EL nw us T' h cells slots → Goes p e below s Z EL nw Q kk nn (T'.setTop (mkF m pc' Ls (v :: st)))) : Goes p e below s Z EL nw Q kk nn (T.setTop (mkF m pc Ls st)) := by
  subst hp
  obtain ⟨cx, vm0, locs, Y, N, eT, hS, hZ, hown, r⟩ := X
  obtain ⟨T', Y', e', stp⟩ := getS2 Y cx.1 hZ hown w via eT F (g := mkF m pc Ls st) rfl (hb cx.2.1 hd)
  exact (K T' ⟨cx, vm0, locs, Y', N, e', hS, hZ, hown, r⟩).step stp
theorem g_cast (X : St p l e R s m args below meth c own bytes maxL ret nm Z EL nw us T h cells slots) {C : String} {ix : Nat} {a : Addr} (w : (Jvm.Cond.classLink own ix C).before a0 Z = true) (F : Ins Z h a C true) (hd : decode bytes pc = .ok (.checkcast ix, 3)) (pc' : Nat) (hp : pc + 3 = pc')
    (K : ∀ T', St p l e R s m args below meth c own bytes maxL ret nm Z EL nw us T' h cells slots → Goes p e below s Z EL nw Q kk nn (T'.setTop (mkF m pc' Ls (.ref a :: st)))) : Goes p e below s Z EL nw Q kk nn (T.setTop (mkF m pc Ls (.ref a :: st))) := by
  subst hp
  obtain ⟨cx, vm0, locs, Y, N, eT, hS, hZ, hown, r⟩ := X
  obtain ⟨T', Y', e', stp⟩ := castY Y cx.1 hZ hown w eT F (g := mkF m pc Ls (.ref a :: st)) rfl rfl (hb cx.2.1 hd)
  exact (K T' ⟨cx, vm0, locs, Y', N, e', hS, hZ, hown, r⟩).step stp
theorem g_instY (X : St p l e R s m args below meth c own bytes maxL ret nm Z EL nw us T h cells slots) {C : String} {ix : Nat} {a : Addr} (w : (Jvm.Cond.classLink own ix C).before a0 Z = true) (F : Ins Z h a C true) (hd : decode bytes pc = .ok (.instanceof ix, 3)) (pc' : Nat) (hp : pc + 3 = pc')
    (K : ∀ T', St p l e R s m args below meth c own bytes maxL ret nm Z EL nw us T' h cells slots → Goes p e below s Z EL nw Q kk nn (T'.setTop (mkF m pc' Ls (.int 1 :: st)))) : Goes p e below s Z EL nw Q kk nn (T.setTop (mkF m pc Ls (.ref a :: st))) := by
  subst hp
  obtain ⟨cx, vm0, locs, Y, N, eT, hS, hZ, hown, r⟩ := X
  obtain ⟨T', Y', e', stp⟩ := instY Y cx.1 hZ hown w eT F (g := mkF m pc Ls (.ref a :: st)) rfl rfl (hb cx.2.1 hd)
  exact (K T' ⟨cx, vm0, locs, Y', N, e', hS, hZ, hown, r⟩).step stp
theorem g_instNo (X : St p l e R s m args below meth c own bytes maxL ret nm Z EL nw us T h cells slots) {C D : String} {ix : Nat} {a : Addr} (w : (Jvm.Cond.classLink own ix D).before a0 Z = true) (E : Exa Z h a C) (F : ∃ c t, Z.vm.findClass C = some c ∧ Z.vm.findClass D = some t ∧ Z.vm.assignable c t = false) (hd : decode bytes pc = .ok (.instanceof ix, 3)) (pc' : Nat) (hp : pc + 3 = pc')
    (K : ∀ T', St p l e R s m args below meth c own bytes maxL ret nm Z EL nw us T' h cells slots → Goes p e below s Z EL nw Q kk nn (T'.setTop (mkF m pc' Ls (.int 0 :: st)))) : Goes p e below s Z EL nw Q kk nn (T.setTop (mkF m pc Ls (.ref a :: st))) := by
  subst hp
  obtain ⟨cx, vm0, locs, Y, N, eT, hS, hZ, hown, r⟩ := X
  obtain ⟨T', Y', e', stp⟩ := instNo Y cx.1 hZ hown w eT E F (g := mkF m pc Ls (.ref a :: st)) rfl rfl (hb cx.2.1 hd)
  exact (K T' ⟨cx, vm0, locs, Y', N, e', hS, hZ, hown, r⟩).step stp
/-- 'new': the new object is under construction -/
theorem g_new (X : St p l e R s m args below meth c own bytes maxL ret nm Z EL nw us T h cells slots) {C : String} {ix k : Nat} (w : (Jvm.Cond.classLink own ix C).before a0 Z = true) (wi : (Jvm.Cond.instantiable C k).before a0 Z = true) (wz : (Jvm.Cond.initialized C).before a0 Z = true)
    (hd : decode bytes pc = .ok (.new ix, 3)) {ck cs : Nat} (hck : cells + 1 = ck) (hcs : slots + k = cs) (hc : ck ≤ R.cells) (hl : cs ≤ R.slots) (pc' : Nat) (hp : pc + 3 = pc')
    (K : ∀ a T' h', a = h.size → St p l e R s m args below meth c own bytes maxL ret nm Z EL nw (a :: us) T' h' ck cs → Ext h h' → Exa Z h' a C →
      (∀ {O n d : String} {ty : FieldType}, Laid Z a0 C O n d → parseFieldDescriptor d = some ty → Fld Z h' a O n d (defaultValue ty)) → Goes p e below s Z EL nw Q kk nn (T'.setTop (mkF m pc' Ls (.ref a :: st)))) : Goes p e below s Z EL nw Q kk nn (T.setTop (mkF m pc Ls st)) := by
  subst hp hck hcs
  obtain ⟨cx, vm0, locs, Y, N, eT, hS, hZ, hown, hE, hC, hU, hW⟩ := X
  obtain ⟨T', h', Y', e', E, A, D, -, stp⟩ := newO Y cx.1 hZ hown w wi wz eT (g := mkF m pc Ls st) rfl (hb cx.2.1 hd) hc hl
  refine (K h.size T' h' rfl ⟨cx, vm0, locs, Y', N, e', ⟨hS.1, hS.2.mono E.1⟩, hZ, hown, hE.trans E, hC.trans (CHr.ext E hC.1), ?_, hW⟩ E A (fun L q => D L q)).step stp
  intro x hx
  rcases List.mem_cons.mp hx with rfl | hx
  · exact ⟨hE.1, A.lt, Safe.ext E hC.1 (Safe.new (Nat.le_refl _))⟩
  · obtain ⟨q1, q2, q3⟩ := hU x hx
    exact ⟨q1, Nat.lt_of_lt_of_le q2 E.1, Safe.ext E hC.1 q3⟩
/-- an array of a primitive kind, new -/
theorem g_newP (X : St p l e R s m args below meth c own bytes maxL ret nm Z EL nw us T h cells slots) {aty : ArrayType} {z : Int32} (w : (Jvm.Cond.arrayClass (newarray.typeOf aty)).before a0 Z = true) (hd : decode bytes pc = .ok (.newarray aty, 2)) (hn : ¬ z < 0) (cap : Nat) (hcap : z.toNatClampNeg ≤ cap) (hb' : cap * 8 ≤ 536870912)
    {ck cs : Nat} (hck : cells + 1 = ck) (hcs : slots + cap = cs) (hc : ck ≤ R.cells) (hl : cs ≤ R.slots) (pc' : Nat) (hp : pc + 2 = pc')
    (K : ∀ a T' h' k, a = h.size → St p l e R s m args below meth c own bytes maxL ret nm Z EL nw (a :: us) T' h' ck cs → Ext h h' → Arv Z h' a k (newarray.typeOf aty) z [] (defaultValue (newarray.typeOf aty)) →
      Goes p e below s Z EL nw Q kk nn (T'.setTop (mkF m pc' Ls (.ref a :: st)))) : Goes p e below s Z EL nw Q kk nn (T.setTop (mkF m pc Ls (.int z :: st))) := by
  subst hp hck hcs
  obtain ⟨cx, vm0, locs, Y, N, eT, hS, hZ, hown, hE, hC, hU, hW⟩ := X
  obtain ⟨T', h', cA, Y', e', E, A, stp⟩ := newP Y cx.1 hZ w eT (g := mkF m pc Ls (.int z :: st)) rfl (hb cx.2.1 hd) rfl hn hcap hb' hc hl
  refine (K h.size T' h' cA rfl ⟨cx, vm0, locs, Y', N, e', ⟨hS.1, hS.2.mono E.1⟩, hZ, hown, hE.trans E, hC.trans (CHr.ext E hC.1), ?_, hW⟩ E (Arv.new A hn)).step stp
  intro x hx
  rcases List.mem_cons.mp hx with rfl | hx
  · exact ⟨hE.1, A.lt, Safe.ext E hC.1 (Safe.new (Nat.le_refl _))⟩
  · obtain ⟨q1, q2, q3⟩ := hU x hx
    exact ⟨q1, Nat.lt_of_lt_of_le q2 E.1, Safe.ext E hC.1 q3⟩
/-- a store's part that is common -/
theorem St.wrote {vm0 : Vm} {locs : List Loc} {T' : State} {h' : Heap} {a : Addr} {sl : Nat} {v : Value}
    (cx : p.tables.exec = Jvm.exec ∧ c.code = bytes ∧ c.maxLocals = maxL ∧ meth.sig.returnType = ret ∧ meth.name = nm ∧ meth.locks = false ∧ ∃ a0, EW Z a0 EL)
    (Y : Stand p l e R (s.setVm vm0) m args below meth c T' (locs ++ [⟨a, sl⟩]) cells slots) (N : Fr Z.heap.size locs) (eT : T'.heap = h') (hS : s.Since vm0 h.size) (hZ : Z.Warmed39 vm0) (hown : vm0.findClass own = some m.cls) (hE : Ext Z.heap h) (hC : CHr Z EL s.vm s.heap vm0 h)
    (hU : ∀ x ∈ us, Z.heap.size ≤ x ∧ x < h.size ∧ Safe Z EL vm0 h x) (hW : nw = true → s.WarmedH vm0) (W : Wr h h' a sl v) (ha : a ∈ us) : St p l e R s m args below meth c own bytes maxL ret nm Z EL nw us T' h' cells slots := by
  obtain ⟨q1, q2, q3⟩ := hU a ha
  refine ⟨cx, vm0, locs ++ [⟨a, sl⟩], Y, Fr.snoc Y N q1, eT, ⟨hS.1, hS.2.mono (Nat.le_of_eq W.size.symm)⟩, hZ, hown, ext_wr hE W q1, hC.trans (CHr.wr W q3 hC.1), fun x hx => ?_, hW⟩
  obtain ⟨r1, r2, r3⟩ := hU x hx
  exact ⟨r1, by rw [W.size]; exact r2, Safe.wr W q3 hC.1 r3⟩
theorem g_putF (X : St p l e R s m args below meth c own bytes maxL ret nm Z EL nw us T h cells slots) {R0 O n d host C : String} {ix k : Nat} {ty : FieldType} {a : Addr} {v old : Value} (w : (Jvm.Cond.fieldLink own ix R0 n d).before a0 Z = true ∨ (Jvm.Cond.fieldLinkNest own ix R0 n d host).before a0 Z = true) (via : Via Z R0 O n d) (F : Fld Z h a O n d old) (E : Exa Z h a C)
    (L : (Jvm.Cond.lays C O n d).before a0 Z = true ∨ ((Jvm.Cond.laysFinal C O n d).before a0 Z = true ∧ own = O ∧ nm = "<init>")) (wi : (Jvm.Cond.instantiable C k).before a0 Z = true) (hty : parseFieldDescriptor d = some ty) (hn : narrow ty v = v) (hf : fits ty v = true) (ha : a ∈ us)
    (hd : decode bytes pc = .ok (.putfield ix, 3)) (pc' : Nat) (hp : pc + 3 = pc')
    (K : ∀ T' h', St p l e R s m args below meth c own bytes maxL ret nm Z EL nw us T' h' cells slots → Wr h h' a (Jvm.RoadKit.slotOf Z O n d) v → Fld Z h' a O n d v → Exa Z h' a C → Goes p e below s Z EL nw Q kk nn (T'.setTop (mkF m pc' Ls st))) : Goes p e below s Z EL nw Q kk nn (T.setTop (mkF m pc Ls (v :: .ref a :: st))) := by
  subst hp
  obtain ⟨cx, vm0, locs, Y, N, eT, hS, hZ, hown, hE, hC, hU, hW⟩ := X
  have L' : (Jvm.Cond.lays C O n d).before a0 Z = true ∨ ((Jvm.Cond.laysFinal C O n d).before a0 Z = true ∧ own = O ∧ meth.name = "<init>") := by
    rcases L with L | ⟨L1, L2, L3⟩
    · exact Or.inl L
    · exact Or.inr ⟨L1, L2, by rw [cx.2.2.2.2.1]; exact L3⟩
  obtain ⟨T', h', Y', e', W, stp⟩ := putF Y cx.1 hZ hown w via eT F E L' wi hty hn hf (g := mkF m pc Ls (v :: .ref a :: st)) rfl rfl (hb cx.2.1 hd)
  exact (K T' h' (St.wrote cx Y' N e' hS hZ hown hE hC hU hW W ha) W (F.same W) (E.wr W)).step stp
theorem g_castore (X : St p l e R s m args below meth c own bytes maxL ret nm Z EL nw us T h cells slots) {a : Addr} {k : ClassId} {z j x : Int32} {vs : List Value} {dv : Value} (A : Arv Z h a k .char z vs dv) (i : Nat) (hj : j.toNatClampNeg = i) (hj0 : ¬ j < 0) (hz : j < z) (hi : i < vs.length) (w : Int32) (hw : nar .char x = w) (ha : a ∈ us)
    (hd : decode bytes pc = .ok (.castore, 1)) (pc' : Nat) (hp : pc + 1 = pc')
    (K : ∀ T' h', St p l e R s m args below meth c own bytes maxL ret nm Z EL nw us T' h' cells slots → Wr h h' a i (.int w) → Arv Z h' a k .char z (vs.set i (.int w)) dv → Goes p e below s Z EL nw Q kk nn (T'.setTop (mkF m pc' Ls st))) : Goes p e below s Z EL nw Q kk nn (T.setTop (mkF m pc Ls (.int x :: .int j :: .ref a :: st))) := by
  subst hp hj hw
  obtain ⟨cx, vm0, locs, Y, N, eT, hS, hZ, hown, hE, hC, hU, hW⟩ := X
  obtain ⟨cl, Ar, q1, Sz, q3, H, Gt⟩ := A
  obtain ⟨T', h', Y', e', W, stp⟩ := stC Y cx.1 hZ eT Ar (inb_of Sz ⟨hj0, hz⟩) (g := mkF m pc Ls (.int x :: .int j :: .ref a :: st)) rfl rfl (hb cx.2.1 hd)
  exact (K T' h' (St.wrote cx Y' N e' hS hZ hown hE hC hU hW W ha) W (Arv.set Ar q1 Sz q3 H Gt (fits_nar_char x) W _ rfl hi)).step stp
theorem g_bastore (X : St p l e R s m args below meth c own bytes maxL ret nm Z EL nw us T h cells slots) {a : Addr} {k : ClassId} {z j x : Int32} {vs : List Value} {dv : Value} (A : Arv Z h a k .byte z vs dv) (i : Nat) (hj : j.toNatClampNeg = i) (hj0 : ¬ j < 0) (hz : j < z) (hi : i < vs.length) (w : Int32) (hw : nar .byte x = w) (ha : a ∈ us)
    (hd : decode bytes pc = .ok (.bastore, 1)) (pc' : Nat) (hp : pc + 1 = pc')
    (K : ∀ T' h', St p l e R s m args below meth c own bytes maxL ret nm Z EL nw us T' h' cells slots → Wr h h' a i (.int w) → Arv Z h' a k .byte z (vs.set i (.int w)) dv → Goes p e below s Z EL nw Q kk nn (T'.setTop (mkF m pc' Ls st))) : Goes p e below s Z EL nw Q kk nn (T.setTop (mkF m pc Ls (.int x :: .int j :: .ref a :: st))) := by
  subst hp hj hw
  obtain ⟨cx, vm0, locs, Y, N, eT, hS, hZ, hown, hE, hC, hU, hW⟩ := X
  obtain ⟨cl, Ar, q1, Sz, q3, H, Gt⟩ := A
  obtain ⟨T', h', Y', e', W, stp⟩ := stB Y cx.1 hZ eT Ar (inb_of Sz ⟨hj0, hz⟩) (g := mkF m pc Ls (.int x :: .int j :: .ref a :: st)) rfl rfl (hb cx.2.1 hd)
  exact (K T' h' (St.wrote cx Y' N e' hS hZ hown hE hC hU hW W ha) W (Arv.set Ar q1 Sz q3 H Gt (fits_nar_byte x) W _ rfl hi)).step stp
theorem arrOf {vm0 : Vm} {cl : Cell} {ty : FieldType} (hZ : Z.Warmed39 vm0) (q : Z.isArrayOf cl ty) : (s.setVm vm0).isArrayOf cl ty := State.isArrayOf_alike (show Z.vm.Alike (s.setVm vm0).vm from hZ.alike) q
theorem g_arrlen (X : St p l e R s m args below meth c own bytes maxL ret nm Z EL nw us T h cells slots) {a : Addr} {k : ClassId} {ty : FieldType} {z : Int32} {vs : List Value} {dv : Value} (A : Arv Z h a k ty z vs dv) (hd : decode bytes pc = .ok (.arraylength, 1)) (pc' : Nat) (hp : pc + 1 = pc')
    (K : Goes p e below s Z EL nw Q kk nn (T.setTop (mkF m pc' Ls (.int z :: st)))) : Goes p e below s Z EL nw Q kk nn (T.setTop (mkF m pc Ls (.ref a :: st))) := by
  subst hp
  obtain ⟨cx, vm0, locs, Y, N, eT, hS, hZ, r⟩ := X
  obtain ⟨cl, Ar, q1, Sz, q3, H, Gt⟩ := A
  refine K.step fun t k => Y.arraylength cx.1 (cell := cl) (by rw [eT]; exact Ar.1) (arrOf hZ Ar.2.1) (g := mkF m pc Ls (.ref a :: st)) rfl rfl (hb cx.2.1 hd) t ?_
  rw [len_of Sz q3]; exact k
theorem g_caload (X : St p l e R s m args below meth c own bytes maxL ret nm Z EL nw us T h cells slots) {a : Addr} {k : ClassId} {z j : Int32} {vs : List Value} {dv : Value} (A : Arv Z h a k .char z vs dv) (hj0 : ¬ j < 0) (hz : j < z) (v : Value) (hv : vs.getD j.toNatClampNeg dv = v) (hd : decode bytes pc = .ok (.caload, 1)) (pc' : Nat) (hp : pc + 1 = pc')
    (K : Goes p e below s Z EL nw Q kk nn (T.setTop (mkF m pc' Ls (v :: st)))) : Goes p e below s Z EL nw Q kk nn (T.setTop (mkF m pc Ls (.int j :: .ref a :: st))) := by
  subst hp
  obtain ⟨cx, vm0, locs, Y, N, eT, hS, hZ, r⟩ := X
  obtain ⟨cl, Ar, q1, Sz, q3, H, Gt⟩ := A
  have hin := inb_of Sz ⟨hj0, hz⟩
  exact K.step fun t k => Y.caload cx.1 (cell := cl) (by rw [eT]; exact Ar.1) (arrOf hZ Ar.2.1) Ar.2.2 hin (H.at hin hv) (g := mkF m pc Ls (.int j :: .ref a :: st)) rfl rfl (hb cx.2.1 hd) t k
theorem g_baload (X : St p l e R s m args below meth c own bytes maxL ret nm Z EL nw us T h cells slots) {a : Addr} {k : ClassId} {z j : Int32} {vs : List Value} {dv : Value} (A : Arv Z h a k .byte z vs dv) (hj0 : ¬ j < 0) (hz : j < z) (v : Value) (hv : vs.getD j.toNatClampNeg dv = v) (hd : decode bytes pc = .ok (.baload, 1)) (pc' : Nat) (hp : pc + 1 = pc')
    (K : Goes p e below s Z EL nw Q kk nn (T.setTop (mkF m pc' Ls (v :: st)))) : Goes p e below s Z EL nw Q kk nn (T.setTop (mkF m pc Ls (.int j :: .ref a :: st))) := by
  subst hp
  obtain ⟨cx, vm0, locs, Y, N, eT, hS, hZ, r⟩ := X
  obtain ⟨cl, Ar, q1, Sz, q3, H, Gt⟩ := A
  have hin := inb_of Sz ⟨hj0, hz⟩
  exact K.step fun t k => Y.baloadBytes cx.1 (cell := cl) (by rw [eT]; exact Ar.1) (arrOf hZ Ar.2.1) Ar.2.2 hin (H.at hin hv) (g := mkF m pc Ls (.int j :: .ref a :: st)) rfl rfl (hb cx.2.1 hd) t k
theorem g_aaload (X : St p l e R s m args below meth c own bytes maxL ret nm Z EL nw us T h cells slots) {a : Addr} {k : ClassId} {ty : FieldType} {z j : Int32} {vs : List Value} {dv : Value} (A : Arv Z h a k ty z vs dv) (hty : ty.isReference = true) (hj0 : ¬ j < 0) (hz : j < z) (v : Value) (hv : vs.getD j.toNatClampNeg dv = v) (hd : decode bytes pc = .ok (.aaload, 1)) (pc' : Nat) (hp : pc + 1 = pc')
    (K : Goes p e below s Z EL nw Q kk nn (T.setTop (mkF m pc' Ls (v :: st)))) : Goes p e below s Z EL nw Q kk nn (T.setTop (mkF m pc Ls (.int j :: .ref a :: st))) := by
  subst hp
  obtain ⟨cx, vm0, locs, Y, N, eT, hS, hZ, r⟩ := X
  obtain ⟨cl, Ar, q1, Sz, q3, H, Gt⟩ := A
  have hin := inb_of Sz ⟨hj0, hz⟩
  exact K.step fun t k => Y.aaload cx.1 (cell := cl) (by rw [eT]; exact Ar.1) (arrOf hZ Ar.2.1) hty Ar.2.2 hin (H.at hin hv) (g := mkF m pc Ls (.int j :: .ref a :: st)) rfl rfl (hb cx.2.1 hd) t k
theorem g_aaloadA (X : St p l e R s m args below meth c own bytes maxL ret nm Z EL nw us T h cells slots) {a : Addr} {cl : Cell} {ty : FieldType} {j : Int32} (A : Arr Z h a cl ty) (hty : ty.isReference = true) (hin : ¬ (j < 0 ∨ cl.slots.size ≤ j.toNatClampNeg)) {v : Value} (hv : cl.slots[j.toNatClampNeg]? = some v) (hd : decode bytes pc = .ok (.aaload, 1)) (pc' : Nat) (hp : pc + 1 = pc')
    (K : Goes p e below s Z EL nw Q kk nn (T.setTop (mkF m pc' Ls (v :: st)))) : Goes p e below s Z EL nw Q kk nn (T.setTop (mkF m pc Ls (.int j :: .ref a :: st))) := by
  subst hp
  obtain ⟨cx, vm0, locs, Y, N, eT, hS, hZ, r⟩ := X
  exact K.step fun t k => Y.aaload cx.1 (cell := cl) (by rw [eT]; exact A.1) (arrOf hZ A.2.1) hty A.2.2 hin hv (g := mkF m pc Ls (.int j :: .ref a :: st)) rfl rfl (hb cx.2.1 hd) t k
/-- System.arraycopy between two arrays of one primitive kind -/
theorem g_arrcopy (X : St p l e R s m args below meth c own bytes maxL ret nm Z EL nw us T h cells slots) {ix : Nat} {a b : Addr} {k k' : ClassId} {ty : FieldType} {z z' sp dp nn0 : Int32} {vs vd : List Value} {dv dd : Value} (w1 : (Jvm.Cond.methodLink own ix Jvm.Stand.acN).before a0 Z = true) (w2 : (Jvm.Cond.native Jvm.Stand.acN).before a0 Z = true) (w3 : (Jvm.Cond.static Jvm.Stand.acN).before a0 Z = true) (w4 : (Jvm.Cond.initialized "java/lang/System").before a0 Z = true)
    (A : Arv Z h a k ty z vs dv) (B : Arv Z h b k' ty z' vd dd) (hty : refKind ty = false) (h1 : ¬ sp < 0) (h2 : ¬ dp < 0) (h3 : ¬ nn0 < 0) (h4 : sp.toNatClampNeg + nn0.toNatClampNeg ≤ z.toNatClampNeg) (h5 : dp.toNatClampNeg + nn0.toNatClampNeg ≤ z'.toNatClampNeg) (hl : dp.toNatClampNeg + nn0.toNatClampNeg ≤ vd.length)
    (vr : List Value) (hvr : vd.take dp.toNatClampNeg ++ ((List.range nn0.toNatClampNeg).map fun i => vs.getD (sp.toNatClampNeg + i) dv) ++ vd.drop (dp.toNatClampNeg + nn0.toNatClampNeg) = vr) (hb' : b ∈ us) (hsize : Ls.size = maxL) (hd : decode bytes pc = .ok (.invokestatic ix, 3))
    (hf : 1 ≤ R.frames) (W : Nat) (hW : (st.map fun v => v.category).sum ≤ W) (hlo : W + (nativeFrameWords "java/lang/System" "arraycopy" 5 + 11) ≤ R.locals) (pc' : Nat) (hp : pc + 3 = pc')
    (K : ∀ T' h', St p l e R s m args below meth c own bytes maxL ret nm Z EL nw us T' h' cells slots → Keep h h' [b] → Arv Z h' b k' ty z' vr dd → Goes p e below s Z EL nw Q kk nn (T'.setTop (mkF m pc' Ls st))) : Goes p e below s Z EL nw Q kk nn (T.setTop (mkF m pc Ls (.int nn0 :: .int dp :: .ref b :: .int sp :: .ref a :: st))) := by
  subst hp hvr
  obtain ⟨cx, vm0, locs, Y, N, eT, hS, hZ, hown, hE, hC, hU, hWn⟩ := X
  obtain ⟨u1, u2, u3⟩ := hU b hb'
  obtain ⟨T', h', L, Y', e', N', K', A', stp⟩ := cpA Y cx.1 hZ hown w1 w2 w3 w4 eT A B (Or.inl ⟨rfl, hty⟩) h1 h2 h3 h4 h5 rfl hl N u1 (g := mkF m pc Ls (.int nn0 :: .int dp :: .ref b :: .int sp :: .ref a :: st)) rfl (by rw [cx.2.2.1]; exact hsize) rfl (hb cx.2.1 hd) hf (W := W) (by show 2 * 0 + _ ≤ _; omega) hlo
  have hsf : ∀ x ∈ [b], Safe Z EL vm0 h x := fun x hx => by cases List.mem_singleton.mp hx; exact u3
  exact (K T' h' ⟨cx, vm0, L, Y', N', e', ⟨hS.1, hS.2.mono K'.1⟩, hZ, hown, ext_keep hE K' (fun x hx => by cases List.mem_singleton.mp hx; exact u1), hC.trans (CHr.keep K' hsf hC.1), fun x hx => ⟨(hU x hx).1, Nat.lt_of_lt_of_le (hU x hx).2.1 K'.1, Safe.keep K' hsf hC.1 (hU x hx).2.2⟩, hWn⟩ K' A').step stp
/-- Object's constructor -/
theorem g_initO (X : St p l e R s m args below meth c own bytes maxL ret nm Z EL nw us T h cells slots) {ix : Nat} {a : Addr} (w1 : (Jvm.Cond.methodLink own ix Lib.objectInit).before a0 Z = true) (w2 : (Jvm.Cond.instanceMethod Lib.objectInit).before a0 Z = true) (w3 : (Jvm.Cond.code Lib.objectInit ⟨#[0xb1]⟩ 1 none).before a0 Z = true) (hsize : Ls.size = maxL)
    (hd : decode bytes pc = .ok (.invokespecial ix, 3)) (hf : 1 ≤ R.frames) (W : Nat) (hW : (st.map fun v => v.category).sum ≤ W) (hl : W + 12 ≤ R.locals) (pc' : Nat) (hp : pc + 3 = pc')
    (K : ∀ T', St p l e R s m args below meth c own bytes maxL ret nm Z EL nw us T' h cells slots → Goes p e below s Z EL nw Q kk nn (T'.setTop (mkF m pc' Ls st))) : Goes p e below s Z EL nw Q kk nn (T.setTop (mkF m pc Ls (.ref a :: st))) := by
  subst hp
  obtain ⟨cx, vm0, locs, Y, N, eT, hS, hZ, hown, r⟩ := X
  obtain ⟨T', Y', e', stp⟩ := initO Y cx.1 hZ hown w1 w2 w3 eT (g := mkF m pc Ls (.ref a :: st)) rfl (by rw [cx.2.2.1]; exact hsize) rfl (hb cx.2.1 hd) hf (W := W) (by show 2 * 0 + _ ≤ _; omega) hl
  exact (K T' ⟨cx, vm0, locs, Y', N, e', hS, hZ, hown, r⟩).step stp
/-- an array's clone -/
theorem g_clone (X : St p l e R s m args below meth c own bytes maxL ret nm Z EL nw us T h cells slots) {ad : String} {ix : Nat} {a : Addr} {k : ClassId} {ty : FieldType} {z : Int32} {vs : List Value} {dv : Value}
    (w1 : (Jvm.Cond.methodLink own ix ⟨ad, "clone", "()Ljava/lang/Object;"⟩).before a0 Z = true) (w2 : (Jvm.Cond.sameMethod ad "java/lang/Object" "clone" "()Ljava/lang/Object;").before a0 Z = true) (w3 : (Jvm.Cond.native ⟨"java/lang/Object", "clone", "()Ljava/lang/Object;"⟩).before a0 Z = true)
    (w4 : (Jvm.Cond.instanceMethod ⟨"java/lang/Object", "clone", "()Ljava/lang/Object;"⟩).before a0 Z = true) (w5 : (Jvm.Cond.selects ad ⟨ad, "clone", "()Ljava/lang/Object;"⟩ ⟨"java/lang/Object", "clone", "()Ljava/lang/Object;"⟩).before a0 Z = true) (w6 : (Jvm.Cond.castable ad "java/lang/Cloneable").before a0 Z = true)
    (A : Arv Z h a k ty z vs dv) (E : Exa Z h a ad) (hsize : Ls.size = maxL) (hd : decode bytes pc = .ok (.invokevirtual ix, 3)) (hf : 1 ≤ R.frames) (W : Nat) (hW : (st.map fun v => v.category).sum ≤ W) (hl : W + 14 ≤ R.locals) (cap : Nat) (hcap : z.toNatClampNeg ≤ cap)
    {ck cs : Nat} (hck : cells + 1 = ck) (hcs : slots + cap = cs) (hc : ck ≤ R.cells) (hs : cs ≤ R.slots) (pc' : Nat) (hp : pc + 3 = pc')
    (K : ∀ a' T' h', a' = h.size → St p l e R s m args below meth c own bytes maxL ret nm Z EL nw (a' :: us) T' h' ck cs → Ext h h' → Arv Z h' a' k ty z vs dv → Exa Z h' a' ad → Goes p e below s Z EL nw Q kk nn (T'.setTop (mkF m pc' Ls (.ref a' :: st)))) : Goes p e below s Z EL nw Q kk nn (T.setTop (mkF m pc Ls (.ref a :: st))) := by
  subst hp hck hcs
  obtain ⟨cx, vm0, locs, Y, N, eT, hS, hZ, hown, hE, hC, hU, hWn⟩ := X
  obtain ⟨T', h', Y', e', Ex, A', E', stp⟩ := cloneH Y cx.1 hZ hown w1 w2 w3 w4 w5 w6 eT A.arh E (g := mkF m pc Ls (.ref a :: st)) rfl (by rw [cx.2.2.1]; exact hsize) rfl (hb cx.2.1 hd) hf (W := W) (by show 2 * 0 + _ ≤ _; omega) hl hcap hc hs
  obtain ⟨cl, q1, q2, q3, q4, q5, q6⟩ := A'
  refine (K h.size T' h' rfl ⟨cx, vm0, locs, Y', N, e', ⟨hS.1, hS.2.mono Ex.1⟩, hZ, hown, hE.trans Ex, hC.trans (CHr.ext Ex hC.1), ?_, hWn⟩ Ex ⟨cl, q1, q2, q3, q4, fun i hi => q5 i hi, fun i hi => q6 i hi⟩ E').step stp
  intro x hx
  rcases List.mem_cons.mp hx with rfl | hx
  · exact ⟨hE.1, E'.lt, Safe.ext Ex hC.1 (Safe.new (Nat.le_refl _))⟩
  · obtain ⟨q1, q2, q3⟩ := hU x hx
    exact ⟨q1, Nat.lt_of_lt_of_le q2 Ex.1, Safe.ext Ex hC.1 q3⟩
end HeapOps
section CallOps
variable {p : Program} {l : Launch} {e : Env} {R : Room} {s : State} {m : MethodId} {args : Array Value} {below : List Frame} {meth : Method} {c : Code}
  {own : String} {bytes : ByteArray} {maxL : Nat} {ret : Option FieldType} {nm : String} {Z : State} {EL : List (String × Nat)} {nw : Bool} {us : List Addr}
  {T : State} {h : Heap} {cells slots : Nat} {Q : Option Value → Heap → Prop} {kk nn : Nat} {a0 : Array Value} {pc : Nat} {Ls : Array Slot} {st : List Value}

/-- who pays a call: the callee's contract -/
theorem backC {y : MethodName} {cb : ByteArray} {cm : Nat} {cr : Option FieldType} {rm : Room} {len W : Nat} {as' : Array Value} {us' : List Addr} {Qc : Option Value → Heap → Prop} {vm0 : Vm}
    (hM : Ctr l Z EL nw y cb cm cr rm as' h us' Qc) (hZ : Z.Warmed39 vm0) (wc : (Jvm.Cond.code y cb cm cr).before a0 Z = true) (wz : (Jvm.Cond.initialized y.cls).before a0 Z = true) (hf : rm.frames + 1 ≤ R.frames) (hl : W + (cm + 11) + rm.locals ≤ R.locals)
    {a1 : Array Value} (hEL : EW Z a1 EL) (hE : Ext Z.heap h) (H : CHv Z EL vm0 h) (hU : ∀ x ∈ us', Z.heap.size ≤ x ∧ x < h.size ∧ Safe Z EL vm0 h x) :
    BackS l R p e below (s.setVm vm0) args y len W (fun A a => a = as' ∧ A.U.heap = h ∧ A.cells + rm.cells ≤ R.cells ∧ A.slots + rm.slots ≤ R.slots)
      (fun A _ v B => ∃ L, Qc v B.U.heap ∧ Fr Z.heap.size L ∧ Ext Z.heap B.U.heap ∧ B.locs = A.locs ++ L ∧ B.cells = A.cells + rm.cells ∧ B.slots = A.slots + rm.slots ∧ CHr Z EL vm0 h B.U.vm B.U.heap ∧ (nw = true → (s.setVm vm0).WarmedH B.U.vm)) :=
  BackS.of_freeW (bytes := cb) (maxL := cm) (ret := cr)
    (E := fun _ first o t L k n => k = rm.cells ∧ n = rm.slots ∧ (∃ v, o = .returned v ∧ Qc v t.heap) ∧ Fr Z.heap.size L ∧ Ext Z.heap t.heap ∧ CHr Z EL first.vm first.heap t.vm t.heap ∧ (nw = true → first.WarmedH t.vm)) (hM []) hf hl
    (fun m meth c A a Y hp => have hU : Z.Warmed39 A.U.vm := wtrans (s := s.setVm vm0) hZ Y.warmed
      ⟨by show (Jvm.Cond.and _ .tt).before a A.U = true; rw [Jvm.Cond.before_and, mv hU wc]; rfl, mv hU wc, mv hU wz, hp.2.2.1, hp.2.2.2⟩)
    (fun m meth c A a g mk Y hp => ⟨hp.1, wtrans (s := s.setVm vm0) hZ Y.warmed, hp.2.1, hE, (CHv.at Y hZ hEL H).1, fun x hx => ⟨(hU x hx).1, (hU x hx).2.1, (CHv.at Y hZ hEL H).safe (hU x hx).2.1 (hU x hx).2.2⟩⟩) (fun _ _ _ _ _ _ _ _ _ => trivial)
    (fun _ _ _ _ ⟨v, L, h1, h2, h3, h4, h5, h6, h7⟩ => ⟨L, _, _, h6, rfl, rfl, ⟨v, h1, h2⟩, h3, h4, h5, h7⟩)
    (fun m meth c A a g mk v t L k n Y hp _ _ ⟨e1, e2, ⟨v', e3, e4⟩, e5, e6, e7, e8⟩ => by
      cases e3; subst e1 e2
      refine ⟨L, e4, e5, e6, rfl, rfl, rfl, (CHv.at Y hZ hEL H).trans ?_, fun q => State.WarmedH.trans (t := A.U) Y.warmed (e8 q)⟩
      rw [← hp.2.1]; exact e7)
/-- behind a call -/
theorem St.back {vm0 : Vm} {locs : List Loc} {B : Pt} {L : List Loc} {ck cs : Nat}
    (cx : p.tables.exec = Jvm.exec ∧ c.code = bytes ∧ c.maxLocals = maxL ∧ meth.sig.returnType = ret ∧ meth.name = nm ∧ meth.locks = false ∧ ∃ a0, EW Z a0 EL)
    (N : Fr Z.heap.size locs) (hS : s.Since vm0 h.size) (hZ : Z.Warmed39 vm0) (hown : vm0.findClass own = some m.cls) (hC : CHr Z EL s.vm s.heap vm0 h)
    (hU : ∀ x ∈ us, Z.heap.size ≤ x ∧ x < h.size ∧ Safe Z EL vm0 h x) (hW : nw = true → s.WarmedH vm0)
    (Y : Stand p l e R ((s.setVm vm0).setVm B.U.vm) m args below meth c B.U B.locs B.cells B.slots) (h2 : (s.setVm vm0).Since B.U.vm B.U.heap.size) (hg : h.size ≤ B.U.heap.size)
    (N' : Fr Z.heap.size L) (hE : Ext Z.heap B.U.heap) (l1 : B.locs = locs ++ L) (l2 : B.cells = ck) (l3 : B.slots = cs) (hC' : CHr Z EL vm0 h B.U.vm B.U.heap) (hW' : nw = true → (s.setVm vm0).WarmedH B.U.vm) :
    St p l e R s m args below meth c own bytes maxL ret nm Z EL nw us B.U B.U.heap ck cs := by
  subst l2 l3
  rw [l1] at Y
  exact ⟨cx, B.U.vm, locs ++ L, Y, N.app N', rfl, hS.trans h2 hg, State.Warmed39.trans hZ h2.1, (h2.1.alike.findClass _ _).trans hown, hE, hC.trans hC', fun x hx => ⟨(hU x hx).1, Nat.lt_of_lt_of_le (hU x hx).2.1 hg, hC'.safe (hU x hx).2.1 (hU x hx).2.2⟩, fun q => State.WarmedH.trans (t := s.setVm vm0) (hW q) (hW' q)⟩
theorem g_callS (X : St p l e R s m args below meth c own bytes maxL ret nm Z EL nw us T h cells slots) {y : MethodName} {cb : ByteArray} {cm : Nat} {cr : Option FieldType} {rm : Room} {as' : Array Value} {us' : List Addr} {Qc : Option Value → Heap → Prop} {ix : Nat}
    (w1 : (Jvm.Cond.methodLink own ix y).before a0 Z = true) (w2 : (Jvm.Cond.static y).before a0 Z = true) (w3 : (Jvm.Cond.initialized y.cls).before a0 Z = true) (w4 : (Jvm.Cond.code y cb cm cr).before a0 Z = true)
    (hy : y.cls ≠ "java/lang/invoke/MethodHandle" ∧ y.cls ≠ "java/lang/invoke/VarHandle") (hM : Ctr l Z EL nw y cb cm cr rm as' h us' Qc) (hus : ∀ x ∈ us', x ∈ us)
    {argsL rest : List Value} {ps : List FieldType} {rt : Option FieldType} (hpd : parseMethodDescriptor y.desc = some ⟨ps, rt⟩) (hlen : argsL.length = ps.length) (has : argsL.toArray = as') (hst : st = argsL.reverse ++ rest) (hsize : Ls.size = maxL)
    (W : Nat) (hW : (rest.map fun v => v.category).sum ≤ W) (hf : rm.frames + 1 ≤ R.frames) (hl : W + (cm + 11) + rm.locals ≤ R.locals) {ck cs : Nat} (hck : cells + rm.cells = ck) (hcs : slots + rm.slots = cs) (hc : ck ≤ R.cells) (hs : cs ≤ R.slots)
    (hd : decode bytes pc = .ok (.invokestatic ix, 3)) (pc' : Nat) (hp : pc + 3 = pc')
    (K : ∀ v T' h', St p l e R s m args below meth c own bytes maxL ret nm Z EL nw us T' h' ck cs → Qc v h' → Goes p e below s Z EL nw Q kk nn (T'.setTop (mkF m pc' Ls (v.toList ++ rest)))) : Goes p e below s Z EL nw Q kk nn (T.setTop (mkF m pc Ls st)) := by
  subst hp hck hcs
  obtain ⟨cx, vm0, locs, Y, N, eT, hS, hZ, hown, hE, hC, hU, hWn⟩ := X
  obtain ⟨a1, hEL⟩ := cx.2.2.2.2.2.2
  have w4' := mvT (s := s.setVm vm0) (args := args) hZ w4
  obtain ⟨mk, hnamed⟩ := Jvm.Cond.code_named w4'
  obtain ⟨methM, cM, hmethM, -, -, -, -, -, -, hsigM⟩ := Jvm.Cond.code_spec hnamed w4'
  obtain ⟨v, vm₁, B, -, Y', h2, hg, ⟨L, q1, q2, q3, q4, q5, q6, q7, q8⟩, stp⟩ := Y.staticBackS cx.1 (own := own) (index := ix) (y := y) hown (mvT (s := s.setVm vm0) hZ w1) (mvT (s := s.setVm vm0) hZ w2) (mvT (s := s.setVm vm0) hZ w3) hnamed hmethM hsigM hy
    (backC (W := W) hM hZ w4 w3 hf hl hEL hE hC.1 fun x hx => hU x (hus x hx)) (g := mkF m pc Ls st) rfl (by rw [cx.2.2.1]; exact hsize) (Steps.refl _) (argsL := argsL) (rest := rest) (lenOf hpd hlen) hst (by show 2 * 0 + _ ≤ _; omega) (hb cx.2.1 hd)
    (fun _ _ => ⟨has, eT, hc, hs⟩)
  exact (K v B.U B.U.heap (St.back cx N hS hZ hown hC hU hWn Y' h2 (by rw [← eT]; exact hg) q2 q3 q4 q5 q6 q7 q8) q1).step fun t k => stp.trans k
theorem g_callI (X : St p l e R s m args below meth c own bytes maxL ret nm Z EL nw us T h cells slots) {y : MethodName} {cb : ByteArray} {cm : Nat} {rm : Room} {as' : Array Value} {us' : List Addr} {Qc : Option Value → Heap → Prop} {ix : Nat} (hy1 : y.name = "<init>")
    (w1 : (Jvm.Cond.methodLink own ix y).before a0 Z = true) (w2 : (Jvm.Cond.instanceMethod y).before a0 Z = true) (w3 : (Jvm.Cond.initialized y.cls).before a0 Z = true) (w4 : (Jvm.Cond.code y cb cm none).before a0 Z = true)
    (hy : y.cls ≠ "java/lang/invoke/MethodHandle" ∧ y.cls ≠ "java/lang/invoke/VarHandle") (hM : Ctr l Z EL nw y cb cm none rm as' h us' Qc) (hus : ∀ x ∈ us', x ∈ us)
    {a : Addr} {argsL rest : List Value} {ps : List FieldType} {rt : Option FieldType} (hpd : parseMethodDescriptor y.desc = some ⟨ps, rt⟩) (hlen : argsL.length = ps.length) (has : (.ref a :: argsL).toArray = as') (hst : st = argsL.reverse ++ .ref a :: rest) (hsize : Ls.size = maxL)
    (W : Nat) (hW : (rest.map fun v => v.category).sum ≤ W) (hf : rm.frames + 1 ≤ R.frames) (hl : W + (cm + 11) + rm.locals ≤ R.locals) {ck cs : Nat} (hck : cells + rm.cells = ck) (hcs : slots + rm.slots = cs) (hc : ck ≤ R.cells) (hs : cs ≤ R.slots)
    (hd : decode bytes pc = .ok (.invokespecial ix, 3)) (pc' : Nat) (hp : pc + 3 = pc')
    (K : ∀ v T' h', St p l e R s m args below meth c own bytes maxL ret nm Z EL nw us T' h' ck cs → Qc v h' → Goes p e below s Z EL nw Q kk nn (T'.setTop (mkF m pc' Ls (v.toList ++ rest)))) : Goes p e below s Z EL nw Q kk nn (T.setTop (mkF m pc Ls st)) := by
  subst hp hck hcs
  obtain ⟨cx, vm0, locs, Y, N, eT, hS, hZ, hown, hE, hC, hU, hWn⟩ := X
  obtain ⟨a1, hEL⟩ := cx.2.2.2.2.2.2
  obtain ⟨v, vm₁, B, -, Y', h2, hg, ⟨L, q1, q2, q3, q4, q5, q6, q7, q8⟩, stp⟩ := Y.specialBackS cx.1 (own := own) (index := ix) (y := y) hy1 hown (mvT (s := s.setVm vm0) hZ w1) (mvT (s := s.setVm vm0) hZ w2) (mvT (s := s.setVm vm0) hZ w4) hy
    (backC (W := W) hM hZ w4 w3 hf hl hEL hE hC.1 fun x hx => hU x (hus x hx)) (g := mkF m pc Ls st) rfl (by rw [cx.2.2.1]; exact hsize) (Steps.refl _) (a := a) (argsL := argsL) (rest := rest) (lenOf hpd hlen) hst (by show 2 * 0 + _ ≤ _; omega) (hb cx.2.1 hd)
    (fun _ _ => ⟨has, eT, hc, hs⟩)
  exact (K v B.U B.U.heap (St.back cx N hS hZ hown hC hU hWn Y' h2 (by rw [← eT]; exact hg) q2 q3 q4 q5 q6 q7 q8) q1).step fun t k => stp.trans k
theorem nfSel {C : String} {y : MethodName} (w : (Jvm.Cond.selects C y y).before a0 Z = true) : ∀ s' : State, Z.Warmed39 s'.vm → NotFace s' y := fun s' hZ => notFace_of_selects (args := #[]) (mvT (s := s') hZ w)
theorem g_callV (X : St p l e R s m args below meth c own bytes maxL ret nm Z EL nw us T h cells slots) {C : String} {y z : MethodName} {cb : ByteArray} {cm : Nat} {cr : Option FieldType} {rm : Room} {as' : Array Value} {us' : List Addr} {Qc : Option Value → Heap → Prop} {ix : Nat}
    (w1 : (Jvm.Cond.methodLink own ix y).before a0 Z = true) (w2 : (Jvm.Cond.declares y).before a0 Z = true) (w3 : (Jvm.Cond.selects C y z).before a0 Z = true) (w4 : (Jvm.Cond.instanceMethod z).before a0 Z = true) (w5 : (Jvm.Cond.initialized z.cls).before a0 Z = true) (w6 : (Jvm.Cond.code z cb cm cr).before a0 Z = true)
    (hnf : ∀ s' : State, Z.Warmed39 s'.vm → NotFace s' y) (hy : y.cls ≠ "java/lang/invoke/MethodHandle" ∧ y.cls ≠ "java/lang/invoke/VarHandle") {a : Addr} (Ex : Exa Z h a C) (hM : Ctr l Z EL nw z cb cm cr rm as' h us' Qc) (hus : ∀ x ∈ us', x ∈ us)
    {argsL rest : List Value} {ps : List FieldType} {rt : Option FieldType} (hpd : parseMethodDescriptor y.desc = some ⟨ps, rt⟩) (hlen : argsL.length = ps.length) (has : (.ref a :: argsL).toArray = as') (hst : st = argsL.reverse ++ .ref a :: rest) (hsize : Ls.size = maxL)
    (W : Nat) (hW : (rest.map fun v => v.category).sum ≤ W) (hf : rm.frames + 1 ≤ R.frames) (hl : W + (cm + 11) + rm.locals ≤ R.locals) {ck cs : Nat} (hck : cells + rm.cells = ck) (hcs : slots + rm.slots = cs) (hc : ck ≤ R.cells) (hs : cs ≤ R.slots)
    (hd : decode bytes pc = .ok (.invokevirtual ix, 3)) (pc' : Nat) (hp : pc + 3 = pc')
    (K : ∀ v T' h', St p l e R s m args below meth c own bytes maxL ret nm Z EL nw us T' h' ck cs → Qc v h' → Goes p e below s Z EL nw Q kk nn (T'.setTop (mkF m pc' Ls (v.toList ++ rest)))) : Goes p e below s Z EL nw Q kk nn (T.setTop (mkF m pc Ls st)) := by
  subst hp hck hcs
  obtain ⟨cx, vm0, locs, Y, N, eT, hS, hZ, hown, hE, hC, hU, hWn⟩ := X
  obtain ⟨a1, hEL⟩ := cx.2.2.2.2.2.2
  obtain ⟨cq, kq, qa, qb, qc⟩ := isOf (s := s.setVm vm0) hZ eT Ex
  obtain ⟨v, vm₁, B, -, Y', h2, hg, ⟨L, q1, q2, q3, q4, q5, q6, q7, q8⟩, stp⟩ := Y.virtualBackS cx.1 (own := own) (index := ix) (y := y) (z := z) hown (mvT (s := s.setVm vm0) hZ w1) (mvT (s := s.setVm vm0) hZ w2) (hnf (s.setVm vm0) hZ) (mvT (s := s.setVm vm0) hZ w3) (mvT (s := s.setVm vm0) hZ w4) hy
    (backC (W := W) hM hZ w6 w5 hf hl hEL hE hC.1 fun x hx => hU x (hus x hx)) qa qc (g := mkF m pc Ls st) rfl (by rw [cx.2.2.1]; exact hsize) (Steps.refl _) (argsL := argsL) (rest := rest) (lenOf hpd hlen) hst (by show 2 * 0 + _ ≤ _; omega) (hb cx.2.1 hd)
    (fun _ _ => ⟨has, eT, hc, hs⟩)
  exact (K v B.U B.U.heap (St.back cx N hS hZ hown hC hU hWn Y' h2 (by rw [← eT]; exact hg) q2 q3 q4 q5 q6 q7 q8) q1).step fun t k => stp.trans k
theorem g_callSp (X : St p l e R s m args below meth c own bytes maxL ret nm Z EL nw us T h cells slots) {y : MethodName} {cb : ByteArray} {cm : Nat} {cr : Option FieldType} {rm : Room} {as' : Array Value} {us' : List Addr} {Qv : Value → Prop} {ix : Nat}
    (w1 : (Jvm.Cond.methodLink own ix y).before a0 Z = true) (w2 : (Jvm.Cond.static y).before a0 Z = true) (w3 : (Jvm.Cond.initialized y.cls).before a0 Z = true) (w4 : (Jvm.Cond.code y cb cm cr).before a0 Z = true)
    (hy : y.cls ≠ "java/lang/invoke/MethodHandle" ∧ y.cls ≠ "java/lang/invoke/VarHandle") (hM : Ctr l Z EL nw y cb cm cr rm as' h us' (PureQ h Qv)) (hus : ∀ x ∈ us', x ∈ us)
    {argsL rest : List Value} {ps : List FieldType} {rt : Option FieldType} (hpd : parseMethodDescriptor y.desc = some ⟨ps, rt⟩) (hlen : argsL.length = ps.length) (has : argsL.toArray = as') (hst : st = argsL.reverse ++ rest) (hsize : Ls.size = maxL)
    (W : Nat) (hW : (rest.map fun v => v.category).sum ≤ W) (hf : rm.frames + 1 ≤ R.frames) (hl : W + (cm + 11) + rm.locals ≤ R.locals) {ck cs : Nat} (hck : cells + rm.cells = ck) (hcs : slots + rm.slots = cs) (hc : ck ≤ R.cells) (hs : cs ≤ R.slots)
    (hd : decode bytes pc = .ok (.invokestatic ix, 3)) (pc' : Nat) (hp : pc + 3 = pc')
    (K : ∀ w T', St p l e R s m args below meth c own bytes maxL ret nm Z EL nw us T' h ck cs → Qv w → Goes p e below s Z EL nw Q kk nn (T'.setTop (mkF m pc' Ls (w :: rest)))) : Goes p e below s Z EL nw Q kk nn (T.setTop (mkF m pc Ls st)) :=
  g_callS X w1 w2 w3 w4 hy hM hus hpd hlen has hst hsize W hW hf hl hck hcs hc hs hd pc' hp (by
    intro v T' h' X' hq
    obtain ⟨rfl, w, rfl, hw⟩ := hq
    exact K w T' X' hw)
theorem g_callSv (X : St p l e R s m args below meth c own bytes maxL ret nm Z EL nw us T h cells slots) {y : MethodName} {cb : ByteArray} {cm : Nat} {cr : Option FieldType} {rm : Room} {as' : Array Value} {us' : List Addr} {Qv : Value → Heap → Prop} {ix : Nat}
    (w1 : (Jvm.Cond.methodLink own ix y).before a0 Z = true) (w2 : (Jvm.Cond.static y).before a0 Z = true) (w3 : (Jvm.Cond.initialized y.cls).before a0 Z = true) (w4 : (Jvm.Cond.code y cb cm cr).before a0 Z = true)
    (hy : y.cls ≠ "java/lang/invoke/MethodHandle" ∧ y.cls ≠ "java/lang/invoke/VarHandle") (hM : Ctr l Z EL nw y cb cm cr rm as' h us' (ValQ Qv)) (hus : ∀ x ∈ us', x ∈ us)
    {argsL rest : List Value} {ps : List FieldType} {rt : Option FieldType} (hpd : parseMethodDescriptor y.desc = some ⟨ps, rt⟩) (hlen : argsL.length = ps.length) (has : argsL.toArray = as') (hst : st = argsL.reverse ++ rest) (hsize : Ls.size = maxL)
    (W : Nat) (hW : (rest.map fun v => v.category).sum ≤ W) (hf : rm.frames + 1 ≤ R.frames) (hl : W + (cm + 11) + rm.locals ≤ R.locals) {ck cs : Nat} (hck : cells + rm.cells = ck) (hcs : slots + rm.slots = cs) (hc : ck ≤ R.cells) (hs : cs ≤ R.slots)
    (hd : decode bytes pc = .ok (.invokestatic ix, 3)) (pc' : Nat) (hp : pc + 3 = pc')
    (K : ∀ w T' h', St p l e R s m args below meth c own bytes maxL ret nm Z EL nw us T' h' ck cs → Qv w h' → Goes p e below s Z EL nw Q kk nn (T'.setTop (mkF m pc' Ls (w :: rest)))) : Goes p e below s Z EL nw Q kk nn (T.setTop (mkF m pc Ls st)) :=
  g_callS X w1 w2 w3 w4 hy hM hus hpd hlen has hst hsize W hW hf hl hck hcs hc hs hd pc' hp (by
    intro v T' h' X' hq
    obtain ⟨w, rfl, hw⟩ := hq
    exact K w T' h' X' hw)
theorem g_callSn (X : St p l e R s m args below meth c own bytes maxL ret nm Z EL nw us T h cells slots) {y : MethodName} {cb : ByteArray} {cm : Nat} {cr : Option FieldType} {rm : Room} {as' : Array Value} {us' : List Addr} {Qn : Heap → Prop} {ix : Nat}
    (w1 : (Jvm.Cond.methodLink own ix y).before a0 Z = true) (w2 : (Jvm.Cond.static y).before a0 Z = true) (w3 : (Jvm.Cond.initialized y.cls).before a0 Z = true) (w4 : (Jvm.Cond.code y cb cm cr).before a0 Z = true)
    (hy : y.cls ≠ "java/lang/invoke/MethodHandle" ∧ y.cls ≠ "java/lang/invoke/VarHandle") (hM : Ctr l Z EL nw y cb cm cr rm as' h us' (VoidQ Qn)) (hus : ∀ x ∈ us', x ∈ us)
    {argsL rest : List Value} {ps : List FieldType} {rt : Option FieldType} (hpd : parseMethodDescriptor y.desc = some ⟨ps, rt⟩) (hlen : argsL.length = ps.length) (has : argsL.toArray = as') (hst : st = argsL.reverse ++ rest) (hsize : Ls.size = maxL)
    (W : Nat) (hW : (rest.map fun v => v.category).sum ≤ W) (hf : rm.frames + 1 ≤ R.frames) (hl : W + (cm + 11) + rm.locals ≤ R.locals) {ck cs : Nat} (hck : cells + rm.cells = ck) (hcs : slots + rm.slots = cs) (hc : ck ≤ R.cells) (hs : cs ≤ R.slots)
    (hd : decode bytes pc = .ok (.invokestatic ix, 3)) (pc' : Nat) (hp : pc + 3 = pc')
    (K : ∀ T' h', St p l e R s m args below meth c own bytes maxL ret nm Z EL nw us T' h' ck cs → Qn h' → Goes p e below s Z EL nw Q kk nn (T'.setTop (mkF m pc' Ls rest))) : Goes p e below s Z EL nw Q kk nn (T.setTop (mkF m pc Ls st)) :=
  g_callS X w1 w2 w3 w4 hy hM hus hpd hlen has hst hsize W hW hf hl hck hcs hc hs hd pc' hp (by
    intro v T' h' X' hq
    obtain ⟨rfl, hw⟩ := hq
    exact K T' h' X' hw)
theorem g_callIn (X : St p l e R s m args below meth c own bytes maxL ret nm Z EL nw us T h cells slots) {y : MethodName} {cb : ByteArray} {cm : Nat} {rm : Room} {as' : Array Value} {us' : List Addr} {Qn : Heap → Prop} {ix : Nat} (hy1 : y.name = "<init>")
    (w1 : (Jvm.Cond.methodLink own ix y).before a0 Z = true) (w2 : (Jvm.Cond.instanceMethod y).before a0 Z = true) (w3 : (Jvm.Cond.initialized y.cls).before a0 Z = true) (w4 : (Jvm.Cond.code y cb cm none).before a0 Z = true)
    (hy : y.cls ≠ "java/lang/invoke/MethodHandle" ∧ y.cls ≠ "java/lang/invoke/VarHandle") (hM : Ctr l Z EL nw y cb cm none rm as' h us' (VoidQ Qn)) (hus : ∀ x ∈ us', x ∈ us)
    {a : Addr} {argsL rest : List Value} {ps : List FieldType} {rt : Option FieldType} (hpd : parseMethodDescriptor y.desc = some ⟨ps, rt⟩) (hlen : argsL.length = ps.length) (has : (.ref a :: argsL).toArray = as') (hst : st = argsL.reverse ++ .ref a :: rest) (hsize : Ls.size = maxL)
    (W : Nat) (hW : (rest.map fun v => v.category).sum ≤ W) (hf : rm.frames + 1 ≤ R.frames) (hl : W + (cm + 11) + rm.locals ≤ R.locals) {ck cs : Nat} (hck : cells + rm.cells = ck) (hcs : slots + rm.slots = cs) (hc : ck ≤ R.cells) (hs : cs ≤ R.slots)
    (hd : decode bytes pc = .ok (.invokespecial ix, 3)) (pc' : Nat) (hp : pc + 3 = pc')
    (K : ∀ T' h', St p l e R s m args below meth c own bytes maxL ret nm Z EL nw us T' h' ck cs → Qn h' → Goes p e below s Z EL nw Q kk nn (T'.setTop (mkF m pc' Ls rest))) : Goes p e below s Z EL nw Q kk nn (T.setTop (mkF m pc Ls st)) :=
  g_callI X hy1 w1 w2 w3 w4 hy hM hus hpd hlen has hst hsize W hW hf hl hck hcs hc hs hd pc' hp (by
    intro v T' h' X' hq
    obtain ⟨rfl, hw⟩ := hq
    exact K T' h' X' hw)
theorem g_callVp (X : St p l e R s m args below meth c own bytes maxL ret nm Z EL nw us T h cells slots) {C : String} {y z : MethodName} {cb : ByteArray} {cm : Nat} {cr : Option FieldType} {rm : Room} {as' : Array Value} {us' : List Addr} {Qv : Value → Prop} {ix : Nat}
    (w1 : (Jvm.Cond.methodLink own ix y).before a0 Z = true) (w2 : (Jvm.Cond.declares y).before a0 Z = true) (w3 : (Jvm.Cond.selects C y z).before a0 Z = true) (w4 : (Jvm.Cond.instanceMethod z).before a0 Z = true) (w5 : (Jvm.Cond.initialized z.cls).before a0 Z = true) (w6 : (Jvm.Cond.code z cb cm cr).before a0 Z = true)
    (hnf : ∀ s' : State, Z.Warmed39 s'.vm → NotFace s' y) (hy : y.cls ≠ "java/lang/invoke/MethodHandle" ∧ y.cls ≠ "java/lang/invoke/VarHandle") {a : Addr} (Ex : Exa Z h a C) (hM : Ctr l Z EL nw z cb cm cr rm as' h us' (PureQ h Qv)) (hus : ∀ x ∈ us', x ∈ us)
    {argsL rest : List Value} {ps : List FieldType} {rt : Option FieldType} (hpd : parseMethodDescriptor y.desc = some ⟨ps, rt⟩) (hlen : argsL.length = ps.length) (has : (.ref a :: argsL).toArray = as') (hst : st = argsL.reverse ++ .ref a :: rest) (hsize : Ls.size = maxL)
    (W : Nat) (hW : (rest.map fun v => v.category).sum ≤ W) (hf : rm.frames + 1 ≤ R.frames) (hl : W + (cm + 11) + rm.locals ≤ R.locals) {ck cs : Nat} (hck : cells + rm.cells = ck) (hcs : slots + rm.slots = cs) (hc : ck ≤ R.cells) (hs : cs ≤ R.slots)
    (hd : decode bytes pc = .ok (.invokevirtual ix, 3)) (pc' : Nat) (hp : pc + 3 = pc')
    (K : ∀ w T', St p l e R s m args below meth c own bytes maxL ret nm Z EL nw us T' h ck cs → Qv w → Goes p e below s Z EL nw Q kk nn (T'.setTop (mkF m pc' Ls (w :: rest)))) : Goes p e below s Z EL nw Q kk nn (T.setTop (mkF m pc Ls st)) :=
  g_callV X w1 w2 w3 w4 w5 w6 hnf hy Ex hM hus hpd hlen has hst hsize W hW hf hl hck hcs hc hs hd pc' hp (by
    intro v T' h' X' hq
    obtain ⟨rfl, w, rfl, hw⟩ := hq
    exact K w T' X' hw)
theorem g_callVv (X : St p l e R s m args below meth c own bytes maxL ret nm Z EL nw us T h cells slots) {C : String} {y z : MethodName} {cb : ByteArray} {cm : Nat} {cr : Option FieldType} {rm : Room} {as' : Array Value} {us' : List Addr} {Qv : Value → Heap → Prop} {ix : Nat}
    (w1 : (Jvm.Cond.methodLink own ix y).before a0 Z = true) (w2 : (Jvm.Cond.declares y).before a0 Z = true) (w3 : (Jvm.Cond.selects C y z).before a0 Z = true) (w4 : (Jvm.Cond.instanceMethod z).before a0 Z = true) (w5 : (Jvm.Cond.initialized z.cls).before a0 Z = true) (w6 : (Jvm.Cond.code z cb cm cr).before a0 Z = true)
    (hnf : ∀ s' : State, Z.Warmed39 s'.vm → NotFace s' y) (hy : y.cls ≠ "java/lang/invoke/MethodHandle" ∧ y.cls ≠ "java/lang/invoke/VarHandle") {a : Addr} (Ex : Exa Z h a C) (hM : Ctr l Z EL nw z cb cm cr rm as' h us' (ValQ Qv)) (hus : ∀ x ∈ us', x ∈ us)
    {argsL rest : List Value} {ps : List FieldType} {rt : Option FieldType} (hpd : parseMethodDescriptor y.desc = some ⟨ps, rt⟩) (hlen : argsL.length = ps.length) (has : (.ref a :: argsL).toArray = as') (hst : st = argsL.reverse ++ .ref a :: rest) (hsize : Ls.size = maxL)
    (W : Nat) (hW : (rest.map fun v => v.category).sum ≤ W) (hf : rm.frames + 1 ≤ R.frames) (hl : W + (cm + 11) + rm.locals ≤ R.locals) {ck cs : Nat} (hck : cells + rm.cells = ck) (hcs : slots + rm.slots = cs) (hc : ck ≤ R.cells) (hs : cs ≤ R.slots)
    (hd : decode bytes pc = .ok (.invokevirtual ix, 3)) (pc' : Nat) (hp : pc + 3 = pc')
    (K : ∀ w T' h', St p l e R s m args below meth c own bytes maxL ret nm Z EL nw us T' h' ck cs → Qv w h' → Goes p e below s Z EL nw Q kk nn (T'.setTop (mkF m pc' Ls (w :: rest)))) : Goes p e below s Z EL nw Q kk nn (T.setTop (mkF m pc Ls st)) :=
  g_callV X w1 w2 w3 w4 w5 w6 hnf hy Ex hM hus hpd hlen has hst hsize W hW hf hl hck hcs hc hs hd pc' hp (by
    intro v T' h' X' hq
    obtain ⟨w, rfl, hw⟩ := hq
    exact K w T' h' X' hw)
theorem g_callVn (X : St p l e R s m args below meth c own bytes maxL ret nm Z EL nw us T h cells slots) {C : String} {y z : MethodName} {cb : ByteArray} {cm : Nat} {cr : Option FieldType} {rm : Room} {as' : Array Value} {us' : List Addr} {Qn : Heap → Prop} {ix : Nat}
    (w1 : (Jvm.Cond.methodLink own ix y).before a0 Z = true) (w2 : (Jvm.Cond.declares y).before a0 Z = true) (w3 : (Jvm.Cond.selects C y z).before a0 Z = true) (w4 : (Jvm.Cond.instanceMethod z).before a0 Z = true) (w5 : (Jvm.Cond.initialized z.cls).before a0 Z = true) (w6 : (Jvm.Cond.code z cb cm cr).before a0 Z = true)
    (hnf : ∀ s' : State, Z.Warmed39 s'.vm → NotFace s' y) (hy : y.cls ≠ "java/lang/invoke/MethodHandle" ∧ y.cls ≠ "java/lang/invoke/VarHandle") {a : Addr} (Ex : Exa Z h a C) (hM : Ctr l Z EL nw z cb cm cr rm as' h us' (VoidQ Qn)) (hus : ∀ x ∈ us', x ∈ us)
    {argsL rest : List Value} {ps : List FieldType} {rt : Option FieldType} (hpd : parseMethodDescriptor y.desc = some ⟨ps, rt⟩) (hlen : argsL.length = ps.length) (has : (.ref a :: argsL).toArray = as') (hst : st = argsL.reverse ++ .ref a :: rest) (hsize : Ls.size = maxL)
    (W : Nat) (hW : (rest.map fun v => v.category).sum ≤ W) (hf : rm.frames + 1 ≤ R.frames) (hl : W + (cm + 11) + rm.locals ≤ R.locals) {ck cs : Nat} (hck : cells + rm.cells = ck) (hcs : slots + rm.slots = cs) (hc : ck ≤ R.cells) (hs : cs ≤ R.slots)
    (hd : decode bytes pc = .ok (.invokevirtual ix, 3)) (pc' : Nat) (hp : pc + 3 = pc')
    (K : ∀ T' h', St p l e R s m args below meth c own bytes maxL ret nm Z EL nw us T' h' ck cs → Qn h' → Goes p e below s Z EL nw Q kk nn (T'.setTop (mkF m pc' Ls rest))) : Goes p e below s Z EL nw Q kk nn (T.setTop (mkF m pc Ls st)) :=
  g_callV X w1 w2 w3 w4 w5 w6 hnf hy Ex hM hus hpd hlen has hst hsize W hW hf hl hck hcs hc hs hd pc' hp (by
    intro v T' h' X' hq
    obtain ⟨rfl, hw⟩ := hq
    exact K T' h' X' hw)
end CallOps
end Jvm.OwnKit
namespace Jvm.OwnKit
open Sem ClassFile Op Lib Jvm.Stand Jvm.Free Jvm.LawKit Jvm.RoadKit
section StartFacts
variable {args : Array Value} {s : State} {t X F : Term} {a y : Addr}
theorem own_eqr (hF : F.eval args s none [] s = some (.ref y)) (h : (Jvm.Cond.eq X F).value args s none s [] = some true) : X.eval args s none [] s = some (.ref y) := by
  obtain ⟨x, y', e1, e2, k1, k2⟩ := cmp_v (Or.inl h)
  cases hF.symm.trans e2
  have hx : x.isRef = true := by cases x <;> simp_all [Jvm.Cond.value, Value.isRef]
  have q := gotT (eq_R e1 hF hx rfl) h
  rw [e1, q]
theorem own_fldI {C n d : String} {v : Int32} (ht : t.eval args s none [] s = some (.ref a)) (h : (Jvm.Cond.eq (.field t C n d) (.int v)).value args s none s [] = some true) : Fld s s.heap a C n d (.int v) := by
  have e := eqv_i (Term.int_eval v) h
  rw [fld_at ht] at e
  exact Fld.start e
theorem own_fld0 {C n d : String} (ht : t.eval args s none [] s = some (.ref a)) (h : (Jvm.Cond.eq (.field t C n d) .null).value args s none s [] = some true) : Fld s s.heap a C n d .null := by
  have e := null_v h
  rw [fld_at ht] at e
  exact Fld.start e
theorem own_fldR {C n d : String} {F : Term} (ht : t.eval args s none [] s = some (.ref a)) (hF : F.eval args s none [] s = some (.ref y)) (h : (Jvm.Cond.eq (.field t C n d) F).value args s none s [] = some true) : Fld s s.heap a C n d (.ref y) := by
  have e := own_eqr hF h
  rw [fld_at ht] at e
  exact Fld.start e
theorem own_len {cl : Cell} {ty : FieldType} {z : Int32} (A : Arr s s.heap a cl ty) (ht : t.eval args s none [] s = some (.ref a)) (h : (Jvm.Cond.eq (.length t) (.int z)).value args s none s [] = some true) : cl.slots.size < 2 ^ 31 ∧ cl.slots.size.toInt32 = z := by
  have e := eqv_i (Term.int_eval z) h
  have ha := Arr.fin (U := s) (Vm.Alike.refl _) A
  have e2 : (Term.length t).eval args s none [] s = if cl.slots.size < 2 ^ 31 then some (.int cl.slots.size.toInt32) else none := by simp [Term.eval, ht, ha]
  rw [e2] at e
  by_cases q : cl.slots.size < 2 ^ 31
  · rw [if_pos q] at e
    exact ⟨q, Value.int.inj (Option.some.inj e)⟩
  · rw [if_neg q] at e; cases e
theorem own_elem {cl : Cell} {ty : FieldType} {j : Int32} {F : Term} (A : Arr s s.heap a cl ty) (ht : t.eval args s none [] s = some (.ref a)) (hF : F.eval args s none [] s = some (.ref y)) (h : (Jvm.Cond.eq (.elem t (.int j)) F).value args s none s [] = some true) : cl.slots[j.toNatClampNeg]? = some (.ref y) :=
  (elem_in (own_eqr hF h) ht (Term.int_eval j) A.1).2
end StartFacts
end Jvm.OwnKit
namespace Jvm.Pilot.@@N@@
open Jvm Jvm.ClassFile Sem Op Lib Jvm.Free Jvm.Stand Jvm.LawKit Jvm.RoadKit Bundle Jvm.OwnKit Jvm.Pilot.@@N@@.Jvm.D
def EL : List (String × Nat) := []
abbrev nw : Bool := true
def Gl (Z : State) (a0 : Array Value) : Prop := (∀ d ∈ tables_1, d.before a0 Z = true) ∧ EW Z a0 EL
theorem pd_0 : parseMethodDescriptor "()Z" = some ⟨[], (some .boolean)⟩ := by decide +kernel
theorem d1_0 : decode prog_80_method_4_code 0 = .ok (.aload_n 0, 1) := by decide +kernel
theorem d1_1 : decode prog_80_method_4_code 1 = .ok (.getstatic 10, 3) := by decide +kernel
theorem d1_4 : decode prog_80_method_4_code 4 = .ok (.if_acmp .eq 7, 3) := by decide +kernel
theorem d1_7 : decode prog_80_method_4_code 7 = .ok (.iconst 1, 1) := by decide +kernel
theorem d1_8 : decode prog_80_method_4_code 8 = .ok (.goto 4, 3) := by decide +kernel
theorem d1_11 : decode prog_80_method_4_code 11 = .ok (.iconst 0, 1) := by decide +kernel
theorem d1_12 : decode prog_80_method_4_code 12 = .ok (.ireturn, 1) := by decide +kernel
theorem pn_0 : plainName "com/example/pegwright/pegwright/schedules/Requirement" = true := by first | (simp [plainName, overriddenIn]; done) | decide +kernel
set_option maxRecDepth 65536 in
set_option maxHeartbeats 40000000 in
theorem c_done (l : Launch) (Z : State) (a0 : Array Value) (G : Gl Z a0) (a w : Addr) (h : Heap) (F : Sta Z h "com/example/pegwright/pegwright/schedules/Requirement" "PLANNED" "Lcom/example/pegwright/pegwright/schedules/Requirement;" (.ref w)) :
    Ctr l Z EL nw (⟨"com/example/pegwright/pegwright/schedules/Requirement", "receivable", "()Z"⟩ : MethodName) prog_80_method_4_code 1 (Option.some Jvm.ClassFile.FieldType.boolean) ({ frames := 0, cells := 0, slots := 0, locals := 0 } : Room) #[.ref a] h [] (PureQ h fun v => v = .int (if a = w then 0 else 1)) := by
  have hw := G.1
  refine Ctr.enter (own := "com/example/pegwright/pegwright/schedules/Requirement") (nm := "receivable") rfl rfl G.2 (plainFor_of_name pn_0) #[.val (.ref a)] (fun m => by first | rfl | (simp [entryFrame, mkF, argsToLocals, Value.category, maxLocals]; done)) ?_
  intro p e s m below meth c T X
  refine g_aloadN X d1_0 rfl rfl 1 rfl ?_
  refine g_getS X (Or.inl (hw _ (List.mem_of_getElem? (i := 9) rfl))) (host := "") Via.refl F d1_1 4 rfl ?_
  intro T1 X2
  by_cases hb4 : (.ref a : Value) = .ref w
  · refine g_acmpYes X2 d1_4 rfl rfl (XT.aa_eq_t hb4) 11 (by decide) (by decide) ?_
    refine g_iconst X2 (0 : Int32) d1_11 (by decide) 12 rfl ?_
    exact g_retN X2 (t := .boolean) rfl (by simp) d1_12 _ rfl (by decide) (by decide) ⟨rfl, _, rfl, (by rw [if_pos (Value.ref.inj hb4)]; rfl)⟩
  · refine g_acmpNo X2 d1_4 rfl rfl (XT.aa_eq_f hb4) 7 rfl ?_
    refine g_iconst X2 (1 : Int32) d1_7 (by decide) 8 rfl ?_
    refine g_goto X2 d1_8 12 (by decide) (by decide) ?_
    exact g_retN X2 (t := .boolean) rfl (by simp) d1_12 _ rfl (by decide) (by decide) ⟨rfl, _, rfl, (by rw [if_neg (fun q => hb4 (congrArg Value.ref q))]; rfl)⟩
theorem pn_1 : plainName "com/example/pegwright/pegwright/schedules/RequirementReceivablePinLaw" = true := by first | (simp [plainName, overriddenIn]; done) | decide +kernel
set_option maxRecDepth 65536 in
set_option maxHeartbeats 40000000 in
theorem c_law (l : Launch) (Z : State) (a0 : Array Value) (G : Gl Z a0) (k : Int32) (b0 b1 b2 : Addr) (h : Heap) (S0 : Sta Z Z.heap "com/example/pegwright/pegwright/schedules/Requirement" "IMMEDIATE" "Lcom/example/pegwright/pegwright/schedules/Requirement;" (.ref b0)) (E0 : Exa Z Z.heap b0 "com/example/pegwright/pegwright/schedules/Requirement") (S1 : Sta Z Z.heap "com/example/pegwright/pegwright/schedules/Requirement" "FIRM" "Lcom/example/pegwright/pegwright/schedules/Requirement;" (.ref b1)) (E1 : Exa Z Z.heap b1 "com/example/pegwright/pegwright/schedules/Requirement") (S2 : Sta Z Z.heap "com/example/pegwright/pegwright/schedules/Requirement" "PLANNED" "Lcom/example/pegwright/pegwright/schedules/Requirement;" (.ref b2)) (E2 : Exa Z Z.heap b2 "com/example/pegwright/pegwright/schedules/Requirement") (n0 : ¬ b0 = b2) (n1 : ¬ b1 = b2) :
    Ctr l Z EL nw x code maxLocals ret room_1 #[.int k] h [] (fun v _ => v = some (.int 1)) := by
  have hw := G.1
  refine Ctr.enter (own := "com/example/pegwright/pegwright/schedules/RequirementReceivablePinLaw") (nm := "law") rfl rfl G.2 (plainFor_of_name pn_1) #[.val (.int k), .unset, .unset, .unset] (fun m => by first | rfl | (simp [entryFrame, mkF, argsToLocals, Value.category, maxLocals]; done)) ?_
  intro p e s m below meth c T X
  refine g_iloadN X at_0 rfl 1 rfl ?_
  refine g_ldcI X (hw _ (List.mem_of_getElem? (i := 0) rfl)) at_1 3 rfl ?_
  refine g_iand X at_3 _ rfl 4 rfl ?_
  refine g_iconst X (3 : Int32) at_4 (by decide) 5 rfl ?_
  refine g_irem X at_5 (by decide) _ rfl 6 rfl ?_
  refine g_istoreN X at_6 (Ls' := #[.val (.int k), .val (.int ((k &&& (2147483647 : Int32)) % (3 : Int32))), .unset, .unset]) rfl 7 rfl ?_
  refine g_iloadN X at_7 rfl 8 rfl ?_
  by_cases hb8 : ((k &&& (2147483647 : Int32)) % (3 : Int32)) = (0 : Int32)
  · refine g_ifNo X at_8 (XT.ii_ne_f hb8) 11 rfl ?_
    refine g_getS X (Or.inl (hw _ (List.mem_of_getElem? (i := 1) rfl))) (host := "") Via.refl (S0.ext X.old) at_11 14 rfl ?_
    intro T1 X2
    refine g_astoreN X2 at_14 rfl (Ls' := #[.val (.int k), .val (.int ((k &&& (2147483647 : Int32)) % (3 : Int32))), .val (.ref b0), .unset]) rfl 15 rfl ?_
    refine g_iconst X2 (1 : Int32) at_15 (by decide) 16 rfl ?_
    refine g_istoreN X2 at_16 (Ls' := #[.val (.int k), .val (.int ((k &&& (2147483647 : Int32)) % (3 : Int32))), .val (.ref b0), .val (.int (1 : Int32))]) rfl 17 rfl ?_
    refine g_goto X2 at_17 40 (by decide) (by decide) ?_
    refine g_aloadN X2 at_40 rfl rfl 41 rfl ?_
    refine g_callVp X2 (hw _ (List.mem_of_getElem? (i := 4) rfl)) (hw _ (List.mem_of_getElem? (i := 5) rfl)) (hw _ (List.mem_of_getElem? (i := 7) rfl)) (hw _ (List.mem_of_getElem? (i := 6) rfl)) (hw _ (List.mem_of_getElem? (i := 2) rfl)) (hw _ (List.mem_of_getElem? (i := 8) rfl)) (nfSel (hw _ (List.mem_of_getElem? (i := 7) rfl))) (by decide) (E0.ext X2.old) (c_done l Z a0 G b0 b2 h (S2.ext X2.old)) (by simp) (argsL := []) (rest := []) pd_0 rfl rfl rfl rfl 0 (Nat.le_of_eq rfl) (by decide) (by decide) (ck := 0) rfl (cs := 0) rfl (by decide) (by decide) at_41 44 rfl ?_
    intro w5 T3 X4 hq6
    subst hq6
    refine g_iloadN X4 at_44 rfl 45 rfl ?_
    refine g_icmpNo X4 at_45 (XT.ii_ne_f (if_neg n0)) 48 rfl ?_
    refine g_iconst X4 (1 : Int32) at_48 (by decide) 49 rfl ?_
    refine g_goto X4 at_49 53 (by decide) (by decide) ?_
    exact g_retN X4 (t := .boolean) rfl (by simp) at_53 _ rfl (by decide) (by decide) rfl
  · refine g_ifYes X at_8 (XT.ii_ne_t hb8) 20 (by decide) (by decide) ?_
    refine g_iloadN X at_20 rfl 21 rfl ?_
    refine g_iconst X (1 : Int32) at_21 (by decide) 22 rfl ?_
    by_cases hb22 : ((k &&& (2147483647 : Int32)) % (3 : Int32)) = (1 : Int32)
    · refine g_icmpNo X at_22 (XT.ii_ne_f hb22) 25 rfl ?_
      refine g_getS X (Or.inl (hw _ (List.mem_of_getElem? (i := 12) rfl))) (host := "") Via.refl (S1.ext X.old) at_25 28 rfl ?_
      intro T7 X8
      refine g_astoreN X8 at_28 rfl (Ls' := #[.val (.int k), .val (.int ((k &&& (2147483647 : Int32)) % (3 : Int32))), .val (.ref b1), .unset]) rfl 29 rfl ?_
      refine g_iconst X8 (1 : Int32) at_29 (by decide) 30 rfl ?_
      refine g_istoreN X8 at_30 (Ls' := #[.val (.int k), .val (.int ((k &&& (2147483647 : Int32)) % (3 : Int32))), .val (.ref b1), .val (.int (1 : Int32))]) rfl 31 rfl ?_
      refine g_goto X8 at_31 40 (by decide) (by decide) ?_
      refine g_aloadN X8 at_40 rfl rfl 41 rfl ?_
      refine g_callVp X8 (hw _ (List.mem_of_getElem? (i := 4) rfl)) (hw _ (List.mem_of_getElem? (i := 5) rfl)) (hw _ (List.mem_of_getElem? (i := 7) rfl)) (hw _ (List.mem_of_getElem? (i := 6) rfl)) (hw _ (List.mem_of_getElem? (i := 2) rfl)) (hw _ (List.mem_of_getElem? (i := 8) rfl)) (nfSel (hw _ (List.mem_of_getElem? (i := 7) rfl))) (by decide) (E1.ext X8.old) (c_done l Z a0 G b1 b2 h (S2.ext X8.old)) (by simp) (argsL := []) (rest := []) pd_0 rfl rfl rfl rfl 0 (Nat.le_of_eq rfl) (by decide) (by decide) (ck := 0) rfl (cs := 0) rfl (by decide) (by decide) at_41 44 rfl ?_
      intro w11 T9 X10 hq12
      subst hq12
      refine g_iloadN X10 at_44 rfl 45 rfl ?_
      refine g_icmpNo X10 at_45 (XT.ii_ne_f (if_neg n1)) 48 rfl ?_
      refine g_iconst X10 (1 : Int32) at_48 (by decide) 49 rfl ?_
      refine g_goto X10 at_49 53 (by decide) (by decide) ?_
      exact g_retN X10 (t := .boolean) rfl (by simp) at_53 _ rfl (by decide) (by decide) rfl
    · refine g_icmpYes X at_22 (XT.ii_ne_t hb22) 34 (by decide) (by decide) ?_
      refine g_getS X (Or.inl (hw _ (List.mem_of_getElem? (i := 11) rfl))) (host := "") Via.refl (S2.ext X.old) at_34 37 rfl ?_
      intro T13 X14
      refine g_astoreN X14 at_37 rfl (Ls' := #[.val (.int k), .val (.int ((k &&& (2147483647 : Int32)) % (3 : Int32))), .val (.ref b2), .unset]) rfl 38 rfl ?_
      refine g_iconst X14 (0 : Int32) at_38 (by decide) 39 rfl ?_
      refine g_istoreN X14 at_39 (Ls' := #[.val (.int k), .val (.int ((k &&& (2147483647 : Int32)) % (3 : Int32))), .val (.ref b2), .val (.int (0 : Int32))]) rfl 40 rfl ?_
      refine g_aloadN X14 at_40 rfl rfl 41 rfl ?_
      refine g_callVp X14 (hw _ (List.mem_of_getElem? (i := 4) rfl)) (hw _ (List.mem_of_getElem? (i := 5) rfl)) (hw _ (List.mem_of_getElem? (i := 7) rfl)) (hw _ (List.mem_of_getElem? (i := 6) rfl)) (hw _ (List.mem_of_getElem? (i := 2) rfl)) (hw _ (List.mem_of_getElem? (i := 8) rfl)) (nfSel (hw _ (List.mem_of_getElem? (i := 7) rfl))) (by decide) (E2.ext X14.old) (c_done l Z a0 G b2 b2 h (S2.ext X14.old)) (by simp) (argsL := []) (rest := []) pd_0 rfl rfl rfl rfl 0 (Nat.le_of_eq rfl) (by decide) (by decide) (ck := 0) rfl (cs := 0) rfl (by decide) (by decide) at_41 44 rfl ?_
      intro w17 T15 X16 hq18
      subst hq18
      refine g_iloadN X16 at_44 rfl 45 rfl ?_
      refine g_icmpNo X16 at_45 (XT.ii_ne_f (if_pos rfl)) 48 rfl ?_
      refine g_iconst X16 (1 : Int32) at_48 (by decide) 49 rfl ?_
      refine g_goto X16 at_49 53 (by decide) (by decide) ?_
      exact g_retN X16 (t := .boolean) rfl (by simp) at_53 _ rfl (by decide) (by decide) rfl
set_option maxRecDepth 65536 in
set_option maxHeartbeats 40000000 in
theorem comes_1 {Post : Tables → Env → Array Value → State → Outcome → State → Prop} (hpost : ∀ tb e args s v u, (limb_1_1.after args s (.returned v) u = true ∧ limb_1_2.after args s (.returned v) u = true) → Framed s (.returned v) u (Jvm.fieldLocs frame_1_writes args s ++ Jvm.arrayLocs frame_1_arrays args s ++ Jvm.staticLocs frame_1_statics s) 0 0 → Post tb e args s (.returned v) u) :
    ArmFor flags0 classFile x code maxLocals ret World_1 tables_1 room_1 Calls_1 rest_1 Pre_1 Post := by
  intro l hfl _ _ p e ha hc hk s m args below hf hA hF happ hP
  obtain ⟨hcalls, hrest, hpre⟩ := hP
  obtain ⟨-, -, -, hnamed, -, -, -, hat⟩ := (Spec.applies_iff hf).mp happ
  obtain ⟨hg, hn⟩ := and_e (Cond.before_iff.mp (show (Jvm.Cond.and given_1 narrow_1).before args s = true from hpre))
  obtain ⟨h1, hg⟩ := and_e hg
  obtain ⟨w0, rfl⟩ : ∃ w0 : Value, args = #[w0] := by
    have hs : args.size = 1 := by simpa [Cond.value, given_1] using h1
    obtain ⟨L⟩ := args
    match L, hs with
    | [w0], _ => exact ⟨w0, rfl⟩
  have hw := fun d (hd : d ∈ tables_1) => atoms_spec (ws := Jvm.Cond.code x code maxLocals ret :: tables_1) hat d (List.mem_cons_of_mem _ hd)
  have g0 := hg
  obtain ⟨i0, e0⟩ := is_v g0
  obtain rfl : w0 = (.int i0) := Option.some.inj e0
  obtain ⟨q0, hn⟩ := and_e hn
  obtain ⟨q1, hn⟩ := and_e hn
  obtain ⟨q2, hn⟩ := and_e hn
  obtain ⟨q3, hn⟩ := and_e hn
  obtain ⟨q4, hn⟩ := and_e hn
  have q5 := hn
  obtain ⟨b0, t_b0⟩ := exa_v q0
  have S0 := Sta.start t_b0 (Or.inr ⟨(hw _ (List.mem_of_getElem? (i := 2) rfl)), (hw _ (List.mem_of_getElem? (i := 3) rfl))⟩)
  have E0 := Exa.start t_b0 q0
  have o0 := own_fldI t_b0 q2
  obtain ⟨b1, t_b1⟩ := exa_v q4
  have S1 := Sta.start t_b1 (Or.inr ⟨(hw _ (List.mem_of_getElem? (i := 2) rfl)), (hw _ (List.mem_of_getElem? (i := 13) rfl))⟩)
  have E1 := Exa.start t_b1 q4
  have o1 := own_fldI t_b1 q5
  obtain ⟨b2, t_b2⟩ := exa_v q1
  have S2 := Sta.start t_b2 (Or.inr ⟨(hw _ (List.mem_of_getElem? (i := 2) rfl)), (hw _ (List.mem_of_getElem? (i := 10) rfl))⟩)
  have E2 := Exa.start t_b2 q1
  have o2 := own_fldI t_b2 q3
  have n0 : ¬ b0 = b2 := Fld.ne o0 o2 (by decide)
  have n1 : ¬ b1 = b2 := Fld.ne o1 o2 (by decide)
  have G : Gl s #[.int i0] := ⟨hw, EW.nil⟩
  obtain ⟨n, o, h1, h2, h3, v, L, rfl, hQ, N, -, -, hq, hnw⟩ := c_law l s _ G i0 b0 b1 b2 s.heap S0 E0 S1 E1 S2 E2 n0 n1 tables_1 p e ha hc hk s m _ below hf ((Spec.applies_iff_loose hf).mp happ).1 ⟨rfl, State.Warmed39.refl s, rfl, Ext.refl _, (fun _ hp => by cases hp), fun _ q => nomatch q⟩ trivial
  obtain ⟨rfl⟩ : v = some (.int 1) := hQ
  exact ⟨n, _, h1, h2, h3, hpost _ _ _ _ _ _ ⟨Cond.after_iff.mpr rfl, Cond.after_iff.mpr (eq_i res_at (Term.int_eval (1)) rfl)⟩ ⟨hq.1, hnw rfl, (hq.2.2.2.sift fun y hy => Or.inr (N y hy)).mono (by decide) (by decide)⟩⟩
theorem main_1_1 : Claimed_1_1 := comes_1 fun _ _ _ _ _ _ h hF => ⟨h.1, hF⟩
theorem main_1_2 : Claimed_1_2 := comes_1 fun _ _ _ _ _ _ h hF => ⟨h.2, hF⟩
end Jvm.Pilot.@@N@@
namespace Jvm.Pilot.@@N@@
open Jvm Jvm.ClassFile Sem Op Lib Jvm.Free Jvm.Stand Jvm.Pilot.@@N@@.Jvm.D
/-! MADE BY PROGRAM (witnessworld.py) out of the Statement's table words and the real class files: 12 classes; the members and pool entries that the words name. The judged class is class 1, her method 1. -/
namespace start1
open Jvm.ClassFile
def u (s : String) : CpInfo := .utf8 (stringToUtf16 s)
/-- a pool by its gaps: so many unusable entries, then the entry; so many at the end -/
def gap : Nat → List CpInfo → List CpInfo
  | 0, r => r
  | n + 1, r => .unusable :: gap n r
def poolList (es : List (Nat × CpInfo)) (last : Nat) : List CpInfo := es.foldr (fun e r => gap e.1 (e.2 :: r)) (gap last [])
def pool (es : List (Nat × CpInfo)) (last : Nat) : Array CpInfo := ⟨poolList es last⟩
def fileOf (pool : Array CpInfo) (this : Nat) (attrs : Array Attribute := #[]) (ms : Array MethodInfo := #[]) (fl : Nat := 33) (sup : Nat := 0) (ifs : Array Nat := #[]) (fds : Array FieldInfo := #[]) : ClassFile where
  minorVersion := 0
  majorVersion := 65
  constantPool := pool
  accessFlags := fl
  thisClass := this
  superClass := sup
  interfaces := ifs
  fields := fds
  methods := ms
  attributes := attrs
def plain (name : String) (sup : Option ClassId) : Class where
  name := name
  kind := .ordinary
  loader := none
  accessFlags := 33
  super := sup
  interfaces := #[]
  cf := none
  fields := #[]
  methods := #[]
  instanceTypes := #[]
  staticTypes := #[]
  resolved := #[]
  callSites := []
  init := .initialized
  statics := none
  mirror := none

def pool0 : Array CpInfo := pool [(5, u "<init>"), (0, u "()V"), (1, .class_ 10), (1, u "java/lang/Object")] 113

def k0m0 : Method := { name := "<init>", desc := "()V", sig := { parameters := [], returnType := none }, accessFlags := 1, code := none }
/-- java/lang/Object -/
def k0 : Class := { plain "java/lang/Object" none with
  accessFlags := 33
  interfaces := #[]
  cf := some (fileOf pool0 8 #[] #[{ accessFlags := 1, nameIndex := 5, descriptorIndex := 6, attributes := #[] }] 33 0 #[] #[])
  fields := #[]
  methods := #[k0m0]
  instanceTypes := #[]
  staticTypes := #[]
  resolved := Array.replicate 124 none
  statics := none }

def pool1 : Array CpInfo := pool [(2, .class_ 4), (1, u "java/lang/Object"), (0, u "<init>"), (0, u "()V"), (0, .integer 2147483647), (0, .fieldref 9 10), (0, .class_ 11), (0, .nameAndType 12 13), (0, u "com/example/pegwright/pegwright/schedules/Requirement"), (0, u "IMMEDIATE"), (0, u "Lcom/example/pegwright/pegwright/schedules/Requirement;"), (0, .fieldref 9 15), (0, .nameAndType 16 13), (0, u "FIRM"), (0, .fieldref 9 18), (0, .nameAndType 19 13), (0, u "PLANNED"), (0, .methodref 9 21), (0, .nameAndType 22 23), (0, u "receivable"), (0, u "()Z"), (0, .class_ 25), (0, u "com/example/pegwright/pegwright/schedules/RequirementReceivablePinLaw"), (2, u "law"), (0, u "(I)Z")] 3

def k1m0 : Method := { name := "<init>", desc := "()V", sig := { parameters := [], returnType := none }, accessFlags := 2, code := none }
def k1c1 : Code := { maxStack := 2, maxLocals := 4, code := code, exceptionTable := #[], attributes := #[] }
def k1m1 : Method := { name := "law", desc := "(I)Z", sig := { parameters := [.int], returnType := some .boolean }, accessFlags := 9, code := some k1c1 }
/-- com/example/pegwright/pegwright/schedules/RequirementReceivablePinLaw -/
def k1 : Class := { plain "com/example/pegwright/pegwright/schedules/RequirementReceivablePinLaw" (some 0) with
  accessFlags := 49
  interfaces := #[]
  cf := some (fileOf pool1 24 #[] #[{ accessFlags := 2, nameIndex := 5, descriptorIndex := 6, attributes := #[] }, { accessFlags := 9, nameIndex := 28, descriptorIndex := 29, attributes := #[] }] 49 2 #[] #[])
  fields := #[]
  methods := #[k1m0, k1m1]
  instanceTypes := #[]
  staticTypes := #[]
  resolved := Array.replicate 33 none
  statics := none }

def pool2 : Array CpInfo := pool [(1, .class_ 2), (0, u "java/lang/constant/Constable"), (0, .class_ 4), (0, u "java/lang/Object")] 6

/-- java/lang/constant/Constable -/
def k2 : Class := { plain "java/lang/constant/Constable" (some 0) with
  accessFlags := 1537
  interfaces := #[]
  cf := some (fileOf pool2 1 #[] #[] 1537 3 #[] #[])
  fields := #[]
  methods := #[]
  instanceTypes := #[]
  staticTypes := #[]
  resolved := Array.replicate 11 none
  statics := none }

def pool3 : Array CpInfo := pool [(1, .class_ 2), (0, u "java/lang/Comparable"), (0, .class_ 4), (0, u "java/lang/Object")] 7

/-- java/lang/Comparable -/
def k3 : Class := { plain "java/lang/Comparable" (some 0) with
  accessFlags := 1537
  interfaces := #[]
  cf := some (fileOf pool3 1 #[] #[] 1537 3 #[] #[])
  fields := #[]
  methods := #[]
  instanceTypes := #[]
  staticTypes := #[]
  resolved := Array.replicate 12 none
  statics := none }

def pool4 : Array CpInfo := pool [(1, .class_ 2), (0, u "java/io/Serializable"), (0, .class_ 4), (0, u "java/lang/Object")] 2

/-- java/io/Serializable -/
def k4 : Class := { plain "java/io/Serializable" (some 0) with
  accessFlags := 1537
  interfaces := #[]
  cf := some (fileOf pool4 1 #[] #[] 1537 3 #[] #[])
  fields := #[]
  methods := #[]
  instanceTypes := #[]
  staticTypes := #[]
  resolved := Array.replicate 7 none
  statics := none }

def pool5 : Array CpInfo := pool [(2, .class_ 4), (1, u "java/lang/Enum"), (0, u "name"), (0, u "Ljava/lang/String;"), (2, u "ordinal"), (0, u "I"), (1, .class_ 14), (1, u "java/lang/Object"), (4, u "hash"), (86, .class_ 108), (1, u "java/lang/Enum$EnumDesc"), (2, .class_ 112), (0, u "java/lang/constant/Constable"), (0, .class_ 114), (0, u "java/lang/Comparable"), (0, .class_ 116), (0, u "java/io/Serializable")] 87

/-- java/lang/Enum -/
def k5 : Class := { plain "java/lang/Enum" (some 0) with
  accessFlags := 1057
  interfaces := #[2, 3, 4]
  cf := some (fileOf pool5 2 #[.nestMembers #[106]] #[] 1057 12 #[111, 113, 115] #[{ accessFlags := 18, nameIndex := 5, descriptorIndex := 6, attributes := #[] }, { accessFlags := 18, nameIndex := 9, descriptorIndex := 10, attributes := #[] }, { accessFlags := 2, nameIndex := 19, descriptorIndex := 10, attributes := #[] }])
  fields := #[{ name := "name", type := (.object "java/lang/String"), accessFlags := 18, slot := 0, constantValue := 0 }, { name := "ordinal", type := .int, accessFlags := 18, slot := 1, constantValue := 0 }, { name := "hash", type := .int, accessFlags := 2, slot := 2, constantValue := 0 }]
  methods := #[]
  instanceTypes := #[(.object "java/lang/String"), .int, .int]
  staticTypes := #[]
  resolved := Array.replicate 204 none
  statics := none }

def pool6 : Array CpInfo := pool [(1, .class_ 2), (0, u "com/example/pegwright/pegwright/schedules/Requirement"), (2, u "IMMEDIATE"), (0, u "Lcom/example/pegwright/pegwright/schedules/Requirement;"), (2, u "FIRM"), (0, .fieldref 1 11), (0, .nameAndType 12 6), (0, u "PLANNED"), (2, u "$VALUES"), (0, u "[Lcom/example/pegwright/pegwright/schedules/Requirement;"), (6, .class_ 25), (1, u "java/lang/Enum"), (27, u "receivable"), (0, u "()Z")] 7

def k6c0 : Code := { maxStack := 2, maxLocals := 1, code := prog_80_method_4_code, exceptionTable := #[], attributes := #[] }
def k6m0 : Method := { name := "receivable", desc := "()Z", sig := { parameters := [], returnType := some .boolean }, accessFlags := 1, code := some k6c0 }
/-- com/example/pegwright/pegwright/schedules/Requirement -/
def k6 : Class := { plain "com/example/pegwright/pegwright/schedules/Requirement" (some 5) with
  accessFlags := 16433
  interfaces := #[]
  cf := some (fileOf pool6 1 #[] #[{ accessFlags := 1, nameIndex := 53, descriptorIndex := 54, attributes := #[] }] 16433 23 #[] #[{ accessFlags := 16409, nameIndex := 5, descriptorIndex := 6, attributes := #[] }, { accessFlags := 16409, nameIndex := 9, descriptorIndex := 6, attributes := #[] }, { accessFlags := 16409, nameIndex := 12, descriptorIndex := 6, attributes := #[] }, { accessFlags := 4122, nameIndex := 15, descriptorIndex := 16, attributes := #[] }])
  fields := #[{ name := "IMMEDIATE", type := (.object "com/example/pegwright/pegwright/schedules/Requirement"), accessFlags := 16409, slot := 0, constantValue := 0 }, { name := "FIRM", type := (.object "com/example/pegwright/pegwright/schedules/Requirement"), accessFlags := 16409, slot := 1, constantValue := 0 }, { name := "PLANNED", type := (.object "com/example/pegwright/pegwright/schedules/Requirement"), accessFlags := 16409, slot := 2, constantValue := 0 }, { name := "$VALUES", type := (.array (.object "com/example/pegwright/pegwright/schedules/Requirement")), accessFlags := 4122, slot := 3, constantValue := 0 }]
  methods := #[k6m0]
  instanceTypes := #[(.object "java/lang/String"), .int, .int]
  staticTypes := #[(.object "com/example/pegwright/pegwright/schedules/Requirement"), (.object "com/example/pegwright/pegwright/schedules/Requirement"), (.object "com/example/pegwright/pegwright/schedules/Requirement"), (.array (.object "com/example/pegwright/pegwright/schedules/Requirement"))]
  resolved := Array.replicate 62 none
  statics := some 0 }

def pool7 : Array CpInfo := pool [(1, u "java/lang/Cloneable"), (0, .class_ 1), (0, u "java/lang/Object"), (0, .class_ 3)] 3

/-- java/lang/Cloneable -/
def k7 : Class := { plain "java/lang/Cloneable" (some 0) with
  accessFlags := 1537
  interfaces := #[]
  cf := some (fileOf pool7 2 #[] #[] 1537 4 #[] #[])
  fields := #[]
  methods := #[]
  instanceTypes := #[]
  staticTypes := #[]
  resolved := Array.replicate 8 none
  statics := none }

/-- the primitive byte -/
def k8 : Class := { plain "byte" none with kind := .primitive 'B', accessFlags := 0x411 }
/-- [B -/
def k9 : Class := { plain "[B" (some 0) with kind := .array 8 .byte, interfaces := #[7, 4], accessFlags := 1041 }

/-- the primitive int -/
def k10 : Class := { plain "int" none with kind := .primitive 'I', accessFlags := 0x411 }
/-- [I -/
def k11 : Class := { plain "[I" (some 0) with kind := .array 10 .int, interfaces := #[7, 4], accessFlags := 1041 }

def heap : Heap := #[{ cls := 6, slots := #[.ref 1, .ref 2, .ref 3, .null], vm := .statics 6 },
  { cls := 6, slots := #[.null, .int 0, .int 0], vm := .none },
  { cls := 6, slots := #[.null, .int 1, .int 0], vm := .none },
  { cls := 6, slots := #[.null, .int 2, .int 0], vm := .none }]
def classes : Array Class := #[k0, k1, k2, k3, k4, k5, k6, k7, k8, k9, k10, k11]
def interned : List (Array UInt16 × Addr) := []
def slotsUsed : Nat := 13
def theMethod : MethodId := ⟨1, 1⟩
def args0 : Array Value := #[.int 5]
def aboutOver (below : List Frame) : State where
  vm := { classes := classes, interned := interned.toArray }
  heap := heap
  slotsUsed := slotsUsed
  threads := #[{ frames := .invoking theMethod args0 :: below }]
def below0 : List Frame := [.native { method := ⟨0, 0⟩, args := #[] }]
def about1 : State := aboutOver below0
def p0 : Program := .bare "" "" ""
def e0 : Env := launch0.env 0 0 0
theorem w_frames : about1.frames = Frame.invoking theMethod args0 :: below0 := rfl
set_option maxRecDepth 65536 in
theorem w_args : argsFit about1.vm theMethod args0 = true := by decide +kernel
set_option maxRecDepth 65536 in
theorem w_heap : heapFits about1 = true := by decide +kernel
set_option maxRecDepth 65536 in
theorem w_runnable : about1.curStatus? = some .runnable := by decide +kernel
set_option maxRecDepth 65536 in
theorem w_alone : about1.alone = true := by decide +kernel
set_option maxRecDepth 65536 in
theorem w_named : about1.methodNamed? x = some theMethod := by decide +kernel
set_option maxRecDepth 65536 in
theorem w_hears : about1.hears theMethod below0 = true := by decide +kernel
set_option maxRecDepth 65536 in
theorem w_ripe : about1.ripe theMethod args0 below0 = true := by decide +kernel
theorem w_running : about1.status = .running := rfl
set_option maxRecDepth 65536 in
theorem w_room : about1.hasRoom e0.platform room_1 = true :=
  launch0.hasRoom_least _ room_1 (by decide +kernel) (by decide +kernel) (by decide +kernel) (by decide +kernel) (by decide +kernel) (by decide +kernel)
theorem allAtoms_all (ts : List Jvm.Cond) (a : Array Jvm.Value) (st : Jvm.State) : (allAtoms ts).before a st = ts.all (fun c => c.before a st) := by
  induction ts with
  | nil => rfl
  | cons c t ih =>
    show (Jvm.Cond.and c (allAtoms t)).before a st = _
    rw [Jvm.Cond.before_and, ih, List.all_cons]
def words1 : List Jvm.Cond := Jvm.Cond.code x code maxLocals ret :: tables_1
/-- a 'code' word, met by the world's own term for the bytes: nothing is compared byte by byte -/
theorem code_word {y : MethodName} {bytes : ByteArray} {mx : Nat} {rt : Option FieldType} {a : Array Value} {s : State} {m : MethodId} {meth : Method} {c : Code} (h1 : s.methodNamed? y = some m) (h2 : s.vm.method? m = some meth) (h3 : meth.code = some c) (h4 : c.code = bytes)
    (h5 : (c.maxLocals == mx && c.exceptionTable.isEmpty && decide (c.maxStack ≤ mostOperands) && decide (meth.sig.returnType = rt) && !meth.locks && decide (parseMethodDescriptor y.desc = some meth.sig)) = true) : (Jvm.Cond.code y bytes mx rt).before a s = true := by
  simp only [Bool.and_eq_true, beq_iff_eq, Bool.not_eq_true', decide_eq_true_eq] at h5
  obtain ⟨⟨⟨⟨⟨g1, g2⟩, g3⟩, g4⟩, g5⟩, g6⟩ := h5
  simp [Cond.before, Cond.holds, Cond.value, h1, h2, h3, h4, g1, g2, g3, g4, g5, g6]
def isCode : Jvm.Cond → Bool
  | .code _ _ _ _ => true
  | _ => false
theorem all_split {L : List Jvm.Cond} {P : Jvm.Cond → Bool} (h1 : L.all (fun c => isCode c || P c) = true) (h2 : ∀ c ∈ L.filter isCode, P c = true) : L.all P = true := by
  refine List.all_eq_true.mpr fun c hc => ?_
  have h := List.all_eq_true.mp h1 c hc
  rcases Bool.eq_false_or_eq_true (isCode c) with hi | hi
  · exact h2 c (List.mem_filter.mpr ⟨hc, hi⟩)
  · simpa [hi] using h
set_option maxRecDepth 65536 in
theorem w_c0 : (Jvm.Cond.code x code maxLocals ret).before args0 about1 = true := code_word (m := ⟨1, 1⟩) (meth := k1m1) (c := k1c1) (by decide +kernel) rfl rfl rfl (by decide +kernel)
set_option maxRecDepth 65536 in
theorem w_c1 : (Jvm.Cond.code ({ cls := "com/example/pegwright/pegwright/schedules/Requirement", name := "receivable", desc := "()Z" } : Jvm.MethodName) prog_80_method_4_code (1 : Nat) (Option.some Jvm.ClassFile.FieldType.boolean)).before args0 about1 = true := code_word (m := ⟨6, 0⟩) (meth := k6m0) (c := k6c0) (by decide +kernel) rfl rfl rfl (by decide +kernel)
def codes1 : List Jvm.Cond := [Jvm.Cond.code x code maxLocals ret, Jvm.Cond.code ({ cls := "com/example/pegwright/pegwright/schedules/Requirement", name := "receivable", desc := "()Z" } : Jvm.MethodName) prog_80_method_4_code (1 : Nat) (Option.some Jvm.ClassFile.FieldType.boolean)]
set_option maxRecDepth 65536 in
theorem codes_eq : words1.filter isCode = codes1 := rfl
theorem w_codes : ∀ c ∈ words1.filter isCode, c.before args0 about1 = true := by
  rw [codes_eq]
  intro c hc
  simp only [codes1, List.mem_cons, List.not_mem_nil, or_false] at hc
  rcases hc with rfl | rfl
  · exact w_c0
  · exact w_c1
set_option maxRecDepth 65536 in
theorem w_t1 : words1.all (fun c => isCode c || c.before args0 about1) = true := by decide +kernel
theorem w_tables : (allAtoms (Jvm.Cond.code x code maxLocals ret :: tables_1)).before args0 about1 = true := by
  rw [allAtoms_all]
  show words1.all (fun c => c.before args0 about1) = true
  refine all_split ?_ w_codes
  rw [w_t1]
set_option maxRecDepth 65536 in
theorem w_case : (Jvm.Cond.and given_1 narrow_1).before args0 about1 = true := by decide +kernel
theorem w_applies : (headSpec (Jvm.Cond.code x code maxLocals ret :: tables_1) room_1).applies x e0.platform about1 = true :=
  (Spec.applies_iff w_frames).mpr ⟨w_running, w_runnable, w_alone, w_named, w_hears, w_ripe, w_room, w_tables⟩
theorem atStart : AtStart classFile x code maxLocals ret World_1 tables_1 room_1 Calls_1 rest_1 Pre_1 launch0 p0 e0 about1 theMethod args0 below0 :=
  ⟨lists_1, trivial, launch0.admits_env _ _ _, launch0.least_env, fairChoices_fair.cas, fairChoices_fair.clock, w_frames, w_args, w_heap, w_applies, trivial, trivial, w_case⟩
end start1
theorem witness_1 : WitnessClaimed_1 := ⟨start1.p0, start1.e0, start1.about1, start1.theMethod, start1.args0, start1.below0, start1.atStart⟩
end Jvm.Pilot.@@N@@
