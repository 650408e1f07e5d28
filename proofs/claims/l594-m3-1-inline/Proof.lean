import JvmDerived
import JvmDerived.Pilot.@@N@@Statement
import JvmDerived.Pilot.@@N@@Code
set_option linter.unusedVariables false
set_option linter.unusedSimpArgs false
namespace Jvm.RoadKit
theorem Ext.refl (h : Heap) : Ext h h := ⟨Nat.le_refl _, fun _ _ q => q⟩
theorem Ext.trans {h h1 h2 : Heap} (A : Ext h h1) (B : Ext h1 h2) : Ext h h2 := ⟨Nat.le_trans A.1 B.1, fun a c q => B.2 a c (A.2 a c q)⟩
end Jvm.RoadKit
namespace Jvm.OwnKit
open Sem ClassFile Op Lib Jvm.Stand Jvm.Free Jvm.LawKit Jvm.RoadKit

/-- where the walk stands: the tables so far, nothing old written, the String constants held, the objects under construction -/
def St (p : Program) (l : Launch) (e : Env) (R : Room) (s : State) (m : MethodId) (args : Array Value) (below : List Frame) (meth : Method) (c : Code)
    (own : String) (bytes : ByteArray) (maxL : Nat) (ret : Option FieldType) (nm : String) (Z : State) (EL : List (String × Nat)) (nw : Bool) (us : List Addr) (bs : List (String × Nat × Addr))
    (T : State) (h : Heap) (cells slots : Nat) : Prop :=
  (p.tables.exec = Jvm.exec ∧ c.code = bytes ∧ c.maxLocals = maxL ∧ meth.sig.returnType = ret ∧ meth.name = nm ∧ meth.locks = false ∧ ∃ a0, EW Z a0 EL) ∧
  ∃ (vm0 : Vm) (locs : List Loc), Stand p l e R (s.setVm vm0) m args below meth c T locs cells slots ∧ Fr Z.heap.size locs ∧ T.heap = h ∧ s.Since vm0 h.size ∧
    Z.Warmed39 vm0 ∧ vm0.findClass own = some m.cls ∧ Ext Z.heap h ∧ CHr Z EL s.vm s.heap vm0 h ∧
    (∀ x ∈ us, Z.heap.size ≤ x ∧ x < h.size ∧ Safe Z EL vm0 h x) ∧ (nw = true → s.WarmedH vm0) ∧ ∀ q ∈ bs, Lit (s.setVm vm0) q.1 q.2.1 q.2.2

/-- from here the method returns, with Q of what it returns and of the heap it leaves -/
def Goes (p : Program) (e : Env) (below : List Frame) (s Z : State) (EL : List (String × Nat)) (nw : Bool) (Q : Option Value → Heap → Prop) (kk nn : Nat) (S : State) : Prop :=
  ∃ U o, Steps p.tables e below S U ∧ U.status = .running ∧ Ended U below o ∧ ∃ v L, o = .returned v ∧ Q v U.heap ∧ Fr Z.heap.size L ∧ Ext Z.heap U.heap ∧
    CHr Z EL s.vm s.heap U.vm U.heap ∧ ReturnedEndW s o U L kk nn ∧ (nw = true → s.WarmedH U.vm)

/-- the contract of a method for the arguments as' at the heap h -/
def Ctr (l : Launch) (Z : State) (EL : List (String × Nat)) (nw : Bool) (y : MethodName) (bytes : ByteArray) (maxL : Nat) (ret : Option FieldType) (rm : Room) (as' : Array Value) (h : Heap) (us : List Addr)
    (Q : Option Value → Heap → Prop) : Prop :=
  ∀ ws : List Jvm.Cond, MetFree l y (head1 (Jvm.Cond.code y bytes maxL ret :: ws) rm)
    (fun a U => a = as' ∧ Z.Warmed39 U.vm ∧ U.heap = h ∧ Ext Z.heap h ∧ CHv Z EL U.vm h ∧ ∀ x ∈ us, Z.heap.size ≤ x ∧ x < h.size ∧ Safe Z EL U.vm h x)
    (fun _ _ _ _ _ => True)
    (fun _ U o U' => ∃ v L, o = .returned v ∧ Q v U'.heap ∧ Fr Z.heap.size L ∧ Ext Z.heap U'.heap ∧ CHr Z EL U.vm U.heap U'.vm U'.heap ∧ ReturnedEndW U o U' L rm.cells rm.slots ∧ (nw = true → U.WarmedH U'.vm))

def PureQ (h : Heap) (Qv : Value → Prop) : Option Value → Heap → Prop := fun v h' => h' = h ∧ ∃ w, v = some w ∧ Qv w
def ValQ (Qv : Value → Heap → Prop) : Option Value → Heap → Prop := fun v h' => ∃ w, v = some w ∧ Qv w h'
def VoidQ (Qn : Heap → Prop) : Option Value → Heap → Prop := fun v h' => v = none ∧ Qn h'
section Base
variable {p : Program} {l : Launch} {e : Env} {R : Room} {s : State} {m : MethodId} {args : Array Value} {below : List Frame} {meth : Method} {c : Code}
  {own : String} {bytes : ByteArray} {maxL : Nat} {ret : Option FieldType} {nm : String} {Z : State} {EL : List (String × Nat)} {nw : Bool} {us : List Addr} {bs : List (String × Nat × Addr)}
  {T : State} {h : Heap} {cells slots : Nat} {Q : Option Value → Heap → Prop} {kk nn : Nat} {a0 : Array Value}

theorem ext_keep {h h1 h2 : Heap} {ws : List Addr} (A : Ext h h1) (K : Keep h1 h2 ws) (q : ∀ x ∈ ws, h.size ≤ x) : Ext h h2 :=
  ⟨Nat.le_trans A.1 K.1, fun a c r => K.2.1 a c (A.2 a c r) fun z => absurd (Array.getElem?_eq_some_iff.mp r).1 (Nat.not_lt.mpr (q a z))⟩
theorem ext_wr {h h1 h2 : Heap} {a : Addr} {sl : Nat} {v : Value} (A : Ext h h1) (W : Wr h1 h2 a sl v) (q : h.size ≤ a) : Ext h h2 :=
  ext_keep A (Keep.of_wr W) (fun x hx => by cases List.mem_singleton.mp hx; exact q)
theorem nar_mask (x : Int32) : nar .char (x &&& 255) = x &&& 255 := i2c_mask x
theorem ref_nar {v : Value} {t : FieldType} (h : v.isRef = true) (ht : t.isReference = true) : narrow t v = v := by
  rcases ref_cases h with rfl | ⟨a, rfl⟩ <;> cases t <;> first | rfl | simp [FieldType.isReference] at ht
theorem ref_fit {v : Value} {t : FieldType} (h : v.isRef = true) (ht : t.isReference = true) : fits t v = true := by
  rcases ref_cases h with rfl | ⟨a, rfl⟩ <;> cases t <;> first | rfl | simp [FieldType.isReference] at ht
theorem Sta.keepN {h1 h2 : Heap} {C n d : String} {v : Value} {ws : List Addr} (F : Sta Z Z.heap C n d v) (E : Ext Z.heap h2) : Sta Z h2 C n d v := Sta.ext E F

theorem St.at (X : St p l e R s m args below meth c own bytes maxL ret nm Z EL nw us bs T h cells slots) : At T m c below := by obtain ⟨-, _, _, Y, -⟩ := X; exact Y.here
theorem St.std (X : St p l e R s m args below meth c own bytes maxL ret nm Z EL nw us bs T h cells slots) : ∃ vm0 locs, Stand p l e R (s.setVm vm0) m args below meth c T locs cells slots := by obtain ⟨-, vm0, locs, Y, -⟩ := X; exact ⟨vm0, locs, Y⟩
theorem St.hx (X : St p l e R s m args below meth c own bytes maxL ret nm Z EL nw us bs T h cells slots) : p.tables.exec = Jvm.exec := X.1.1
theorem St.by (X : St p l e R s m args below meth c own bytes maxL ret nm Z EL nw us bs T h cells slots) : c.code = bytes := X.1.2.1
theorem St.old (X : St p l e R s m args below meth c own bytes maxL ret nm Z EL nw us bs T h cells slots) : Ext Z.heap h := by obtain ⟨-, _, _, -, -, -, -, -, -, q, -⟩ := X; exact q
theorem St.new (X : St p l e R s m args below meth c own bytes maxL ret nm Z EL nw us bs T h cells slots) {x : Addr} (hx : x ∈ us) : Z.heap.size ≤ x ∧ x < h.size := by
  obtain ⟨-, _, _, -, -, -, -, -, -, -, -, q, -⟩ := X; exact ⟨(q x hx).1, (q x hx).2.1⟩
theorem St.mono (X : St p l e R s m args below meth c own bytes maxL ret nm Z EL nw us bs T h cells slots) {cells' slots' : Nat} (hc : cells ≤ cells') (hs : slots ≤ slots') : St p l e R s m args below meth c own bytes maxL ret nm Z EL nw us bs T h cells' slots' := by
  obtain ⟨cx, vm0, locs, Y, r⟩ := X
  exact ⟨cx, vm0, locs, Y.mono hc hs, r⟩
theorem St.sub (X : St p l e R s m args below meth c own bytes maxL ret nm Z EL nw us bs T h cells slots) {us' : List Addr} (q : ∀ x ∈ us', x ∈ us) : St p l e R s m args below meth c own bytes maxL ret nm Z EL nw us' bs T h cells slots := by
  obtain ⟨cx, vm0, locs, Y, r1, r2, r3, r4, r5, r6, r7, r8, r9⟩ := X
  exact ⟨cx, vm0, locs, Y, r1, r2, r3, r4, r5, r6, r7, fun x hx => r8 x (q x hx), r9⟩

theorem Goes.step {S S' : State} (f : ∀ t, Steps p.tables e below S' t → Steps p.tables e below S t) (K : Goes p e below s Z EL nw Q kk nn S') : Goes p e below s Z EL nw Q kk nn S := by
  obtain ⟨U, o, hs, r⟩ := K; exact ⟨U, o, f _ hs, r⟩
theorem Goes.imp {Q' : Option Value → Heap → Prop} {S : State} (f : ∀ v h, Q v h → Q' v h) (K : Goes p e below s Z EL nw Q kk nn S) : Goes p e below s Z EL nw Q' kk nn S := by
  obtain ⟨U, o, h1, h2, h3, v, L, h4, h5, r⟩ := K; exact ⟨U, o, h1, h2, h3, v, L, h4, f _ _ h5, r⟩

/-- entering a method -/
theorem Ctr.enter {y : MethodName} {rm : Room} {as' : Array Value} (h1 : y.cls = own) (h2 : y.name = nm) (hEL : EW Z a0 EL) (hn : plainFor y = true) (Ls : Array Slot) (ef : ∀ m, entryFrame m as' maxL = mkF m 0 Ls [])
    (body : ∀ (p : Program) (e : Env) (s : State) (m : MethodId) (below : List Frame) (meth : Method) (c : Code) (T : State),
      St p l e rm s m as' below meth c own bytes maxL ret nm Z EL nw us [] T h 0 0 → Goes p e below s Z EL nw Q rm.cells rm.slots (T.setTop (mkF m 0 Ls []))) :
    Ctr l Z EL nw y bytes maxL ret rm as' h us Q := by
  subst h1 h2
  intro ws
  refine MetFree.of_bodySF hn hisR ?_
  intro p e s m args below meth c s₁ Bd hml0 hP _
  obtain ⟨rfl, hZ, hh, hE, hC, hU⟩ := hP
  have hnm := (name_of_methodNamed Bd.named Bd.method).1
  have hown : s.vm.findClass y.cls = some m.cls := findClass_of_methodNamed Bd.named
  have e0 : s₁.heap = h := by rw [← hh, Bd.state]; rfl
  have X0 : Stand p l e rm (s.setVm s.vm) m args below meth c s₁ [] 0 0 := Stand.of_body Bd
  have X : St p l e rm s m args below meth c y.cls bytes maxL ret y.name Z EL nw us [] s₁ h 0 0 :=
    ⟨⟨Bd.exec, Bd.bytes, hml0, Bd.returns, hnm, Bd.notSynchronized, a0, hEL⟩, s.vm, [], X0, Fr.nil _, e0, (State.WarmedH.refl s).since _, hZ, hown, hE, by rw [hh]; exact CHr.refl hC, hU, fun _ => State.WarmedH.refl s, fun _ q => by cases q⟩
  obtain ⟨U, o, h1, h2, h3, h4⟩ := body p e s m below meth c s₁ X
  refine ⟨U, o, ?_, h2, h3, h4⟩
  rw [ef m]; exact h1

theorem leave0 (X : St p l e R s m args below meth c own bytes maxL ret nm Z EL nw us bs T h cells slots) {v : Option Value} (hv : ret = none → v = none) (hc : cells ≤ kk) (hn : slots ≤ nn) (hQ : Q v h)
    {S : State} (f : ∀ fs, (∀ (f : JFrame) (acts : List Action), f.method = m → f.locked = none → f.entered = [] → (doReturn e (T.setTop f) acts v).1 = T.setFrames fs) → Steps p.tables e below S (T.setFrames fs)) :
    Goes p e below s Z EL nw Q kk nn S := by
  obtain ⟨⟨h1, h2, h3, h4, h5, h6, a0', hEL⟩, vm0, locs, Y, N, eT, hS, hZ, hown, hE, hC, hU, hW⟩ := X
  have Y' := Y.mono hc hn
  obtain ⟨fs, g1, g2, g3, g4⟩ := Y'.leaveW hS (Nat.le_of_eq (by rw [eT])) (v := v) (fun q => hv (h4 ▸ q)) h6
  have hal : CHr Z EL s.vm s.heap (T.setFrames fs).vm (T.setFrames fs).heap := by
    show CHr Z EL s.vm s.heap T.vm T.heap
    rw [eT]
    exact hC.trans (CHv.at Y hZ hEL hC.1)
  exact ⟨_, _, f fs g1, g2, g3, v, locs, rfl, by show Q v T.heap; rw [eT]; exact hQ, N, by show Ext Z.heap T.heap; rw [eT]; exact hE, hal, g4, fun q => State.WarmedH.trans (t := s.setVm vm0) (hW.1 q) Y.warmed⟩
end Base
section Ops
variable {p : Program} {l : Launch} {e : Env} {R : Room} {s : State} {m : MethodId} {args : Array Value} {below : List Frame} {meth : Method} {c : Code}
  {own : String} {bytes : ByteArray} {maxL : Nat} {ret : Option FieldType} {nm : String} {Z : State} {EL : List (String × Nat)} {nw : Bool} {us : List Addr} {bs : List (String × Nat × Addr)}
  {T : State} {h : Heap} {cells slots : Nat} {Q : Option Value → Heap → Prop} {kk nn : Nat} {a0 : Array Value} {pc : Nat} {Ls : Array Slot} {st : List Value}
theorem g_aload (X : St p l e R s m args below meth c own bytes maxL ret nm Z EL nw us bs T h cells slots) {k : Nat} {v : Value} (hd : decode bytes pc = .ok (.aload k, 2)) (hl : Ls[k]? = some (.val v)) (hv : v.isRef = true) (pc' : Nat) (hp : pc + 2 = pc')
    (K : Goes p e below s Z EL nw Q kk nn (T.setTop (mkF m pc' Ls (v :: st)))) : Goes p e below s Z EL nw Q kk nn (T.setTop (mkF m pc Ls (st))) := by
  subst hp
  exact K.step fun t k => XS.aload X.at X.hx rfl (hb X.by hd) hl hv k

theorem g_aloadN (X : St p l e R s m args below meth c own bytes maxL ret nm Z EL nw us bs T h cells slots) {k : Fin 4} {v : Value} (hd : decode bytes pc = .ok (.aload_n k, 1)) (hl : Ls[k.val]? = some (.val v)) (hv : v.isRef = true) (pc' : Nat) (hp : pc + 1 = pc')
    (K : Goes p e below s Z EL nw Q kk nn (T.setTop (mkF m pc' Ls (v :: st)))) : Goes p e below s Z EL nw Q kk nn (T.setTop (mkF m pc Ls (st))) := by
  subst hp
  exact K.step fun t k => XS.aloadN X.at X.hx rfl (hb X.by hd) hl hv k

theorem g_iload (X : St p l e R s m args below meth c own bytes maxL ret nm Z EL nw us bs T h cells slots) {k : Nat} {v : Int32} (hd : decode bytes pc = .ok (.iload k, 2)) (hl : Ls[k]? = some (.val (.int v))) (pc' : Nat) (hp : pc + 2 = pc')
    (K : Goes p e below s Z EL nw Q kk nn (T.setTop (mkF m pc' Ls (.int v :: st)))) : Goes p e below s Z EL nw Q kk nn (T.setTop (mkF m pc Ls (st))) := by
  subst hp
  exact K.step fun t k => XS.iload X.at X.hx rfl (hb X.by hd) hl k

theorem g_iloadN (X : St p l e R s m args below meth c own bytes maxL ret nm Z EL nw us bs T h cells slots) {k : Fin 4} {v : Int32} (hd : decode bytes pc = .ok (.iload_n k, 1)) (hl : Ls[k.val]? = some (.val (.int v))) (pc' : Nat) (hp : pc + 1 = pc')
    (K : Goes p e below s Z EL nw Q kk nn (T.setTop (mkF m pc' Ls (.int v :: st)))) : Goes p e below s Z EL nw Q kk nn (T.setTop (mkF m pc Ls (st))) := by
  subst hp
  exact K.step fun t k => XS.iloadN X.at X.hx rfl (hb X.by hd) hl k

theorem g_istore (X : St p l e R s m args below meth c own bytes maxL ret nm Z EL nw us bs T h cells slots) {k : Nat} {x : Int32} {Ls' : Array Slot} (hd : decode bytes pc = .ok (.istore k, 2)) (hl : storeLocals Ls k (.int x) = some Ls') (pc' : Nat) (hp : pc + 2 = pc')
    (K : Goes p e below s Z EL nw Q kk nn (T.setTop (mkF m pc' Ls' (st)))) : Goes p e below s Z EL nw Q kk nn (T.setTop (mkF m pc Ls (.int x :: st))) := by
  subst hp
  exact K.step fun t k => XS.istore X.at X.hx rfl (hb X.by hd) rfl hl k

theorem g_istoreN (X : St p l e R s m args below meth c own bytes maxL ret nm Z EL nw us bs T h cells slots) {k : Fin 4} {x : Int32} {Ls' : Array Slot} (hd : decode bytes pc = .ok (.istore_n k, 1)) (hl : storeLocals Ls k.val (.int x) = some Ls') (pc' : Nat) (hp : pc + 1 = pc')
    (K : Goes p e below s Z EL nw Q kk nn (T.setTop (mkF m pc' Ls' (st)))) : Goes p e below s Z EL nw Q kk nn (T.setTop (mkF m pc Ls (.int x :: st))) := by
  subst hp
  exact K.step fun t k => XS.istoreN X.at X.hx rfl (hb X.by hd) rfl hl k

theorem g_astore (X : St p l e R s m args below meth c own bytes maxL ret nm Z EL nw us bs T h cells slots) {k : Nat} {x : Value} {Ls' : Array Slot} (hd : decode bytes pc = .ok (.astore k, 2)) (hv : x.isRef = true) (hl : storeLocals Ls k x = some Ls') (pc' : Nat) (hp : pc + 2 = pc')
    (K : Goes p e below s Z EL nw Q kk nn (T.setTop (mkF m pc' Ls' (st)))) : Goes p e below s Z EL nw Q kk nn (T.setTop (mkF m pc Ls (x :: st))) := by
  subst hp
  exact K.step fun t k => XS.astore X.at X.hx rfl (hb X.by hd) rfl hv hl k

theorem g_astoreN (X : St p l e R s m args below meth c own bytes maxL ret nm Z EL nw us bs T h cells slots) {k : Fin 4} {x : Value} {Ls' : Array Slot} (hd : decode bytes pc = .ok (.astore_n k, 1)) (hv : x.isRef = true) (hl : storeLocals Ls k.val x = some Ls') (pc' : Nat) (hp : pc + 1 = pc')
    (K : Goes p e below s Z EL nw Q kk nn (T.setTop (mkF m pc' Ls' (st)))) : Goes p e below s Z EL nw Q kk nn (T.setTop (mkF m pc Ls (x :: st))) := by
  subst hp
  exact K.step fun t k => XS.astoreN X.at X.hx rfl (hb X.by hd) rfl hv hl k

theorem g_iconst (X : St p l e R s m args below meth c own bytes maxL ret nm Z EL nw us bs T h cells slots) {i : Int} (w : Int32) (hd : decode bytes pc = .ok (.iconst i, 1)) (hw : Int32.ofInt i = w) (pc' : Nat) (hp : pc + 1 = pc')
    (K : Goes p e below s Z EL nw Q kk nn (T.setTop (mkF m pc' Ls (.int w :: st)))) : Goes p e below s Z EL nw Q kk nn (T.setTop (mkF m pc Ls (st))) := by
  subst hp
  exact K.step fun t k => XS.iconst X.at X.hx rfl (hb X.by hd) (by rw [hw]; exact k)

theorem g_bipush (X : St p l e R s m args below meth c own bytes maxL ret nm Z EL nw us bs T h cells slots) {i : Int} (w : Int32) (hd : decode bytes pc = .ok (.bipush i, 2)) (hw : (Int8.ofInt i).toInt32 = w) (pc' : Nat) (hp : pc + 2 = pc')
    (K : Goes p e below s Z EL nw Q kk nn (T.setTop (mkF m pc' Ls (.int w :: st)))) : Goes p e below s Z EL nw Q kk nn (T.setTop (mkF m pc Ls (st))) := by
  subst hp
  exact K.step fun t k => XS.bipush X.at X.hx rfl (hb X.by hd) (by rw [hw]; exact k)

theorem g_sipush (X : St p l e R s m args below meth c own bytes maxL ret nm Z EL nw us bs T h cells slots) {i : Int} (w : Int32) (hd : decode bytes pc = .ok (.sipush i, 3)) (hw : (Int16.ofInt i).toInt32 = w) (pc' : Nat) (hp : pc + 3 = pc')
    (K : Goes p e below s Z EL nw Q kk nn (T.setTop (mkF m pc' Ls (.int w :: st)))) : Goes p e below s Z EL nw Q kk nn (T.setTop (mkF m pc Ls (st))) := by
  subst hp
  exact K.step fun t k => XS.sipush X.at X.hx rfl (hb X.by hd) (by rw [hw]; exact k)

theorem g_aconstNull (X : St p l e R s m args below meth c own bytes maxL ret nm Z EL nw us bs T h cells slots)  (hd : decode bytes pc = .ok (.aconst_null, 1))  (pc' : Nat) (hp : pc + 1 = pc')
    (K : Goes p e below s Z EL nw Q kk nn (T.setTop (mkF m pc' Ls (.null :: st)))) : Goes p e below s Z EL nw Q kk nn (T.setTop (mkF m pc Ls (st))) := by
  subst hp
  exact K.step fun t k => XS.aconstNull X.at X.hx rfl (hb X.by hd) k

theorem g_iadd (X : St p l e R s m args below meth c own bytes maxL ret nm Z EL nw us bs T h cells slots) {x y : Int32} (hd : decode bytes pc = .ok (.iadd, 1)) (w : Int32) (hw : x + y = w) (pc' : Nat) (hp : pc + 1 = pc')
    (K : Goes p e below s Z EL nw Q kk nn (T.setTop (mkF m pc' Ls (.int w :: st)))) : Goes p e below s Z EL nw Q kk nn (T.setTop (mkF m pc Ls (.int y :: .int x :: st))) := by
  subst hp
  exact K.step fun t k => XS.iadd X.at X.hx rfl (hb X.by hd) rfl (by rw [hw]; exact k)

theorem g_isub (X : St p l e R s m args below meth c own bytes maxL ret nm Z EL nw us bs T h cells slots) {x y : Int32} (hd : decode bytes pc = .ok (.isub, 1)) (w : Int32) (hw : x - y = w) (pc' : Nat) (hp : pc + 1 = pc')
    (K : Goes p e below s Z EL nw Q kk nn (T.setTop (mkF m pc' Ls (.int w :: st)))) : Goes p e below s Z EL nw Q kk nn (T.setTop (mkF m pc Ls (.int y :: .int x :: st))) := by
  subst hp
  exact K.step fun t k => XS.isub X.at X.hx rfl (hb X.by hd) rfl (by rw [hw]; exact k)

theorem g_iand (X : St p l e R s m args below meth c own bytes maxL ret nm Z EL nw us bs T h cells slots) {x y : Int32} (hd : decode bytes pc = .ok (.iand, 1)) (w : Int32) (hw : x &&& y = w) (pc' : Nat) (hp : pc + 1 = pc')
    (K : Goes p e below s Z EL nw Q kk nn (T.setTop (mkF m pc' Ls (.int w :: st)))) : Goes p e below s Z EL nw Q kk nn (T.setTop (mkF m pc Ls (.int y :: .int x :: st))) := by
  subst hp
  exact K.step fun t k => XS.iand X.at X.hx rfl (hb X.by hd) rfl (by rw [hw]; exact k)

theorem g_imul (X : St p l e R s m args below meth c own bytes maxL ret nm Z EL nw us bs T h cells slots) {x y : Int32} (hd : decode bytes pc = .ok (.imul, 1)) (w : Int32) (hw : x * y = w) (pc' : Nat) (hp : pc + 1 = pc')
    (K : Goes p e below s Z EL nw Q kk nn (T.setTop (mkF m pc' Ls (.int w :: st)))) : Goes p e below s Z EL nw Q kk nn (T.setTop (mkF m pc Ls (.int y :: .int x :: st))) := by
  subst hp
  exact K.step fun t k => XS.imul X.at X.hx rfl (hb X.by hd) rfl (by rw [hw]; exact k)

theorem g_ixor (X : St p l e R s m args below meth c own bytes maxL ret nm Z EL nw us bs T h cells slots) {x y : Int32} (hd : decode bytes pc = .ok (.ixor, 1)) (w : Int32) (hw : x ^^^ y = w) (pc' : Nat) (hp : pc + 1 = pc')
    (K : Goes p e below s Z EL nw Q kk nn (T.setTop (mkF m pc' Ls (.int w :: st)))) : Goes p e below s Z EL nw Q kk nn (T.setTop (mkF m pc Ls (.int y :: .int x :: st))) := by
  subst hp
  exact K.step fun t k => XT.ixor X.at X.hx rfl (hb X.by hd) rfl (by rw [hw]; exact k)

theorem g_ior (X : St p l e R s m args below meth c own bytes maxL ret nm Z EL nw us bs T h cells slots) {x y : Int32} (hd : decode bytes pc = .ok (.ior, 1)) (w : Int32) (hw : x ||| y = w) (pc' : Nat) (hp : pc + 1 = pc')
    (K : Goes p e below s Z EL nw Q kk nn (T.setTop (mkF m pc' Ls (.int w :: st)))) : Goes p e below s Z EL nw Q kk nn (T.setTop (mkF m pc Ls (.int y :: .int x :: st))) := by
  subst hp
  exact K.step fun t k => XT.ior X.at X.hx rfl (hb X.by hd) rfl (by rw [hw]; exact k)

theorem g_irem (X : St p l e R s m args below meth c own bytes maxL ret nm Z EL nw us bs T h cells slots) {x y : Int32} (hd : decode bytes pc = .ok (.irem, 1)) (hy : y ≠ 0) (w : Int32) (hw : x % y = w) (pc' : Nat) (hp : pc + 1 = pc')
    (K : Goes p e below s Z EL nw Q kk nn (T.setTop (mkF m pc' Ls (.int w :: st)))) : Goes p e below s Z EL nw Q kk nn (T.setTop (mkF m pc Ls (.int y :: .int x :: st))) := by
  subst hp hw
  obtain ⟨vm0, locs, Y⟩ := X.std
  exact K.step fun t k => iremM Y X.hx rfl (hb X.by hd) rfl hy k

theorem g_idiv (X : St p l e R s m args below meth c own bytes maxL ret nm Z EL nw us bs T h cells slots) {x y : Int32} (hd : decode bytes pc = .ok (.idiv, 1)) (hy : y ≠ 0) (w : Int32) (hw : x / y = w) (pc' : Nat) (hp : pc + 1 = pc')
    (K : Goes p e below s Z EL nw Q kk nn (T.setTop (mkF m pc' Ls (.int w :: st)))) : Goes p e below s Z EL nw Q kk nn (T.setTop (mkF m pc Ls (.int y :: .int x :: st))) := by
  subst hp
  exact K.step fun t k => XS.idiv X.at X.hx rfl (hb X.by hd) rfl hy (by rw [hw]; exact k)

theorem g_ineg (X : St p l e R s m args below meth c own bytes maxL ret nm Z EL nw us bs T h cells slots) {x : Int32} (hd : decode bytes pc = .ok (.ineg, 1)) (w : Int32) (hw : -x = w) (pc' : Nat) (hp : pc + 1 = pc')
    (K : Goes p e below s Z EL nw Q kk nn (T.setTop (mkF m pc' Ls (.int w :: st)))) : Goes p e below s Z EL nw Q kk nn (T.setTop (mkF m pc Ls (.int x :: st))) := by
  subst hp
  exact K.step fun t k => XS.ineg X.at X.hx rfl (hb X.by hd) rfl (by rw [hw]; exact k)

theorem g_iushr (X : St p l e R s m args below meth c own bytes maxL ret nm Z EL nw us bs T h cells slots) {x y : Int32} (hd : decode bytes pc = .ok (.iushr, 1)) (w : Int32) (hw : XT.ushr x y = w) (pc' : Nat) (hp : pc + 1 = pc')
    (K : Goes p e below s Z EL nw Q kk nn (T.setTop (mkF m pc' Ls (.int w :: st)))) : Goes p e below s Z EL nw Q kk nn (T.setTop (mkF m pc Ls (.int y :: .int x :: st))) := by
  subst hp
  exact K.step fun t k => XT.iushr X.at X.hx rfl (hb X.by hd) rfl (by rw [hw]; exact k)

theorem g_ishr (X : St p l e R s m args below meth c own bytes maxL ret nm Z EL nw us bs T h cells slots) {x y : Int32} (hd : decode bytes pc = .ok (.ishr, 1)) (w : Int32) (hw : x >>> (y &&& 31) = w) (pc' : Nat) (hp : pc + 1 = pc')
    (K : Goes p e below s Z EL nw Q kk nn (T.setTop (mkF m pc' Ls (.int w :: st)))) : Goes p e below s Z EL nw Q kk nn (T.setTop (mkF m pc Ls (.int y :: .int x :: st))) := by
  subst hp
  exact K.step fun t k => XT.ishr X.at X.hx rfl (hb X.by hd) rfl (by rw [hw]; exact k)

theorem g_ishl (X : St p l e R s m args below meth c own bytes maxL ret nm Z EL nw us bs T h cells slots) {x y : Int32} (hd : decode bytes pc = .ok (.ishl, 1)) (w : Int32) (hw : x <<< (y &&& 31) = w) (pc' : Nat) (hp : pc + 1 = pc')
    (K : Goes p e below s Z EL nw Q kk nn (T.setTop (mkF m pc' Ls (.int w :: st)))) : Goes p e below s Z EL nw Q kk nn (T.setTop (mkF m pc Ls (.int y :: .int x :: st))) := by
  subst hp
  exact K.step fun t k => XT.ishl X.at X.hx rfl (hb X.by hd) rfl (by rw [hw]; exact k)

theorem g_i2c (X : St p l e R s m args below meth c own bytes maxL ret nm Z EL nw us bs T h cells slots) {x : Int32} (hd : decode bytes pc = .ok (.i2c, 1)) (w : Int32) (hw : x.toUInt32.toUInt16.toUInt32.toInt32 = w) (pc' : Nat) (hp : pc + 1 = pc')
    (K : Goes p e below s Z EL nw Q kk nn (T.setTop (mkF m pc' Ls (.int w :: st)))) : Goes p e below s Z EL nw Q kk nn (T.setTop (mkF m pc Ls (.int x :: st))) := by
  subst hp
  exact K.step fun t k => XT.i2c X.at X.hx rfl (hb X.by hd) rfl (by rw [hw]; exact k)

theorem g_i2b (X : St p l e R s m args below meth c own bytes maxL ret nm Z EL nw us bs T h cells slots) {x : Int32} (hd : decode bytes pc = .ok (.i2b, 1)) (w : Int32) (hw : x.toInt8.toInt32 = w) (pc' : Nat) (hp : pc + 1 = pc')
    (K : Goes p e below s Z EL nw Q kk nn (T.setTop (mkF m pc' Ls (.int w :: st)))) : Goes p e below s Z EL nw Q kk nn (T.setTop (mkF m pc Ls (.int x :: st))) := by
  subst hp
  exact K.step fun t k => XT.i2b X.at X.hx rfl (hb X.by hd) rfl (by rw [hw]; exact k)

theorem g_i2l (X : St p l e R s m args below meth c own bytes maxL ret nm Z EL nw us bs T h cells slots) {x : Int32} (hd : decode bytes pc = .ok (.i2l, 1)) (w : Int64) (hw : x.toInt64 = w) (pc' : Nat) (hp : pc + 1 = pc')
    (K : Goes p e below s Z EL nw Q kk nn (T.setTop (mkF m pc' Ls (.long w :: st)))) : Goes p e below s Z EL nw Q kk nn (T.setTop (mkF m pc Ls (.int x :: st))) := by
  subst hp
  exact K.step fun t k => XT.i2l X.at X.hx rfl (hb X.by hd) rfl (by rw [hw]; exact k)

theorem g_lsub (X : St p l e R s m args below meth c own bytes maxL ret nm Z EL nw us bs T h cells slots) {x y : Int64} (hd : decode bytes pc = .ok (.lsub, 1)) (w : Int64) (hw : x - y = w) (pc' : Nat) (hp : pc + 1 = pc')
    (K : Goes p e below s Z EL nw Q kk nn (T.setTop (mkF m pc' Ls (.long w :: st)))) : Goes p e below s Z EL nw Q kk nn (T.setTop (mkF m pc Ls (.long y :: .long x :: st))) := by
  subst hp
  exact K.step fun t k => XT.lsub X.at X.hx rfl (hb X.by hd) rfl (by rw [hw]; exact k)

theorem g_lcmp (X : St p l e R s m args below meth c own bytes maxL ret nm Z EL nw us bs T h cells slots) {x y : Int64} (hd : decode bytes pc = .ok (.lcmp, 1)) (w : Int32) (hw : XT.cmpL x y = w) (pc' : Nat) (hp : pc + 1 = pc')
    (K : Goes p e below s Z EL nw Q kk nn (T.setTop (mkF m pc' Ls (.int w :: st)))) : Goes p e below s Z EL nw Q kk nn (T.setTop (mkF m pc Ls (.long y :: .long x :: st))) := by
  subst hp
  exact K.step fun t k => XT.lcmp X.at X.hx rfl (hb X.by hd) rfl (by rw [hw]; exact k)

theorem g_dup (X : St p l e R s m args below meth c own bytes maxL ret nm Z EL nw us bs T h cells slots) {x : Value} (hd : decode bytes pc = .ok (.dup, 1)) (hc : x.category = 1) (pc' : Nat) (hp : pc + 1 = pc')
    (K : Goes p e below s Z EL nw Q kk nn (T.setTop (mkF m pc' Ls (x :: x :: st)))) : Goes p e below s Z EL nw Q kk nn (T.setTop (mkF m pc Ls (x :: st))) := by
  subst hp
  exact K.step fun t k => XS.dup X.at X.hx rfl (hb X.by hd) rfl hc k

theorem g_pop (X : St p l e R s m args below meth c own bytes maxL ret nm Z EL nw us bs T h cells slots) {x : Value} (hd : decode bytes pc = .ok (.pop, 1)) (hc : x.category = 1) (pc' : Nat) (hp : pc + 1 = pc')
    (K : Goes p e below s Z EL nw Q kk nn (T.setTop (mkF m pc' Ls (st)))) : Goes p e below s Z EL nw Q kk nn (T.setTop (mkF m pc Ls (x :: st))) := by
  subst hp
  exact K.step fun t k => XT.pop X.at X.hx rfl (hb X.by hd) rfl hc k

theorem g_iinc (X : St p l e R s m args below meth c own bytes maxL ret nm Z EL nw us bs T h cells slots) {k : Nat} {i : Int} {x : Int32} {Ls' : Array Slot} (hd : decode bytes pc = .ok (.iinc k i, 3)) (hl : Ls[k]? = some (.val (.int x))) (w : Int32) (hw : x + Int32.ofInt i = w) (hl' : storeLocals Ls k (.int w) = some Ls') (pc' : Nat) (hp : pc + 3 = pc')
    (K : Goes p e below s Z EL nw Q kk nn (T.setTop (mkF m pc' Ls' (st)))) : Goes p e below s Z EL nw Q kk nn (T.setTop (mkF m pc Ls (st))) := by
  subst hp
  exact K.step fun t k => XS.iinc X.at X.hx rfl (hb X.by hd) hl (by rw [hw]; exact hl') k

theorem g_ifNo (X : St p l e R s m args below meth c own bytes maxL ret nm Z EL nw us bs T h cells slots) {cd : ClassFile.Cond} {o : Int} {x : Int32} (hd : decode bytes pc = .ok (.ifCond cd o, 3)) (hc : if_icmp.holds cd x 0 = false) (pc' : Nat) (hp : pc + 3 = pc')
    (K : Goes p e below s Z EL nw Q kk nn (T.setTop (mkF m pc' Ls (st)))) : Goes p e below s Z EL nw Q kk nn (T.setTop (mkF m pc Ls (.int x :: st))) := by
  subst hp
  exact K.step fun t k => XS.ifNo X.at X.hx rfl (hb X.by hd) rfl ((if0 cd x).trans hc) k

theorem g_icmpNo (X : St p l e R s m args below meth c own bytes maxL ret nm Z EL nw us bs T h cells slots) {cd : ClassFile.Cond} {o : Int} {x y : Int32} (hd : decode bytes pc = .ok (.if_icmp cd o, 3)) (hc : if_icmp.holds cd x y = false) (pc' : Nat) (hp : pc + 3 = pc')
    (K : Goes p e below s Z EL nw Q kk nn (T.setTop (mkF m pc' Ls (st)))) : Goes p e below s Z EL nw Q kk nn (T.setTop (mkF m pc Ls (.int y :: .int x :: st))) := by
  subst hp
  exact K.step fun t k => XS.icmpNo X.at X.hx rfl (hb X.by hd) rfl hc k

theorem g_ifnullNo (X : St p l e R s m args below meth c own bytes maxL ret nm Z EL nw us bs T h cells slots) {o : Int} {b : Addr} (hd : decode bytes pc = .ok (.ifnull o, 3))  (pc' : Nat) (hp : pc + 3 = pc')
    (K : Goes p e below s Z EL nw Q kk nn (T.setTop (mkF m pc' Ls (st)))) : Goes p e below s Z EL nw Q kk nn (T.setTop (mkF m pc Ls (.ref b :: st))) := by
  subst hp
  exact K.step fun t k => XS.ifnullNo X.at X.hx rfl (hb X.by hd) rfl k

theorem g_ifnonnullNo (X : St p l e R s m args below meth c own bytes maxL ret nm Z EL nw us bs T h cells slots) {o : Int} (hd : decode bytes pc = .ok (.ifnonnull o, 3))  (pc' : Nat) (hp : pc + 3 = pc')
    (K : Goes p e below s Z EL nw Q kk nn (T.setTop (mkF m pc' Ls (st)))) : Goes p e below s Z EL nw Q kk nn (T.setTop (mkF m pc Ls (.null :: st))) := by
  subst hp
  exact K.step fun t k => XT.ifnonnullNo X.at X.hx rfl (hb X.by hd) rfl k

theorem g_acmpNo (X : St p l e R s m args below meth c own bytes maxL ret nm Z EL nw us bs T h cells slots) {cd : ClassFile.ACond} {o : Int} {x y : Value} (hd : decode bytes pc = .ok (.if_acmp cd o, 3)) (hx' : x.isRef = true) (hy' : y.isRef = true) (hc : XT.acmp cd x y = false) (pc' : Nat) (hp : pc + 3 = pc')
    (K : Goes p e below s Z EL nw Q kk nn (T.setTop (mkF m pc' Ls (st)))) : Goes p e below s Z EL nw Q kk nn (T.setTop (mkF m pc Ls (y :: x :: st))) := by
  subst hp
  exact K.step fun t k => XT.acmpNo X.at X.hx rfl (hb X.by hd) rfl hx' hy' hc k

theorem g_goto (X : St p l e R s m args below meth c own bytes maxL ret nm Z EL nw us bs T h cells slots)  {o : Int} (hd : decode bytes pc = .ok (.goto o, 3))  (pc' : Nat) (ho : 0 ≤ (pc : Int) + o) (hp : ((pc : Int) + o).toNat = pc')
    (K : Goes p e below s Z EL nw Q kk nn (T.setTop (mkF m pc' Ls (st)))) : Goes p e below s Z EL nw Q kk nn (T.setTop (mkF m pc Ls (st))) :=
  K.step fun t k => XS.goto X.at X.hx rfl (pc0 := pc) rfl (hb X.by hd) ho hp k

theorem g_ifYes (X : St p l e R s m args below meth c own bytes maxL ret nm Z EL nw us bs T h cells slots) {cd : ClassFile.Cond} {x : Int32} {o : Int} (hd : decode bytes pc = .ok (.ifCond cd o, 3)) (hc : if_icmp.holds cd x 0 = true) (pc' : Nat) (ho : 0 ≤ (pc : Int) + o) (hp : ((pc : Int) + o).toNat = pc')
    (K : Goes p e below s Z EL nw Q kk nn (T.setTop (mkF m pc' Ls (st)))) : Goes p e below s Z EL nw Q kk nn (T.setTop (mkF m pc Ls (.int x :: st))) :=
  K.step fun t k => XS.ifYes X.at X.hx rfl (pc0 := pc) rfl (hb X.by hd) rfl ((if0 cd x).trans hc) ho hp k

theorem g_icmpYes (X : St p l e R s m args below meth c own bytes maxL ret nm Z EL nw us bs T h cells slots) {cd : ClassFile.Cond} {x y : Int32} {o : Int} (hd : decode bytes pc = .ok (.if_icmp cd o, 3)) (hc : if_icmp.holds cd x y = true) (pc' : Nat) (ho : 0 ≤ (pc : Int) + o) (hp : ((pc : Int) + o).toNat = pc')
    (K : Goes p e below s Z EL nw Q kk nn (T.setTop (mkF m pc' Ls (st)))) : Goes p e below s Z EL nw Q kk nn (T.setTop (mkF m pc Ls (.int y :: .int x :: st))) :=
  K.step fun t k => XS.icmpYes X.at X.hx rfl (pc0 := pc) rfl (hb X.by hd) rfl hc ho hp k

theorem g_ifnullYes (X : St p l e R s m args below meth c own bytes maxL ret nm Z EL nw us bs T h cells slots)  {o : Int} (hd : decode bytes pc = .ok (.ifnull o, 3))  (pc' : Nat) (ho : 0 ≤ (pc : Int) + o) (hp : ((pc : Int) + o).toNat = pc')
    (K : Goes p e below s Z EL nw Q kk nn (T.setTop (mkF m pc' Ls (st)))) : Goes p e below s Z EL nw Q kk nn (T.setTop (mkF m pc Ls (.null :: st))) :=
  K.step fun t k => XS.ifnullYes X.at X.hx rfl (pc0 := pc) rfl (hb X.by hd) rfl ho hp k

theorem g_ifnonnullYes (X : St p l e R s m args below meth c own bytes maxL ret nm Z EL nw us bs T h cells slots) {b : Addr} {o : Int} (hd : decode bytes pc = .ok (.ifnonnull o, 3))  (pc' : Nat) (ho : 0 ≤ (pc : Int) + o) (hp : ((pc : Int) + o).toNat = pc')
    (K : Goes p e below s Z EL nw Q kk nn (T.setTop (mkF m pc' Ls (st)))) : Goes p e below s Z EL nw Q kk nn (T.setTop (mkF m pc Ls (.ref b :: st))) :=
  K.step fun t k => XT.ifnonnullYes X.at X.hx rfl (pc0 := pc) rfl (hb X.by hd) rfl ho hp k

theorem g_acmpYes (X : St p l e R s m args below meth c own bytes maxL ret nm Z EL nw us bs T h cells slots) {cd : ClassFile.ACond} {x y : Value} {o : Int} (hd : decode bytes pc = .ok (.if_acmp cd o, 3)) (hx' : x.isRef = true) (hy' : y.isRef = true) (hc : XT.acmp cd x y = true) (pc' : Nat) (ho : 0 ≤ (pc : Int) + o) (hp : ((pc : Int) + o).toNat = pc')
    (K : Goes p e below s Z EL nw Q kk nn (T.setTop (mkF m pc' Ls (st)))) : Goes p e below s Z EL nw Q kk nn (T.setTop (mkF m pc Ls (y :: x :: st))) :=
  K.step fun t k => XT.acmpYes X.at X.hx rfl (pc0 := pc) rfl (hb X.by hd) rfl hx' hy' hc ho hp k
end Ops
section Rets
variable {p : Program} {l : Launch} {e : Env} {R : Room} {s : State} {m : MethodId} {args : Array Value} {below : List Frame} {meth : Method} {c : Code}
  {own : String} {bytes : ByteArray} {maxL : Nat} {ret : Option FieldType} {nm : String} {Z : State} {EL : List (String × Nat)} {nw : Bool} {us : List Addr} {bs : List (String × Nat × Addr)}
  {T : State} {h : Heap} {cells slots : Nat} {Q : Option Value → Heap → Prop} {kk nn : Nat} {a0 : Array Value} {pc : Nat} {Ls : Array Slot} {st : List Value}

theorem g_retN (X : St p l e R s m args below meth c own bytes maxL ret nm Z EL nw us bs T h cells slots) {z : Int32} {t : FieldType} {rest : List Value} (hret : ret = some t) (ht : t = .boolean ∨ t = .byte ∨ t = .char ∨ t = .short) (hd : decode bytes pc = .ok (.ireturn, 1)) (w : Int32) (hw : nar t z = w) (hc : cells ≤ kk) (hn : slots ≤ nn) (hQ : Q (some (.int w)) h) :
    Goes p e below s Z EL nw Q kk nn (T.setTop (mkF m pc Ls (.int z :: rest))) := by
  subst hw
  have h4 := X.1.2.2.2.1
  exact leave0 X (fun q => by rw [hret] at q; cases q) hc hn hQ fun fs g1 => by
    obtain ⟨vm0, locs, Y⟩ := X.std
    exact retN Y X.hx (h4.trans hret) ht (hb X.by hd) g1
theorem g_retI (X : St p l e R s m args below meth c own bytes maxL ret nm Z EL nw us bs T h cells slots) {z : Int32} {rest : List Value} (hret : ret = some .int) (hd : decode bytes pc = .ok (.ireturn, 1)) (hc : cells ≤ kk) (hn : slots ≤ nn) (hQ : Q (some (.int z)) h) :
    Goes p e below s Z EL nw Q kk nn (T.setTop (mkF m pc Ls (.int z :: rest))) := by
  have h4 := X.1.2.2.2.1
  exact leave0 X (fun q => by rw [hret] at q; cases q) hc hn hQ fun fs g1 => by
    obtain ⟨vm0, locs, Y⟩ := X.std
    exact retOut Y X.hx (h4.trans hret) rfl (Or.inl ⟨rfl, Or.inl rfl, z, rfl⟩) (hb X.by hd) g1
theorem g_retA (X : St p l e R s m args below meth c own bytes maxL ret nm Z EL nw us bs T h cells slots) {w : Value} {t : FieldType} {rest : List Value} (hret : ret = some t) (ht : t.isReference = true) (hw : w.isRef = true) (hd : decode bytes pc = .ok (.areturn, 1)) (hc : cells ≤ kk) (hn : slots ≤ nn) (hQ : Q (some w) h) :
    Goes p e below s Z EL nw Q kk nn (T.setTop (mkF m pc Ls (w :: rest))) := by
  have h4 := X.1.2.2.2.1
  have hnar : narrow t w = w := by
    rcases ref_cases hw with rfl | ⟨a, rfl⟩ <;> cases t <;> first | rfl | simp [FieldType.isReference] at ht
  exact leave0 X (fun q => by rw [hret] at q; cases q) hc hn hQ fun fs g1 => by
    obtain ⟨vm0, locs, Y⟩ := X.std
    exact retOut Y X.hx (h4.trans hret) hnar (Or.inr (Or.inr (Or.inr (Or.inr ⟨rfl, ht, hw⟩)))) (hb X.by hd) g1
theorem g_ret (X : St p l e R s m args below meth c own bytes maxL ret nm Z EL nw us bs T h cells slots) (hret : ret = none) (hd : decode bytes pc = .ok (.return_, 1)) (hc : cells ≤ kk) (hn : slots ≤ nn) (hQ : Q none h) :
    Goes p e below s Z EL nw Q kk nn (T.setTop (mkF m pc Ls [])) := by
  have h4 := X.1.2.2.2.1
  exact leave0 X (fun _ => rfl) hc hn hQ fun fs g1 => by
    obtain ⟨vm0, locs, Y⟩ := X.std
    exact Y.returnOut X.hx (h4.trans hret) (hb X.by hd) g1
end Rets
section HeapOps
variable {p : Program} {l : Launch} {e : Env} {R : Room} {s : State} {m : MethodId} {args : Array Value} {below : List Frame} {meth : Method} {c : Code}
  {own : String} {bytes : ByteArray} {maxL : Nat} {ret : Option FieldType} {nm : String} {Z : State} {EL : List (String × Nat)} {nw : Bool} {us : List Addr} {bs : List (String × Nat × Addr)}
  {T : State} {h : Heap} {cells slots : Nat} {Q : Option Value → Heap → Prop} {kk nn : Nat} {a0 : Array Value} {pc : Nat} {Ls : Array Slot} {st : List Value}

theorem g_ldcI (X : St p l e R s m args below meth c own bytes maxL ret nm Z EL nw us bs T h cells slots) {ix : Nat} {v : Int32} (w : (Jvm.Cond.constant own ix v).before a0 Z = true) (hd : decode bytes pc = .ok (.ldc ix, 2)) (pc' : Nat) (hp : pc + 2 = pc')
    (K : Goes p e below s Z EL nw Q kk nn (T.setTop (mkF m pc' Ls (.int v :: st)))) : Goes p e below s Z EL nw Q kk nn (T.setTop (mkF m pc Ls st)) := by
  subst hp
  obtain ⟨cx, vm0, locs, Y, N, eT, hS, hZ, hown, r⟩ := X
  exact K.step fun t k => Y.ldcI cx.1 hown (mv (s := s.setVm vm0) hZ w) rfl (hb cx.2.1 hd) k
theorem g_getF (X : St p l e R s m args below meth c own bytes maxL ret nm Z EL nw us bs T h cells slots) {R0 O n d host : String} {ix : Nat} {a : Addr} {v : Value} (w : (Jvm.Cond.fieldLink own ix R0 n d).before a0 Z = true ∨ (Jvm.Cond.fieldLinkNest own ix R0 n d host).before a0 Z = true) (via : Via Z R0 O n d) (F : Fld Z h a O n d v)
    (hd : decode bytes pc = .ok (.getfield ix, 3)) (pc' : Nat) (hp : pc + 3 = pc')
    (K : ∀ T', St p l e R s m args below meth c own bytes maxL ret nm Z EL nw us bs T' h cells slots → Goes p e below s Z EL nw Q kk nn (T'.setTop (mkF m pc' Ls (v :: st)))) : Goes p e below s Z EL nw Q kk nn (T.setTop (mkF m pc Ls (.ref a :: st))) := by
  subst hp
  obtain ⟨cx, vm0, locs, Y, N, eT, hS, hZ, hown, r⟩ := X
  obtain ⟨T', Y', e', stp⟩ := getF Y cx.1 hZ hown w via eT F (g := mkF m pc Ls (.ref a :: st)) rfl rfl (hb cx.2.1 hd)
  exact (K T' ⟨cx, vm0, locs, Y', N, e', hS, hZ, hown, r⟩).step stp
theorem g_getS (X : St p l e R s m args below meth c own bytes maxL ret nm Z EL nw us bs T h cells slots) {R0 O n d host : String} {ix : Nat} {v : Value} (w : (Jvm.Cond.fieldLink own ix R0 n d).before a0 Z = true ∨ (Jvm.Cond.fieldLinkNest own ix R0 n d host).before a0 Z = true) (via : Via Z R0 O n d) (F : Sta Z h O n d v)
    (hd : decode bytes pc = .ok (.getstatic ix, 3)) (pc' : Nat) (hp : pc + 3 = pc')
    (K : ∀ T', St p l e R s m args below meth c own bytes maxL ret nm Z EL nw us bs T' h cells slots → Goes p e below s Z EL nw Q kk nn (T'.setTop (mkF m pc' Ls (v :: st)))) : Goes p e below s Z EL nw Q kk nn (T.setTop (mkF m pc Ls st)) := by
  subst hp
  obtain ⟨cx, vm0, locs, Y, N, eT, hS, hZ, hown, r⟩ := X
  obtain ⟨T', Y', e', stp⟩ := getS2 Y cx.1 hZ hown w via eT F (g := mkF m pc Ls st) rfl (hb cx.2.1 hd)
  exact (K T' ⟨cx, vm0, locs, Y', N, e', hS, hZ, hown, r⟩).step stp
theorem own_noassign {C S D : String} {n : Nat} (w : (Jvm.Cond.superclass C S).before a0 Z = true) (w0 : (Jvm.Cond.noSuperclass S).before a0 Z = true) (wi : (Jvm.Cond.instantiable D n).before a0 Z = true) (hn : C ≠ D) (hs : S ≠ D) : ∃ c t, Z.vm.findClass C = some c ∧ Z.vm.findClass D = some t ∧ Z.vm.assignable c t = false := by
  obtain ⟨t, k', g0, g2, g5, gr⟩ := Jvm.Cond.instantiable_spec wi
  obtain ⟨cs, ks, s1, s2, s3, -, -⟩ := Jvm.Cond.noSuperclass_spec w0
  obtain ⟨c, h0⟩ := found_sup w
  obtain ⟨p, k, kp, h1, h2, h3, h4, h5, -, h7⟩ := Jvm.Cond.superclass_spec h0 w
  cases s1.symm.trans h1
  have ne := ids_ne h0 g0 hn
  have ne2 := ids_ne s1 g0 hs
  have gi : k'.isInterface = false := (Bool.or_eq_false_iff.mp gr.1).1
  have n3 : ∀ fuel, Z.vm.isSubclassAux fuel c t = false := by
    intro fuel
    cases fuel with
    | zero => rfl
    | succ f =>
      cases f with
      | zero => simp [Vm.isSubclassAux, ne, h2, h4]
      | succ f => simp [Vm.isSubclassAux, ne, h2, h4, ne2, s2, s3]
  refine ⟨c, t, h0, g0, ?_⟩
  show Z.vm.assignableAux (255 + 1) c t = false
  simp [Vm.assignableAux, ne, h2, g2, h5, g5, Vm.isSubclass, n3, gi]
theorem g_instNull (X : St p l e R s m args below meth c own bytes maxL ret nm Z EL nw us bs T h cells slots) {ix : Nat} (hd : decode bytes pc = .ok (.instanceof ix, 3)) (pc' : Nat) (hp : pc + 3 = pc')
    (K : Goes p e below s Z EL nw Q kk nn (T.setTop (mkF m pc' Ls (.int 0 :: st)))) : Goes p e below s Z EL nw Q kk nn (T.setTop (mkF m pc Ls (.null :: st))) := by
  subst hp
  obtain ⟨vm0, locs, Y⟩ := X.std
  exact K.step fun t k => Y.instanceofNull X.hx (g := mkF m pc Ls (.null :: st)) rfl rfl (hb X.by hd) t k
theorem g_cast (X : St p l e R s m args below meth c own bytes maxL ret nm Z EL nw us bs T h cells slots) {C : String} {ix : Nat} {a : Addr} (w : (Jvm.Cond.classLink own ix C).before a0 Z = true) (F : Ins Z h a C true) (hd : decode bytes pc = .ok (.checkcast ix, 3)) (pc' : Nat) (hp : pc + 3 = pc')
    (K : ∀ T', St p l e R s m args below meth c own bytes maxL ret nm Z EL nw us bs T' h cells slots → Goes p e below s Z EL nw Q kk nn (T'.setTop (mkF m pc' Ls (.ref a :: st)))) : Goes p e below s Z EL nw Q kk nn (T.setTop (mkF m pc Ls (.ref a :: st))) := by
  subst hp
  obtain ⟨cx, vm0, locs, Y, N, eT, hS, hZ, hown, r⟩ := X
  obtain ⟨T', Y', e', stp⟩ := castY Y cx.1 hZ hown w eT F (g := mkF m pc Ls (.ref a :: st)) rfl rfl (hb cx.2.1 hd)
  exact (K T' ⟨cx, vm0, locs, Y', N, e', hS, hZ, hown, r⟩).step stp
theorem g_instY (X : St p l e R s m args below meth c own bytes maxL ret nm Z EL nw us bs T h cells slots) {C : String} {ix : Nat} {a : Addr} (w : (Jvm.Cond.classLink own ix C).before a0 Z = true) (F : Ins Z h a C true) (hd : decode bytes pc = .ok (.instanceof ix, 3)) (pc' : Nat) (hp : pc + 3 = pc')
    (K : ∀ T', St p l e R s m args below meth c own bytes maxL ret nm Z EL nw us bs T' h cells slots → Goes p e below s Z EL nw Q kk nn (T'.setTop (mkF m pc' Ls (.int 1 :: st)))) : Goes p e below s Z EL nw Q kk nn (T.setTop (mkF m pc Ls (.ref a :: st))) := by
  subst hp
  obtain ⟨cx, vm0, locs, Y, N, eT, hS, hZ, hown, r⟩ := X
  obtain ⟨T', Y', e', stp⟩ := instY Y cx.1 hZ hown w eT F (g := mkF m pc Ls (.ref a :: st)) rfl rfl (hb cx.2.1 hd)
  exact (K T' ⟨cx, vm0, locs, Y', N, e', hS, hZ, hown, r⟩).step stp
theorem g_instNo (X : St p l e R s m args below meth c own bytes maxL ret nm Z EL nw us bs T h cells slots) {C D : String} {ix : Nat} {a : Addr} (w : (Jvm.Cond.classLink own ix D).before a0 Z = true) (E : Exa Z h a C) (F : ∃ c t, Z.vm.findClass C = some c ∧ Z.vm.findClass D = some t ∧ Z.vm.assignable c t = false) (hd : decode bytes pc = .ok (.instanceof ix, 3)) (pc' : Nat) (hp : pc + 3 = pc')
    (K : ∀ T', St p l e R s m args below meth c own bytes maxL ret nm Z EL nw us bs T' h cells slots → Goes p e below s Z EL nw Q kk nn (T'.setTop (mkF m pc' Ls (.int 0 :: st)))) : Goes p e below s Z EL nw Q kk nn (T.setTop (mkF m pc Ls (.ref a :: st))) := by
  subst hp
  obtain ⟨cx, vm0, locs, Y, N, eT, hS, hZ, hown, r⟩ := X
  obtain ⟨T', Y', e', stp⟩ := instNo Y cx.1 hZ hown w eT E F (g := mkF m pc Ls (.ref a :: st)) rfl rfl (hb cx.2.1 hd)
  exact (K T' ⟨cx, vm0, locs, Y', N, e', hS, hZ, hown, r⟩).step stp
/-- 'new': the new object is under construction -/
theorem g_new (X : St p l e R s m args below meth c own bytes maxL ret nm Z EL nw us bs T h cells slots) {C : String} {ix k : Nat} (w : (Jvm.Cond.classLink own ix C).before a0 Z = true) (wi : (Jvm.Cond.instantiable C k).before a0 Z = true) (wz : (Jvm.Cond.initialized C).before a0 Z = true)
    (hd : decode bytes pc = .ok (.new ix, 3)) {ck cs : Nat} (hck : cells + 1 = ck) (hcs : slots + k = cs) (hc : ck ≤ R.cells) (hl : cs ≤ R.slots) (pc' : Nat) (hp : pc + 3 = pc')
    (K : ∀ a T' h', a = h.size → St p l e R s m args below meth c own bytes maxL ret nm Z EL nw (a :: us) bs T' h' ck cs → Ext h h' → Exa Z h' a C →
      (∀ {O n d : String} {ty : FieldType}, Laid Z a0 C O n d → parseFieldDescriptor d = some ty → Fld Z h' a O n d (defaultValue ty)) → Goes p e below s Z EL nw Q kk nn (T'.setTop (mkF m pc' Ls (.ref a :: st)))) : Goes p e below s Z EL nw Q kk nn (T.setTop (mkF m pc Ls st)) := by
  subst hp hck hcs
  obtain ⟨cx, vm0, locs, Y, N, eT, hS, hZ, hown, hE, hC, hU, hW⟩ := X
  obtain ⟨T', h', Y', e', E, A, D, -, stp⟩ := newO Y cx.1 hZ hown w wi wz eT (g := mkF m pc Ls st) rfl (hb cx.2.1 hd) hc hl
  refine (K h.size T' h' rfl ⟨cx, vm0, locs, Y', N, e', ⟨hS.1, hS.2.mono E.1⟩, hZ, hown, hE.trans E, hC.trans (CHr.ext E hC.1), ?_, hW⟩ E A (fun L q => D L q)).step stp
  intro x hx
  rcases List.mem_cons.mp hx with rfl | hx
  · exact ⟨hE.1, A.lt, Safe.ext E hC.1 (Safe.new (Nat.le_refl _))⟩
  · obtain ⟨q1, q2, q3⟩ := hU x hx
    exact ⟨q1, Nat.lt_of_lt_of_le q2 E.1, Safe.ext E hC.1 q3⟩
/-- an array of a primitive kind, new -/
theorem g_newP (X : St p l e R s m args below meth c own bytes maxL ret nm Z EL nw us bs T h cells slots) {aty : ArrayType} {z : Int32} (w : (Jvm.Cond.arrayClass (newarray.typeOf aty)).before a0 Z = true) (hd : decode bytes pc = .ok (.newarray aty, 2)) (hn : ¬ z < 0) (cap : Nat) (hcap : z.toNatClampNeg ≤ cap) (hb' : cap * 8 ≤ 536870912)
    {ck cs : Nat} (hck : cells + 1 = ck) (hcs : slots + cap = cs) (hc : ck ≤ R.cells) (hl : cs ≤ R.slots) (pc' : Nat) (hp : pc + 2 = pc')
    (K : ∀ a T' h' k, a = h.size → St p l e R s m args below meth c own bytes maxL ret nm Z EL nw (a :: us) bs T' h' ck cs → Ext h h' → Arv Z h' a k (newarray.typeOf aty) z [] (defaultValue (newarray.typeOf aty)) →
      Goes p e below s Z EL nw Q kk nn (T'.setTop (mkF m pc' Ls (.ref a :: st)))) : Goes p e below s Z EL nw Q kk nn (T.setTop (mkF m pc Ls (.int z :: st))) := by
  subst hp hck hcs
  obtain ⟨cx, vm0, locs, Y, N, eT, hS, hZ, hown, hE, hC, hU, hW⟩ := X
  obtain ⟨T', h', cA, Y', e', E, A, stp⟩ := newP Y cx.1 hZ w eT (g := mkF m pc Ls (.int z :: st)) rfl (hb cx.2.1 hd) rfl hn hcap hb' hc hl
  refine (K h.size T' h' cA rfl ⟨cx, vm0, locs, Y', N, e', ⟨hS.1, hS.2.mono E.1⟩, hZ, hown, hE.trans E, hC.trans (CHr.ext E hC.1), ?_, hW⟩ E (Arv.new A hn)).step stp
  intro x hx
  rcases List.mem_cons.mp hx with rfl | hx
  · exact ⟨hE.1, A.lt, Safe.ext E hC.1 (Safe.new (Nat.le_refl _))⟩
  · obtain ⟨q1, q2, q3⟩ := hU x hx
    exact ⟨q1, Nat.lt_of_lt_of_le q2 E.1, Safe.ext E hC.1 q3⟩
/-- a store's part that is common -/
theorem St.wrote {vm0 : Vm} {locs : List Loc} {T' : State} {h' : Heap} {a : Addr} {sl : Nat} {v : Value}
    (cx : p.tables.exec = Jvm.exec ∧ c.code = bytes ∧ c.maxLocals = maxL ∧ meth.sig.returnType = ret ∧ meth.name = nm ∧ meth.locks = false ∧ ∃ a0, EW Z a0 EL)
    (Y : Stand p l e R (s.setVm vm0) m args below meth c T' (locs ++ [⟨a, sl⟩]) cells slots) (N : Fr Z.heap.size locs) (eT : T'.heap = h') (hS : s.Since vm0 h.size) (hZ : Z.Warmed39 vm0) (hown : vm0.findClass own = some m.cls) (hE : Ext Z.heap h) (hC : CHr Z EL s.vm s.heap vm0 h)
    (hU : ∀ x ∈ us, Z.heap.size ≤ x ∧ x < h.size ∧ Safe Z EL vm0 h x) (hW : (nw = true → s.WarmedH vm0) ∧ ∀ q ∈ bs, Lit (s.setVm vm0) q.1 q.2.1 q.2.2) (W : Wr h h' a sl v) (ha : a ∈ us) : St p l e R s m args below meth c own bytes maxL ret nm Z EL nw us bs T' h' cells slots := by
  obtain ⟨q1, q2, q3⟩ := hU a ha
  refine ⟨cx, vm0, locs ++ [⟨a, sl⟩], Y, Fr.snoc Y N q1, eT, ⟨hS.1, hS.2.mono (Nat.le_of_eq W.size.symm)⟩, hZ, hown, ext_wr hE W q1, hC.trans (CHr.wr W q3 hC.1), fun x hx => ?_, hW⟩
  obtain ⟨r1, r2, r3⟩ := hU x hx
  exact ⟨r1, by rw [W.size]; exact r2, Safe.wr W q3 hC.1 r3⟩
theorem g_putF (X : St p l e R s m args below meth c own bytes maxL ret nm Z EL nw us bs T h cells slots) {R0 O n d host C : String} {ix k : Nat} {ty : FieldType} {a : Addr} {v old : Value} (w : (Jvm.Cond.fieldLink own ix R0 n d).before a0 Z = true ∨ (Jvm.Cond.fieldLinkNest own ix R0 n d host).before a0 Z = true) (via : Via Z R0 O n d) (F : Fld Z h a O n d old) (E : Exa Z h a C)
    (L : (Jvm.Cond.lays C O n d).before a0 Z = true ∨ ((Jvm.Cond.laysFinal C O n d).before a0 Z = true ∧ own = O ∧ nm = "<init>")) (wi : (Jvm.Cond.instantiable C k).before a0 Z = true) (hty : parseFieldDescriptor d = some ty) (hn : narrow ty v = v) (hf : fits ty v = true) (ha : a ∈ us)
    (hd : decode bytes pc = .ok (.putfield ix, 3)) (pc' : Nat) (hp : pc + 3 = pc')
    (K : ∀ T' h', St p l e R s m args below meth c own bytes maxL ret nm Z EL nw us bs T' h' cells slots → Wr h h' a (Jvm.RoadKit.slotOf Z O n d) v → Fld Z h' a O n d v → Exa Z h' a C → Goes p e below s Z EL nw Q kk nn (T'.setTop (mkF m pc' Ls st))) : Goes p e below s Z EL nw Q kk nn (T.setTop (mkF m pc Ls (v :: .ref a :: st))) := by
  subst hp
  obtain ⟨cx, vm0, locs, Y, N, eT, hS, hZ, hown, hE, hC, hU, hW⟩ := X
  have L' : (Jvm.Cond.lays C O n d).before a0 Z = true ∨ ((Jvm.Cond.laysFinal C O n d).before a0 Z = true ∧ own = O ∧ meth.name = "<init>") := by
    rcases L with L | ⟨L1, L2, L3⟩
    · exact Or.inl L
    · exact Or.inr ⟨L1, L2, by rw [cx.2.2.2.2.1]; exact L3⟩
  obtain ⟨T', h', Y', e', W, stp⟩ := putF Y cx.1 hZ hown w via eT F E L' wi hty hn hf (g := mkF m pc Ls (v :: .ref a :: st)) rfl rfl (hb cx.2.1 hd)
  exact (K T' h' (St.wrote cx Y' N e' hS hZ hown hE hC hU hW W ha) W (F.same W) (E.wr W)).step stp
theorem g_castore (X : St p l e R s m args below meth c own bytes maxL ret nm Z EL nw us bs T h cells slots) {a : Addr} {k : ClassId} {z j x : Int32} {vs : List Value} {dv : Value} (A : Arv Z h a k .char z vs dv) (i : Nat) (hj : j.toNatClampNeg = i) (hj0 : ¬ j < 0) (hz : j < z) (hi : i < vs.length) (w : Int32) (hw : nar .char x = w) (ha : a ∈ us)
    (hd : decode bytes pc = .ok (.castore, 1)) (pc' : Nat) (hp : pc + 1 = pc')
    (K : ∀ T' h', St p l e R s m args below meth c own bytes maxL ret nm Z EL nw us bs T' h' cells slots → Wr h h' a i (.int w) → Arv Z h' a k .char z (vs.set i (.int w)) dv → Goes p e below s Z EL nw Q kk nn (T'.setTop (mkF m pc' Ls st))) : Goes p e below s Z EL nw Q kk nn (T.setTop (mkF m pc Ls (.int x :: .int j :: .ref a :: st))) := by
  subst hp hj hw
  obtain ⟨cx, vm0, locs, Y, N, eT, hS, hZ, hown, hE, hC, hU, hW⟩ := X
  obtain ⟨cl, Ar, q1, Sz, q3, H, Gt⟩ := A
  obtain ⟨T', h', Y', e', W, stp⟩ := stC Y cx.1 hZ eT Ar (inb_of Sz ⟨hj0, hz⟩) (g := mkF m pc Ls (.int x :: .int j :: .ref a :: st)) rfl rfl (hb cx.2.1 hd)
  exact (K T' h' (St.wrote cx Y' N e' hS hZ hown hE hC hU hW W ha) W (Arv.set Ar q1 Sz q3 H Gt (fits_nar_char x) W _ rfl hi)).step stp
theorem g_bastore (X : St p l e R s m args below meth c own bytes maxL ret nm Z EL nw us bs T h cells slots) {a : Addr} {k : ClassId} {z j x : Int32} {vs : List Value} {dv : Value} (A : Arv Z h a k .byte z vs dv) (i : Nat) (hj : j.toNatClampNeg = i) (hj0 : ¬ j < 0) (hz : j < z) (hi : i < vs.length) (w : Int32) (hw : nar .byte x = w) (ha : a ∈ us)
    (hd : decode bytes pc = .ok (.bastore, 1)) (pc' : Nat) (hp : pc + 1 = pc')
    (K : ∀ T' h', St p l e R s m args below meth c own bytes maxL ret nm Z EL nw us bs T' h' cells slots → Wr h h' a i (.int w) → Arv Z h' a k .byte z (vs.set i (.int w)) dv → Goes p e below s Z EL nw Q kk nn (T'.setTop (mkF m pc' Ls st))) : Goes p e below s Z EL nw Q kk nn (T.setTop (mkF m pc Ls (.int x :: .int j :: .ref a :: st))) := by
  subst hp hj hw
  obtain ⟨cx, vm0, locs, Y, N, eT, hS, hZ, hown, hE, hC, hU, hW⟩ := X
  obtain ⟨cl, Ar, q1, Sz, q3, H, Gt⟩ := A
  obtain ⟨T', h', Y', e', W, stp⟩ := stB Y cx.1 hZ eT Ar (inb_of Sz ⟨hj0, hz⟩) (g := mkF m pc Ls (.int x :: .int j :: .ref a :: st)) rfl rfl (hb cx.2.1 hd)
  exact (K T' h' (St.wrote cx Y' N e' hS hZ hown hE hC hU hW W ha) W (Arv.set Ar q1 Sz q3 H Gt (fits_nar_byte x) W _ rfl hi)).step stp
theorem arrOf {vm0 : Vm} {cl : Cell} {ty : FieldType} (hZ : Z.Warmed39 vm0) (q : Z.isArrayOf cl ty) : (s.setVm vm0).isArrayOf cl ty := State.isArrayOf_alike (show Z.vm.Alike (s.setVm vm0).vm from hZ.alike) q
theorem g_arrlen (X : St p l e R s m args below meth c own bytes maxL ret nm Z EL nw us bs T h cells slots) {a : Addr} {k : ClassId} {ty : FieldType} {z : Int32} {vs : List Value} {dv : Value} (A : Arv Z h a k ty z vs dv) (hd : decode bytes pc = .ok (.arraylength, 1)) (pc' : Nat) (hp : pc + 1 = pc')
    (K : Goes p e below s Z EL nw Q kk nn (T.setTop (mkF m pc' Ls (.int z :: st)))) : Goes p e below s Z EL nw Q kk nn (T.setTop (mkF m pc Ls (.ref a :: st))) := by
  subst hp
  obtain ⟨cx, vm0, locs, Y, N, eT, hS, hZ, r⟩ := X
  obtain ⟨cl, Ar, q1, Sz, q3, H, Gt⟩ := A
  refine K.step fun t k => Y.arraylength cx.1 (cell := cl) (by rw [eT]; exact Ar.1) (arrOf hZ Ar.2.1) (g := mkF m pc Ls (.ref a :: st)) rfl rfl (hb cx.2.1 hd) t ?_
  rw [len_of Sz q3]; exact k
theorem g_caload (X : St p l e R s m args below meth c own bytes maxL ret nm Z EL nw us bs T h cells slots) {a : Addr} {k : ClassId} {z j : Int32} {vs : List Value} {dv : Value} (A : Arv Z h a k .char z vs dv) (hj0 : ¬ j < 0) (hz : j < z) (v : Value) (hv : vs.getD j.toNatClampNeg dv = v) (hd : decode bytes pc = .ok (.caload, 1)) (pc' : Nat) (hp : pc + 1 = pc')
    (K : Goes p e below s Z EL nw Q kk nn (T.setTop (mkF m pc' Ls (v :: st)))) : Goes p e below s Z EL nw Q kk nn (T.setTop (mkF m pc Ls (.int j :: .ref a :: st))) := by
  subst hp
  obtain ⟨cx, vm0, locs, Y, N, eT, hS, hZ, r⟩ := X
  obtain ⟨cl, Ar, q1, Sz, q3, H, Gt⟩ := A
  have hin := inb_of Sz ⟨hj0, hz⟩
  exact K.step fun t k => Y.caload cx.1 (cell := cl) (by rw [eT]; exact Ar.1) (arrOf hZ Ar.2.1) Ar.2.2 hin (H.at hin hv) (g := mkF m pc Ls (.int j :: .ref a :: st)) rfl rfl (hb cx.2.1 hd) t k
theorem g_baload (X : St p l e R s m args below meth c own bytes maxL ret nm Z EL nw us bs T h cells slots) {a : Addr} {k : ClassId} {z j : Int32} {vs : List Value} {dv : Value} (A : Arv Z h a k .byte z vs dv) (hj0 : ¬ j < 0) (hz : j < z) (v : Value) (hv : vs.getD j.toNatClampNeg dv = v) (hd : decode bytes pc = .ok (.baload, 1)) (pc' : Nat) (hp : pc + 1 = pc')
    (K : Goes p e below s Z EL nw Q kk nn (T.setTop (mkF m pc' Ls (v :: st)))) : Goes p e below s Z EL nw Q kk nn (T.setTop (mkF m pc Ls (.int j :: .ref a :: st))) := by
  subst hp
  obtain ⟨cx, vm0, locs, Y, N, eT, hS, hZ, r⟩ := X
  obtain ⟨cl, Ar, q1, Sz, q3, H, Gt⟩ := A
  have hin := inb_of Sz ⟨hj0, hz⟩
  exact K.step fun t k => Y.baloadBytes cx.1 (cell := cl) (by rw [eT]; exact Ar.1) (arrOf hZ Ar.2.1) Ar.2.2 hin (H.at hin hv) (g := mkF m pc Ls (.int j :: .ref a :: st)) rfl rfl (hb cx.2.1 hd) t k
theorem g_aaload (X : St p l e R s m args below meth c own bytes maxL ret nm Z EL nw us bs T h cells slots) {a : Addr} {k : ClassId} {ty : FieldType} {z j : Int32} {vs : List Value} {dv : Value} (A : Arv Z h a k ty z vs dv) (hty : ty.isReference = true) (hj0 : ¬ j < 0) (hz : j < z) (v : Value) (hv : vs.getD j.toNatClampNeg dv = v) (hd : decode bytes pc = .ok (.aaload, 1)) (pc' : Nat) (hp : pc + 1 = pc')
    (K : Goes p e below s Z EL nw Q kk nn (T.setTop (mkF m pc' Ls (v :: st)))) : Goes p e below s Z EL nw Q kk nn (T.setTop (mkF m pc Ls (.int j :: .ref a :: st))) := by
  subst hp
  obtain ⟨cx, vm0, locs, Y, N, eT, hS, hZ, r⟩ := X
  obtain ⟨cl, Ar, q1, Sz, q3, H, Gt⟩ := A
  have hin := inb_of Sz ⟨hj0, hz⟩
  exact K.step fun t k => Y.aaload cx.1 (cell := cl) (by rw [eT]; exact Ar.1) (arrOf hZ Ar.2.1) hty Ar.2.2 hin (H.at hin hv) (g := mkF m pc Ls (.int j :: .ref a :: st)) rfl rfl (hb cx.2.1 hd) t k
theorem g_aaloadA (X : St p l e R s m args below meth c own bytes maxL ret nm Z EL nw us bs T h cells slots) {a : Addr} {cl : Cell} {ty : FieldType} {j : Int32} (A : Arr Z h a cl ty) (hty : ty.isReference = true) (hin : ¬ (j < 0 ∨ cl.slots.size ≤ j.toNatClampNeg)) {v : Value} (hv : cl.slots[j.toNatClampNeg]? = some v) (hd : decode bytes pc = .ok (.aaload, 1)) (pc' : Nat) (hp : pc + 1 = pc')
    (K : Goes p e below s Z EL nw Q kk nn (T.setTop (mkF m pc' Ls (v :: st)))) : Goes p e below s Z EL nw Q kk nn (T.setTop (mkF m pc Ls (.int j :: .ref a :: st))) := by
  subst hp
  obtain ⟨cx, vm0, locs, Y, N, eT, hS, hZ, r⟩ := X
  exact K.step fun t k => Y.aaload cx.1 (cell := cl) (by rw [eT]; exact A.1) (arrOf hZ A.2.1) hty A.2.2 hin hv (g := mkF m pc Ls (.int j :: .ref a :: st)) rfl rfl (hb cx.2.1 hd) t k
/-- System.arraycopy between two arrays of one primitive kind -/
theorem g_arrcopy (X : St p l e R s m args below meth c own bytes maxL ret nm Z EL nw us bs T h cells slots) {ix : Nat} {a b : Addr} {k k' : ClassId} {ty : FieldType} {z z' sp dp nn0 : Int32} {vs vd : List Value} {dv dd : Value} (w1 : (Jvm.Cond.methodLink own ix Jvm.Stand.acN).before a0 Z = true) (w2 : (Jvm.Cond.native Jvm.Stand.acN).before a0 Z = true) (w3 : (Jvm.Cond.static Jvm.Stand.acN).before a0 Z = true) (w4 : (Jvm.Cond.initialized "java/lang/System").before a0 Z = true)
    (A : Arv Z h a k ty z vs dv) (B : Arv Z h b k' ty z' vd dd) (hty : refKind ty = false) (h1 : ¬ sp < 0) (h2 : ¬ dp < 0) (h3 : ¬ nn0 < 0) (h4 : sp.toNatClampNeg + nn0.toNatClampNeg ≤ z.toNatClampNeg) (h5 : dp.toNatClampNeg + nn0.toNatClampNeg ≤ z'.toNatClampNeg) (hl : dp.toNatClampNeg + nn0.toNatClampNeg ≤ vd.length)
    (vr : List Value) (hvr : vd.take dp.toNatClampNeg ++ ((List.range nn0.toNatClampNeg).map fun i => vs.getD (sp.toNatClampNeg + i) dv) ++ vd.drop (dp.toNatClampNeg + nn0.toNatClampNeg) = vr) (hb' : b ∈ us) (hsize : Ls.size = maxL) (hd : decode bytes pc = .ok (.invokestatic ix, 3))
    (hf : 1 ≤ R.frames) (W : Nat) (hW : (st.map fun v => v.category).sum ≤ W) (hlo : W + (nativeFrameWords "java/lang/System" "arraycopy" 5 + 11) ≤ R.locals) (pc' : Nat) (hp : pc + 3 = pc')
    (K : ∀ T' h', St p l e R s m args below meth c own bytes maxL ret nm Z EL nw us bs T' h' cells slots → Keep h h' [b] → Arv Z h' b k' ty z' vr dd → Goes p e below s Z EL nw Q kk nn (T'.setTop (mkF m pc' Ls st))) : Goes p e below s Z EL nw Q kk nn (T.setTop (mkF m pc Ls (.int nn0 :: .int dp :: .ref b :: .int sp :: .ref a :: st))) := by
  subst hp hvr
  obtain ⟨cx, vm0, locs, Y, N, eT, hS, hZ, hown, hE, hC, hU, hWn⟩ := X
  obtain ⟨u1, u2, u3⟩ := hU b hb'
  obtain ⟨T', h', L, Y', e', N', K', A', stp⟩ := cpA Y cx.1 hZ hown w1 w2 w3 w4 eT A B (Or.inl ⟨rfl, hty⟩) h1 h2 h3 h4 h5 rfl hl N u1 (g := mkF m pc Ls (.int nn0 :: .int dp :: .ref b :: .int sp :: .ref a :: st)) rfl (by rw [cx.2.2.1]; exact hsize) rfl (hb cx.2.1 hd) hf (W := W) (by show 2 * 0 + _ ≤ _; omega) hlo
  have hsf : ∀ x ∈ [b], Safe Z EL vm0 h x := fun x hx => by cases List.mem_singleton.mp hx; exact u3
  exact (K T' h' ⟨cx, vm0, L, Y', N', e', ⟨hS.1, hS.2.mono K'.1⟩, hZ, hown, ext_keep hE K' (fun x hx => by cases List.mem_singleton.mp hx; exact u1), hC.trans (CHr.keep K' hsf hC.1), fun x hx => ⟨(hU x hx).1, Nat.lt_of_lt_of_le (hU x hx).2.1 K'.1, Safe.keep K' hsf hC.1 (hU x hx).2.2⟩, hWn⟩ K' A').step stp
/-- Object's constructor -/
theorem g_initO (X : St p l e R s m args below meth c own bytes maxL ret nm Z EL nw us bs T h cells slots) {ix : Nat} {a : Addr} (w1 : (Jvm.Cond.methodLink own ix Lib.objectInit).before a0 Z = true) (w2 : (Jvm.Cond.instanceMethod Lib.objectInit).before a0 Z = true) (w3 : (Jvm.Cond.code Lib.objectInit ⟨#[0xb1]⟩ 1 none).before a0 Z = true) (hsize : Ls.size = maxL)
    (hd : decode bytes pc = .ok (.invokespecial ix, 3)) (hf : 1 ≤ R.frames) (W : Nat) (hW : (st.map fun v => v.category).sum ≤ W) (hl : W + 12 ≤ R.locals) (pc' : Nat) (hp : pc + 3 = pc')
    (K : ∀ T', St p l e R s m args below meth c own bytes maxL ret nm Z EL nw us bs T' h cells slots → Goes p e below s Z EL nw Q kk nn (T'.setTop (mkF m pc' Ls st))) : Goes p e below s Z EL nw Q kk nn (T.setTop (mkF m pc Ls (.ref a :: st))) := by
  subst hp
  obtain ⟨cx, vm0, locs, Y, N, eT, hS, hZ, hown, r⟩ := X
  obtain ⟨T', Y', e', stp⟩ := initO Y cx.1 hZ hown w1 w2 w3 eT (g := mkF m pc Ls (.ref a :: st)) rfl (by rw [cx.2.2.1]; exact hsize) rfl (hb cx.2.1 hd) hf (W := W) (by show 2 * 0 + _ ≤ _; omega) hl
  exact (K T' ⟨cx, vm0, locs, Y', N, e', hS, hZ, hown, r⟩).step stp
/-- an array's clone -/
theorem g_clone (X : St p l e R s m args below meth c own bytes maxL ret nm Z EL nw us bs T h cells slots) {ad : String} {ix : Nat} {a : Addr} {k : ClassId} {ty : FieldType} {z : Int32} {vs : List Value} {dv : Value}
    (w1 : (Jvm.Cond.methodLink own ix ⟨ad, "clone", "()Ljava/lang/Object;"⟩).before a0 Z = true) (w2 : (Jvm.Cond.sameMethod ad "java/lang/Object" "clone" "()Ljava/lang/Object;").before a0 Z = true) (w3 : (Jvm.Cond.native ⟨"java/lang/Object", "clone", "()Ljava/lang/Object;"⟩).before a0 Z = true)
    (w4 : (Jvm.Cond.instanceMethod ⟨"java/lang/Object", "clone", "()Ljava/lang/Object;"⟩).before a0 Z = true) (w5 : (Jvm.Cond.selects ad ⟨ad, "clone", "()Ljava/lang/Object;"⟩ ⟨"java/lang/Object", "clone", "()Ljava/lang/Object;"⟩).before a0 Z = true) (w6 : (Jvm.Cond.castable ad "java/lang/Cloneable").before a0 Z = true)
    (A : Arv Z h a k ty z vs dv) (E : Exa Z h a ad) (hsize : Ls.size = maxL) (hd : decode bytes pc = .ok (.invokevirtual ix, 3)) (hf : 1 ≤ R.frames) (W : Nat) (hW : (st.map fun v => v.category).sum ≤ W) (hl : W + 14 ≤ R.locals) (cap : Nat) (hcap : z.toNatClampNeg ≤ cap)
    {ck cs : Nat} (hck : cells + 1 = ck) (hcs : slots + cap = cs) (hc : ck ≤ R.cells) (hs : cs ≤ R.slots) (pc' : Nat) (hp : pc + 3 = pc')
    (K : ∀ a' T' h', a' = h.size → St p l e R s m args below meth c own bytes maxL ret nm Z EL nw (a' :: us) bs T' h' ck cs → Ext h h' → Arv Z h' a' k ty z vs dv → Exa Z h' a' ad → Goes p e below s Z EL nw Q kk nn (T'.setTop (mkF m pc' Ls (.ref a' :: st)))) : Goes p e below s Z EL nw Q kk nn (T.setTop (mkF m pc Ls (.ref a :: st))) := by
  subst hp hck hcs
  obtain ⟨cx, vm0, locs, Y, N, eT, hS, hZ, hown, hE, hC, hU, hWn⟩ := X
  obtain ⟨T', h', Y', e', Ex, A', E', stp⟩ := cloneH Y cx.1 hZ hown w1 w2 w3 w4 w5 w6 eT A.arh E (g := mkF m pc Ls (.ref a :: st)) rfl (by rw [cx.2.2.1]; exact hsize) rfl (hb cx.2.1 hd) hf (W := W) (by show 2 * 0 + _ ≤ _; omega) hl hcap hc hs
  obtain ⟨cl, q1, q2, q3, q4, q5, q6⟩ := A'
  refine (K h.size T' h' rfl ⟨cx, vm0, locs, Y', N, e', ⟨hS.1, hS.2.mono Ex.1⟩, hZ, hown, hE.trans Ex, hC.trans (CHr.ext Ex hC.1), ?_, hWn⟩ Ex ⟨cl, q1, q2, q3, q4, fun i hi => q5 i hi, fun i hi => q6 i hi⟩ E').step stp
  intro x hx
  rcases List.mem_cons.mp hx with rfl | hx
  · exact ⟨hE.1, E'.lt, Safe.ext Ex hC.1 (Safe.new (Nat.le_refl _))⟩
  · obtain ⟨q1, q2, q3⟩ := hU x hx
    exact ⟨q1, Nat.lt_of_lt_of_le q2 Ex.1, Safe.ext Ex hC.1 q3⟩
end HeapOps
section CallOps
variable {p : Program} {l : Launch} {e : Env} {R : Room} {s : State} {m : MethodId} {args : Array Value} {below : List Frame} {meth : Method} {c : Code}
  {own : String} {bytes : ByteArray} {maxL : Nat} {ret : Option FieldType} {nm : String} {Z : State} {EL : List (String × Nat)} {nw : Bool} {us : List Addr} {bs : List (String × Nat × Addr)}
  {T : State} {h : Heap} {cells slots : Nat} {Q : Option Value → Heap → Prop} {kk nn : Nat} {a0 : Array Value} {pc : Nat} {Ls : Array Slot} {st : List Value}

/-- who pays a call: the callee's contract -/
theorem backC {y : MethodName} {cb : ByteArray} {cm : Nat} {cr : Option FieldType} {rm : Room} {len W : Nat} {as' : Array Value} {us' : List Addr} {Qc : Option Value → Heap → Prop} {vm0 : Vm}
    (hM : Ctr l Z EL nw y cb cm cr rm as' h us' Qc) (hZ : Z.Warmed39 vm0) (wc : (Jvm.Cond.code y cb cm cr).before a0 Z = true) (wz : (Jvm.Cond.initialized y.cls).before a0 Z = true) (hf : rm.frames + 1 ≤ R.frames) (hl : W + (cm + 11) + rm.locals ≤ R.locals)
    {a1 : Array Value} (hEL : EW Z a1 EL) (hE : Ext Z.heap h) (H : CHv Z EL vm0 h) (hU : ∀ x ∈ us', Z.heap.size ≤ x ∧ x < h.size ∧ Safe Z EL vm0 h x) :
    BackS l R p e below (s.setVm vm0) args y len W (fun A a => a = as' ∧ A.U.heap = h ∧ A.cells + rm.cells ≤ R.cells ∧ A.slots + rm.slots ≤ R.slots)
      (fun A _ v B => ∃ L, Qc v B.U.heap ∧ Fr Z.heap.size L ∧ Ext Z.heap B.U.heap ∧ B.locs = A.locs ++ L ∧ B.cells = A.cells + rm.cells ∧ B.slots = A.slots + rm.slots ∧ CHr Z EL vm0 h B.U.vm B.U.heap ∧ (nw = true → (s.setVm vm0).WarmedH B.U.vm)) :=
  BackS.of_freeW (bytes := cb) (maxL := cm) (ret := cr)
    (E := fun _ first o t L k n => k = rm.cells ∧ n = rm.slots ∧ (∃ v, o = .returned v ∧ Qc v t.heap) ∧ Fr Z.heap.size L ∧ Ext Z.heap t.heap ∧ CHr Z EL first.vm first.heap t.vm t.heap ∧ (nw = true → first.WarmedH t.vm)) (hM []) hf hl
    (fun m meth c A a Y hp => have hU : Z.Warmed39 A.U.vm := wtrans (s := s.setVm vm0) hZ Y.warmed
      ⟨by show (Jvm.Cond.and _ .tt).before a A.U = true; rw [Jvm.Cond.before_and, mv hU wc]; rfl, mv hU wc, mv hU wz, hp.2.2.1, hp.2.2.2⟩)
    (fun m meth c A a g mk Y hp => ⟨hp.1, wtrans (s := s.setVm vm0) hZ Y.warmed, hp.2.1, hE, (CHv.at Y hZ hEL H).1, fun x hx => ⟨(hU x hx).1, (hU x hx).2.1, (CHv.at Y hZ hEL H).safe (hU x hx).2.1 (hU x hx).2.2⟩⟩) (fun _ _ _ _ _ _ _ _ _ => trivial)
    (fun _ _ _ _ ⟨v, L, h1, h2, h3, h4, h5, h6, h7⟩ => ⟨L, _, _, h6, rfl, rfl, ⟨v, h1, h2⟩, h3, h4, h5, h7⟩)
    (fun m meth c A a g mk v t L k n Y hp _ _ ⟨e1, e2, ⟨v', e3, e4⟩, e5, e6, e7, e8⟩ => by
      cases e3; subst e1 e2
      refine ⟨L, e4, e5, e6, rfl, rfl, rfl, (CHv.at Y hZ hEL H).trans ?_, fun q => State.WarmedH.trans (t := A.U) Y.warmed (e8 q)⟩
      rw [← hp.2.1]; exact e7)
/-- behind a call -/
theorem St.back {vm0 : Vm} {locs : List Loc} {B : Pt} {L : List Loc} {ck cs : Nat}
    (cx : p.tables.exec = Jvm.exec ∧ c.code = bytes ∧ c.maxLocals = maxL ∧ meth.sig.returnType = ret ∧ meth.name = nm ∧ meth.locks = false ∧ ∃ a0, EW Z a0 EL)
    (N : Fr Z.heap.size locs) (hS : s.Since vm0 h.size) (hZ : Z.Warmed39 vm0) (hown : vm0.findClass own = some m.cls) (hC : CHr Z EL s.vm s.heap vm0 h)
    (hU : ∀ x ∈ us, Z.heap.size ≤ x ∧ x < h.size ∧ Safe Z EL vm0 h x) (hW : (nw = true → s.WarmedH vm0) ∧ ∀ q ∈ bs, Lit (s.setVm vm0) q.1 q.2.1 q.2.2)
    (Y : Stand p l e R ((s.setVm vm0).setVm B.U.vm) m args below meth c B.U B.locs B.cells B.slots) (h2 : (s.setVm vm0).Since B.U.vm B.U.heap.size) (hg : h.size ≤ B.U.heap.size)
    (N' : Fr Z.heap.size L) (hE : Ext Z.heap B.U.heap) (l1 : B.locs = locs ++ L) (l2 : B.cells = ck) (l3 : B.slots = cs) (hC' : CHr Z EL vm0 h B.U.vm B.U.heap) (hW' : nw = true → (s.setVm vm0).WarmedH B.U.vm) :
    St p l e R s m args below meth c own bytes maxL ret nm Z EL nw us bs B.U B.U.heap ck cs := by
  subst l2 l3
  rw [l1] at Y
  exact ⟨cx, B.U.vm, locs ++ L, Y, N.app N', rfl, hS.trans h2 hg, State.Warmed39.trans hZ h2.1, (h2.1.alike.findClass _ _).trans hown, hE, hC.trans hC', fun x hx => ⟨(hU x hx).1, Nat.lt_of_lt_of_le (hU x hx).2.1 hg, hC'.safe (hU x hx).2.1 (hU x hx).2.2⟩, fun q => State.WarmedH.trans (t := s.setVm vm0) (hW.1 q) (hW' q), fun q hq => (hW.2 q hq).stays h2.1⟩
theorem g_callS (X : St p l e R s m args below meth c own bytes maxL ret nm Z EL nw us bs T h cells slots) {y : MethodName} {cb : ByteArray} {cm : Nat} {cr : Option FieldType} {rm : Room} {as' : Array Value} {us' : List Addr} {Qc : Option Value → Heap → Prop} {ix : Nat}
    (w1 : (Jvm.Cond.methodLink own ix y).before a0 Z = true) (w2 : (Jvm.Cond.static y).before a0 Z = true) (w3 : (Jvm.Cond.initialized y.cls).before a0 Z = true) (w4 : (Jvm.Cond.code y cb cm cr).before a0 Z = true)
    (hy : y.cls ≠ "java/lang/invoke/MethodHandle" ∧ y.cls ≠ "java/lang/invoke/VarHandle") (hM : Ctr l Z EL nw y cb cm cr rm as' h us' Qc) (hus : ∀ x ∈ us', x ∈ us)
    {argsL rest : List Value} {ps : List FieldType} {rt : Option FieldType} (hpd : parseMethodDescriptor y.desc = some ⟨ps, rt⟩) (hlen : argsL.length = ps.length) (has : argsL.toArray = as') (hst : st = argsL.reverse ++ rest) (hsize : Ls.size = maxL)
    (W : Nat) (hW : (rest.map fun v => v.category).sum ≤ W) (hf : rm.frames + 1 ≤ R.frames) (hl : W + (cm + 11) + rm.locals ≤ R.locals) {ck cs : Nat} (hck : cells + rm.cells = ck) (hcs : slots + rm.slots = cs) (hc : ck ≤ R.cells) (hs : cs ≤ R.slots)
    (hd : decode bytes pc = .ok (.invokestatic ix, 3)) (pc' : Nat) (hp : pc + 3 = pc')
    (K : ∀ v T' h', St p l e R s m args below meth c own bytes maxL ret nm Z EL nw us bs T' h' ck cs → Qc v h' → Goes p e below s Z EL nw Q kk nn (T'.setTop (mkF m pc' Ls (v.toList ++ rest)))) : Goes p e below s Z EL nw Q kk nn (T.setTop (mkF m pc Ls st)) := by
  subst hp hck hcs
  obtain ⟨cx, vm0, locs, Y, N, eT, hS, hZ, hown, hE, hC, hU, hWn⟩ := X
  obtain ⟨a1, hEL⟩ := cx.2.2.2.2.2.2
  have w4' := mvT (s := s.setVm vm0) (args := args) hZ w4
  obtain ⟨mk, hnamed⟩ := Jvm.Cond.code_named w4'
  obtain ⟨methM, cM, hmethM, -, -, -, -, -, -, hsigM⟩ := Jvm.Cond.code_spec hnamed w4'
  obtain ⟨v, vm₁, B, -, Y', h2, hg, ⟨L, q1, q2, q3, q4, q5, q6, q7, q8⟩, stp⟩ := Y.staticBackS cx.1 (own := own) (index := ix) (y := y) hown (mvT (s := s.setVm vm0) hZ w1) (mvT (s := s.setVm vm0) hZ w2) (mvT (s := s.setVm vm0) hZ w3) hnamed hmethM hsigM hy
    (backC (W := W) hM hZ w4 w3 hf hl hEL hE hC.1 fun x hx => hU x (hus x hx)) (g := mkF m pc Ls st) rfl (by rw [cx.2.2.1]; exact hsize) (Steps.refl _) (argsL := argsL) (rest := rest) (lenOf hpd hlen) hst (by show 2 * 0 + _ ≤ _; omega) (hb cx.2.1 hd)
    (fun _ _ => ⟨has, eT, hc, hs⟩)
  exact (K v B.U B.U.heap (St.back cx N hS hZ hown hC hU hWn Y' h2 (by rw [← eT]; exact hg) q2 q3 q4 q5 q6 q7 q8) q1).step fun t k => stp.trans k
theorem g_callI (X : St p l e R s m args below meth c own bytes maxL ret nm Z EL nw us bs T h cells slots) {y : MethodName} {cb : ByteArray} {cm : Nat} {rm : Room} {as' : Array Value} {us' : List Addr} {Qc : Option Value → Heap → Prop} {ix : Nat} (hy1 : y.name = "<init>")
    (w1 : (Jvm.Cond.methodLink own ix y).before a0 Z = true) (w2 : (Jvm.Cond.instanceMethod y).before a0 Z = true) (w3 : (Jvm.Cond.initialized y.cls).before a0 Z = true) (w4 : (Jvm.Cond.code y cb cm none).before a0 Z = true)
    (hy : y.cls ≠ "java/lang/invoke/MethodHandle" ∧ y.cls ≠ "java/lang/invoke/VarHandle") (hM : Ctr l Z EL nw y cb cm none rm as' h us' Qc) (hus : ∀ x ∈ us', x ∈ us)
    {a : Addr} {argsL rest : List Value} {ps : List FieldType} {rt : Option FieldType} (hpd : parseMethodDescriptor y.desc = some ⟨ps, rt⟩) (hlen : argsL.length = ps.length) (has : (.ref a :: argsL).toArray = as') (hst : st = argsL.reverse ++ .ref a :: rest) (hsize : Ls.size = maxL)
    (W : Nat) (hW : (rest.map fun v => v.category).sum ≤ W) (hf : rm.frames + 1 ≤ R.frames) (hl : W + (cm + 11) + rm.locals ≤ R.locals) {ck cs : Nat} (hck : cells + rm.cells = ck) (hcs : slots + rm.slots = cs) (hc : ck ≤ R.cells) (hs : cs ≤ R.slots)
    (hd : decode bytes pc = .ok (.invokespecial ix, 3)) (pc' : Nat) (hp : pc + 3 = pc')
    (K : ∀ v T' h', St p l e R s m args below meth c own bytes maxL ret nm Z EL nw us bs T' h' ck cs → Qc v h' → Goes p e below s Z EL nw Q kk nn (T'.setTop (mkF m pc' Ls (v.toList ++ rest)))) : Goes p e below s Z EL nw Q kk nn (T.setTop (mkF m pc Ls st)) := by
  subst hp hck hcs
  obtain ⟨cx, vm0, locs, Y, N, eT, hS, hZ, hown, hE, hC, hU, hWn⟩ := X
  obtain ⟨a1, hEL⟩ := cx.2.2.2.2.2.2
  obtain ⟨v, vm₁, B, -, Y', h2, hg, ⟨L, q1, q2, q3, q4, q5, q6, q7, q8⟩, stp⟩ := Y.specialBackS cx.1 (own := own) (index := ix) (y := y) hy1 hown (mvT (s := s.setVm vm0) hZ w1) (mvT (s := s.setVm vm0) hZ w2) (mvT (s := s.setVm vm0) hZ w4) hy
    (backC (W := W) hM hZ w4 w3 hf hl hEL hE hC.1 fun x hx => hU x (hus x hx)) (g := mkF m pc Ls st) rfl (by rw [cx.2.2.1]; exact hsize) (Steps.refl _) (a := a) (argsL := argsL) (rest := rest) (lenOf hpd hlen) hst (by show 2 * 0 + _ ≤ _; omega) (hb cx.2.1 hd)
    (fun _ _ => ⟨has, eT, hc, hs⟩)
  exact (K v B.U B.U.heap (St.back cx N hS hZ hown hC hU hWn Y' h2 (by rw [← eT]; exact hg) q2 q3 q4 q5 q6 q7 q8) q1).step fun t k => stp.trans k
theorem nfSel {C : String} {y : MethodName} (w : (Jvm.Cond.selects C y y).before a0 Z = true) : ∀ s' : State, Z.Warmed39 s'.vm → NotFace s' y := fun s' hZ => notFace_of_selects (args := #[]) (mvT (s := s') hZ w)
theorem g_callV (X : St p l e R s m args below meth c own bytes maxL ret nm Z EL nw us bs T h cells slots) {C : String} {y z : MethodName} {cb : ByteArray} {cm : Nat} {cr : Option FieldType} {rm : Room} {as' : Array Value} {us' : List Addr} {Qc : Option Value → Heap → Prop} {ix : Nat}
    (w1 : (Jvm.Cond.methodLink own ix y).before a0 Z = true) (w2 : (Jvm.Cond.declares y).before a0 Z = true) (w3 : (Jvm.Cond.selects C y z).before a0 Z = true) (w4 : (Jvm.Cond.instanceMethod z).before a0 Z = true) (w5 : (Jvm.Cond.initialized z.cls).before a0 Z = true) (w6 : (Jvm.Cond.code z cb cm cr).before a0 Z = true)
    (hnf : ∀ s' : State, Z.Warmed39 s'.vm → NotFace s' y) (hy : y.cls ≠ "java/lang/invoke/MethodHandle" ∧ y.cls ≠ "java/lang/invoke/VarHandle") {a : Addr} (Ex : Exa Z h a C) (hM : Ctr l Z EL nw z cb cm cr rm as' h us' Qc) (hus : ∀ x ∈ us', x ∈ us)
    {argsL rest : List Value} {ps : List FieldType} {rt : Option FieldType} (hpd : parseMethodDescriptor y.desc = some ⟨ps, rt⟩) (hlen : argsL.length = ps.length) (has : (.ref a :: argsL).toArray = as') (hst : st = argsL.reverse ++ .ref a :: rest) (hsize : Ls.size = maxL)
    (W : Nat) (hW : (rest.map fun v => v.category).sum ≤ W) (hf : rm.frames + 1 ≤ R.frames) (hl : W + (cm + 11) + rm.locals ≤ R.locals) {ck cs : Nat} (hck : cells + rm.cells = ck) (hcs : slots + rm.slots = cs) (hc : ck ≤ R.cells) (hs : cs ≤ R.slots)
    (hd : decode bytes pc = .ok (.invokevirtual ix, 3)) (pc' : Nat) (hp : pc + 3 = pc')
    (K : ∀ v T' h', St p l e R s m args below meth c own bytes maxL ret nm Z EL nw us bs T' h' ck cs → Qc v h' → Goes p e below s Z EL nw Q kk nn (T'.setTop (mkF m pc' Ls (v.toList ++ rest)))) : Goes p e below s Z EL nw Q kk nn (T.setTop (mkF m pc Ls st)) := by
  subst hp hck hcs
  obtain ⟨cx, vm0, locs, Y, N, eT, hS, hZ, hown, hE, hC, hU, hWn⟩ := X
  obtain ⟨a1, hEL⟩ := cx.2.2.2.2.2.2
  obtain ⟨cq, kq, qa, qb, qc⟩ := isOf (s := s.setVm vm0) hZ eT Ex
  obtain ⟨v, vm₁, B, -, Y', h2, hg, ⟨L, q1, q2, q3, q4, q5, q6, q7, q8⟩, stp⟩ := Y.virtualBackS cx.1 (own := own) (index := ix) (y := y) (z := z) hown (mvT (s := s.setVm vm0) hZ w1) (mvT (s := s.setVm vm0) hZ w2) (hnf (s.setVm vm0) hZ) (mvT (s := s.setVm vm0) hZ w3) (mvT (s := s.setVm vm0) hZ w4) hy
    (backC (W := W) hM hZ w6 w5 hf hl hEL hE hC.1 fun x hx => hU x (hus x hx)) qa qc (g := mkF m pc Ls st) rfl (by rw [cx.2.2.1]; exact hsize) (Steps.refl _) (argsL := argsL) (rest := rest) (lenOf hpd hlen) hst (by show 2 * 0 + _ ≤ _; omega) (hb cx.2.1 hd)
    (fun _ _ => ⟨has, eT, hc, hs⟩)
  exact (K v B.U B.U.heap (St.back cx N hS hZ hown hC hU hWn Y' h2 (by rw [← eT]; exact hg) q2 q3 q4 q5 q6 q7 q8) q1).step fun t k => stp.trans k
theorem g_callSp (X : St p l e R s m args below meth c own bytes maxL ret nm Z EL nw us bs T h cells slots) {y : MethodName} {cb : ByteArray} {cm : Nat} {cr : Option FieldType} {rm : Room} {as' : Array Value} {us' : List Addr} {Qv : Value → Prop} {ix : Nat}
    (w1 : (Jvm.Cond.methodLink own ix y).before a0 Z = true) (w2 : (Jvm.Cond.static y).before a0 Z = true) (w3 : (Jvm.Cond.initialized y.cls).before a0 Z = true) (w4 : (Jvm.Cond.code y cb cm cr).before a0 Z = true)
    (hy : y.cls ≠ "java/lang/invoke/MethodHandle" ∧ y.cls ≠ "java/lang/invoke/VarHandle") (hM : Ctr l Z EL nw y cb cm cr rm as' h us' (PureQ h Qv)) (hus : ∀ x ∈ us', x ∈ us)
    {argsL rest : List Value} {ps : List FieldType} {rt : Option FieldType} (hpd : parseMethodDescriptor y.desc = some ⟨ps, rt⟩) (hlen : argsL.length = ps.length) (has : argsL.toArray = as') (hst : st = argsL.reverse ++ rest) (hsize : Ls.size = maxL)
    (W : Nat) (hW : (rest.map fun v => v.category).sum ≤ W) (hf : rm.frames + 1 ≤ R.frames) (hl : W + (cm + 11) + rm.locals ≤ R.locals) {ck cs : Nat} (hck : cells + rm.cells = ck) (hcs : slots + rm.slots = cs) (hc : ck ≤ R.cells) (hs : cs ≤ R.slots)
    (hd : decode bytes pc = .ok (.invokestatic ix, 3)) (pc' : Nat) (hp : pc + 3 = pc')
    (K : ∀ w T', St p l e R s m args below meth c own bytes maxL ret nm Z EL nw us bs T' h ck cs → Qv w → Goes p e below s Z EL nw Q kk nn (T'.setTop (mkF m pc' Ls (w :: rest)))) : Goes p e below s Z EL nw Q kk nn (T.setTop (mkF m pc Ls st)) :=
  g_callS X w1 w2 w3 w4 hy hM hus hpd hlen has hst hsize W hW hf hl hck hcs hc hs hd pc' hp (by
    intro v T' h' X' hq
    obtain ⟨rfl, w, rfl, hw⟩ := hq
    exact K w T' X' hw)
theorem g_callSv (X : St p l e R s m args below meth c own bytes maxL ret nm Z EL nw us bs T h cells slots) {y : MethodName} {cb : ByteArray} {cm : Nat} {cr : Option FieldType} {rm : Room} {as' : Array Value} {us' : List Addr} {Qv : Value → Heap → Prop} {ix : Nat}
    (w1 : (Jvm.Cond.methodLink own ix y).before a0 Z = true) (w2 : (Jvm.Cond.static y).before a0 Z = true) (w3 : (Jvm.Cond.initialized y.cls).before a0 Z = true) (w4 : (Jvm.Cond.code y cb cm cr).before a0 Z = true)
    (hy : y.cls ≠ "java/lang/invoke/MethodHandle" ∧ y.cls ≠ "java/lang/invoke/VarHandle") (hM : Ctr l Z EL nw y cb cm cr rm as' h us' (ValQ Qv)) (hus : ∀ x ∈ us', x ∈ us)
    {argsL rest : List Value} {ps : List FieldType} {rt : Option FieldType} (hpd : parseMethodDescriptor y.desc = some ⟨ps, rt⟩) (hlen : argsL.length = ps.length) (has : argsL.toArray = as') (hst : st = argsL.reverse ++ rest) (hsize : Ls.size = maxL)
    (W : Nat) (hW : (rest.map fun v => v.category).sum ≤ W) (hf : rm.frames + 1 ≤ R.frames) (hl : W + (cm + 11) + rm.locals ≤ R.locals) {ck cs : Nat} (hck : cells + rm.cells = ck) (hcs : slots + rm.slots = cs) (hc : ck ≤ R.cells) (hs : cs ≤ R.slots)
    (hd : decode bytes pc = .ok (.invokestatic ix, 3)) (pc' : Nat) (hp : pc + 3 = pc')
    (K : ∀ w T' h', St p l e R s m args below meth c own bytes maxL ret nm Z EL nw us bs T' h' ck cs → Qv w h' → Goes p e below s Z EL nw Q kk nn (T'.setTop (mkF m pc' Ls (w :: rest)))) : Goes p e below s Z EL nw Q kk nn (T.setTop (mkF m pc Ls st)) :=
  g_callS X w1 w2 w3 w4 hy hM hus hpd hlen has hst hsize W hW hf hl hck hcs hc hs hd pc' hp (by
    intro v T' h' X' hq
    obtain ⟨w, rfl, hw⟩ := hq
    exact K w T' h' X' hw)
theorem g_callSn (X : St p l e R s m args below meth c own bytes maxL ret nm Z EL nw us bs T h cells slots) {y : MethodName} {cb : ByteArray} {cm : Nat} {cr : Option FieldType} {rm : Room} {as' : Array Value} {us' : List Addr} {Qn : Heap → Prop} {ix : Nat}
    (w1 : (Jvm.Cond.methodLink own ix y).before a0 Z = true) (w2 : (Jvm.Cond.static y).before a0 Z = true) (w3 : (Jvm.Cond.initialized y.cls).before a0 Z = true) (w4 : (Jvm.Cond.code y cb cm cr).before a0 Z = true)
    (hy : y.cls ≠ "java/lang/invoke/MethodHandle" ∧ y.cls ≠ "java/lang/invoke/VarHandle") (hM : Ctr l Z EL nw y cb cm cr rm as' h us' (VoidQ Qn)) (hus : ∀ x ∈ us', x ∈ us)
    {argsL rest : List Value} {ps : List FieldType} {rt : Option FieldType} (hpd : parseMethodDescriptor y.desc = some ⟨ps, rt⟩) (hlen : argsL.length = ps.length) (has : argsL.toArray = as') (hst : st = argsL.reverse ++ rest) (hsize : Ls.size = maxL)
    (W : Nat) (hW : (rest.map fun v => v.category).sum ≤ W) (hf : rm.frames + 1 ≤ R.frames) (hl : W + (cm + 11) + rm.locals ≤ R.locals) {ck cs : Nat} (hck : cells + rm.cells = ck) (hcs : slots + rm.slots = cs) (hc : ck ≤ R.cells) (hs : cs ≤ R.slots)
    (hd : decode bytes pc = .ok (.invokestatic ix, 3)) (pc' : Nat) (hp : pc + 3 = pc')
    (K : ∀ T' h', St p l e R s m args below meth c own bytes maxL ret nm Z EL nw us bs T' h' ck cs → Qn h' → Goes p e below s Z EL nw Q kk nn (T'.setTop (mkF m pc' Ls rest))) : Goes p e below s Z EL nw Q kk nn (T.setTop (mkF m pc Ls st)) :=
  g_callS X w1 w2 w3 w4 hy hM hus hpd hlen has hst hsize W hW hf hl hck hcs hc hs hd pc' hp (by
    intro v T' h' X' hq
    obtain ⟨rfl, hw⟩ := hq
    exact K T' h' X' hw)
theorem g_callIn (X : St p l e R s m args below meth c own bytes maxL ret nm Z EL nw us bs T h cells slots) {y : MethodName} {cb : ByteArray} {cm : Nat} {rm : Room} {as' : Array Value} {us' : List Addr} {Qn : Heap → Prop} {ix : Nat} (hy1 : y.name = "<init>")
    (w1 : (Jvm.Cond.methodLink own ix y).before a0 Z = true) (w2 : (Jvm.Cond.instanceMethod y).before a0 Z = true) (w3 : (Jvm.Cond.initialized y.cls).before a0 Z = true) (w4 : (Jvm.Cond.code y cb cm none).before a0 Z = true)
    (hy : y.cls ≠ "java/lang/invoke/MethodHandle" ∧ y.cls ≠ "java/lang/invoke/VarHandle") (hM : Ctr l Z EL nw y cb cm none rm as' h us' (VoidQ Qn)) (hus : ∀ x ∈ us', x ∈ us)
    {a : Addr} {argsL rest : List Value} {ps : List FieldType} {rt : Option FieldType} (hpd : parseMethodDescriptor y.desc = some ⟨ps, rt⟩) (hlen : argsL.length = ps.length) (has : (.ref a :: argsL).toArray = as') (hst : st = argsL.reverse ++ .ref a :: rest) (hsize : Ls.size = maxL)
    (W : Nat) (hW : (rest.map fun v => v.category).sum ≤ W) (hf : rm.frames + 1 ≤ R.frames) (hl : W + (cm + 11) + rm.locals ≤ R.locals) {ck cs : Nat} (hck : cells + rm.cells = ck) (hcs : slots + rm.slots = cs) (hc : ck ≤ R.cells) (hs : cs ≤ R.slots)
    (hd : decode bytes pc = .ok (.invokespecial ix, 3)) (pc' : Nat) (hp : pc + 3 = pc')
    (K : ∀ T' h', St p l e R s m args below meth c own bytes maxL ret nm Z EL nw us bs T' h' ck cs → Qn h' → Goes p e below s Z EL nw Q kk nn (T'.setTop (mkF m pc' Ls rest))) : Goes p e below s Z EL nw Q kk nn (T.setTop (mkF m pc Ls st)) :=
  g_callI X hy1 w1 w2 w3 w4 hy hM hus hpd hlen has hst hsize W hW hf hl hck hcs hc hs hd pc' hp (by
    intro v T' h' X' hq
    obtain ⟨rfl, hw⟩ := hq
    exact K T' h' X' hw)
theorem g_callVp (X : St p l e R s m args below meth c own bytes maxL ret nm Z EL nw us bs T h cells slots) {C : String} {y z : MethodName} {cb : ByteArray} {cm : Nat} {cr : Option FieldType} {rm : Room} {as' : Array Value} {us' : List Addr} {Qv : Value → Prop} {ix : Nat}
    (w1 : (Jvm.Cond.methodLink own ix y).before a0 Z = true) (w2 : (Jvm.Cond.declares y).before a0 Z = true) (w3 : (Jvm.Cond.selects C y z).before a0 Z = true) (w4 : (Jvm.Cond.instanceMethod z).before a0 Z = true) (w5 : (Jvm.Cond.initialized z.cls).before a0 Z = true) (w6 : (Jvm.Cond.code z cb cm cr).before a0 Z = true)
    (hnf : ∀ s' : State, Z.Warmed39 s'.vm → NotFace s' y) (hy : y.cls ≠ "java/lang/invoke/MethodHandle" ∧ y.cls ≠ "java/lang/invoke/VarHandle") {a : Addr} (Ex : Exa Z h a C) (hM : Ctr l Z EL nw z cb cm cr rm as' h us' (PureQ h Qv)) (hus : ∀ x ∈ us', x ∈ us)
    {argsL rest : List Value} {ps : List FieldType} {rt : Option FieldType} (hpd : parseMethodDescriptor y.desc = some ⟨ps, rt⟩) (hlen : argsL.length = ps.length) (has : (.ref a :: argsL).toArray = as') (hst : st = argsL.reverse ++ .ref a :: rest) (hsize : Ls.size = maxL)
    (W : Nat) (hW : (rest.map fun v => v.category).sum ≤ W) (hf : rm.frames + 1 ≤ R.frames) (hl : W + (cm + 11) + rm.locals ≤ R.locals) {ck cs : Nat} (hck : cells + rm.cells = ck) (hcs : slots + rm.slots = cs) (hc : ck ≤ R.cells) (hs : cs ≤ R.slots)
    (hd : decode bytes pc = .ok (.invokevirtual ix, 3)) (pc' : Nat) (hp : pc + 3 = pc')
    (K : ∀ w T', St p l e R s m args below meth c own bytes maxL ret nm Z EL nw us bs T' h ck cs → Qv w → Goes p e below s Z EL nw Q kk nn (T'.setTop (mkF m pc' Ls (w :: rest)))) : Goes p e below s Z EL nw Q kk nn (T.setTop (mkF m pc Ls st)) :=
  g_callV X w1 w2 w3 w4 w5 w6 hnf hy Ex hM hus hpd hlen has hst hsize W hW hf hl hck hcs hc hs hd pc' hp (by
    intro v T' h' X' hq
    obtain ⟨rfl, w, rfl, hw⟩ := hq
    exact K w T' X' hw)
theorem g_callVv (X : St p l e R s m args below meth c own bytes maxL ret nm Z EL nw us bs T h cells slots) {C : String} {y z : MethodName} {cb : ByteArray} {cm : Nat} {cr : Option FieldType} {rm : Room} {as' : Array Value} {us' : List Addr} {Qv : Value → Heap → Prop} {ix : Nat}
    (w1 : (Jvm.Cond.methodLink own ix y).before a0 Z = true) (w2 : (Jvm.Cond.declares y).before a0 Z = true) (w3 : (Jvm.Cond.selects C y z).before a0 Z = true) (w4 : (Jvm.Cond.instanceMethod z).before a0 Z = true) (w5 : (Jvm.Cond.initialized z.cls).before a0 Z = true) (w6 : (Jvm.Cond.code z cb cm cr).before a0 Z = true)
    (hnf : ∀ s' : State, Z.Warmed39 s'.vm → NotFace s' y) (hy : y.cls ≠ "java/lang/invoke/MethodHandle" ∧ y.cls ≠ "java/lang/invoke/VarHandle") {a : Addr} (Ex : Exa Z h a C) (hM : Ctr l Z EL nw z cb cm cr rm as' h us' (ValQ Qv)) (hus : ∀ x ∈ us', x ∈ us)
    {argsL rest : List Value} {ps : List FieldType} {rt : Option FieldType} (hpd : parseMethodDescriptor y.desc = some ⟨ps, rt⟩) (hlen : argsL.length = ps.length) (has : (.ref a :: argsL).toArray = as') (hst : st = argsL.reverse ++ .ref a :: rest) (hsize : Ls.size = maxL)
    (W : Nat) (hW : (rest.map fun v => v.category).sum ≤ W) (hf : rm.frames + 1 ≤ R.frames) (hl : W + (cm + 11) + rm.locals ≤ R.locals) {ck cs : Nat} (hck : cells + rm.cells = ck) (hcs : slots + rm.slots = cs) (hc : ck ≤ R.cells) (hs : cs ≤ R.slots)
    (hd : decode bytes pc = .ok (.invokevirtual ix, 3)) (pc' : Nat) (hp : pc + 3 = pc')
    (K : ∀ w T' h', St p l e R s m args below meth c own bytes maxL ret nm Z EL nw us bs T' h' ck cs → Qv w h' → Goes p e below s Z EL nw Q kk nn (T'.setTop (mkF m pc' Ls (w :: rest)))) : Goes p e below s Z EL nw Q kk nn (T.setTop (mkF m pc Ls st)) :=
  g_callV X w1 w2 w3 w4 w5 w6 hnf hy Ex hM hus hpd hlen has hst hsize W hW hf hl hck hcs hc hs hd pc' hp (by
    intro v T' h' X' hq
    obtain ⟨w, rfl, hw⟩ := hq
    exact K w T' h' X' hw)
theorem g_callVn (X : St p l e R s m args below meth c own bytes maxL ret nm Z EL nw us bs T h cells slots) {C : String} {y z : MethodName} {cb : ByteArray} {cm : Nat} {cr : Option FieldType} {rm : Room} {as' : Array Value} {us' : List Addr} {Qn : Heap → Prop} {ix : Nat}
    (w1 : (Jvm.Cond.methodLink own ix y).before a0 Z = true) (w2 : (Jvm.Cond.declares y).before a0 Z = true) (w3 : (Jvm.Cond.selects C y z).before a0 Z = true) (w4 : (Jvm.Cond.instanceMethod z).before a0 Z = true) (w5 : (Jvm.Cond.initialized z.cls).before a0 Z = true) (w6 : (Jvm.Cond.code z cb cm cr).before a0 Z = true)
    (hnf : ∀ s' : State, Z.Warmed39 s'.vm → NotFace s' y) (hy : y.cls ≠ "java/lang/invoke/MethodHandle" ∧ y.cls ≠ "java/lang/invoke/VarHandle") {a : Addr} (Ex : Exa Z h a C) (hM : Ctr l Z EL nw z cb cm cr rm as' h us' (VoidQ Qn)) (hus : ∀ x ∈ us', x ∈ us)
    {argsL rest : List Value} {ps : List FieldType} {rt : Option FieldType} (hpd : parseMethodDescriptor y.desc = some ⟨ps, rt⟩) (hlen : argsL.length = ps.length) (has : (.ref a :: argsL).toArray = as') (hst : st = argsL.reverse ++ .ref a :: rest) (hsize : Ls.size = maxL)
    (W : Nat) (hW : (rest.map fun v => v.category).sum ≤ W) (hf : rm.frames + 1 ≤ R.frames) (hl : W + (cm + 11) + rm.locals ≤ R.locals) {ck cs : Nat} (hck : cells + rm.cells = ck) (hcs : slots + rm.slots = cs) (hc : ck ≤ R.cells) (hs : cs ≤ R.slots)
    (hd : decode bytes pc = .ok (.invokevirtual ix, 3)) (pc' : Nat) (hp : pc + 3 = pc')
    (K : ∀ T' h', St p l e R s m args below meth c own bytes maxL ret nm Z EL nw us bs T' h' ck cs → Qn h' → Goes p e below s Z EL nw Q kk nn (T'.setTop (mkF m pc' Ls rest))) : Goes p e below s Z EL nw Q kk nn (T.setTop (mkF m pc Ls st)) :=
  g_callV X w1 w2 w3 w4 w5 w6 hnf hy Ex hM hus hpd hlen has hst hsize W hW hf hl hck hcs hc hs hd pc' hp (by
    intro v T' h' X' hq
    obtain ⟨rfl, hw⟩ := hq
    exact K T' h' X' hw)
end CallOps
end Jvm.OwnKit
namespace Jvm.OwnKit
open Sem ClassFile Op Lib Jvm.Stand Jvm.Free Jvm.LawKit Jvm.RoadKit
section StartFacts
variable {args : Array Value} {s : State} {t X F : Term} {a y : Addr}
theorem own_eqr (hF : F.eval args s none [] s = some (.ref y)) (h : (Jvm.Cond.eq X F).value args s none s [] = some true) : X.eval args s none [] s = some (.ref y) := by
  obtain ⟨x, y', e1, e2, k1, k2⟩ := cmp_v (Or.inl h)
  cases hF.symm.trans e2
  have hx : x.isRef = true := by cases x <;> simp_all [Jvm.Cond.value, Value.isRef]
  have q := gotT (eq_R e1 hF hx rfl) h
  rw [e1, q]
theorem own_fldI {C n d : String} {v : Int32} (ht : t.eval args s none [] s = some (.ref a)) (h : (Jvm.Cond.eq (.field t C n d) (.int v)).value args s none s [] = some true) : Fld s s.heap a C n d (.int v) := by
  have e := eqv_i (Term.int_eval v) h
  rw [fld_at ht] at e
  exact Fld.start e
theorem own_fld0 {C n d : String} (ht : t.eval args s none [] s = some (.ref a)) (h : (Jvm.Cond.eq (.field t C n d) .null).value args s none s [] = some true) : Fld s s.heap a C n d .null := by
  have e := null_v h
  rw [fld_at ht] at e
  exact Fld.start e
theorem own_fldR {C n d : String} {F : Term} (ht : t.eval args s none [] s = some (.ref a)) (hF : F.eval args s none [] s = some (.ref y)) (h : (Jvm.Cond.eq (.field t C n d) F).value args s none s [] = some true) : Fld s s.heap a C n d (.ref y) := by
  have e := own_eqr hF h
  rw [fld_at ht] at e
  exact Fld.start e
theorem own_len {cl : Cell} {ty : FieldType} {z : Int32} (A : Arr s s.heap a cl ty) (ht : t.eval args s none [] s = some (.ref a)) (h : (Jvm.Cond.eq (.length t) (.int z)).value args s none s [] = some true) : cl.slots.size < 2 ^ 31 ∧ cl.slots.size.toInt32 = z := by
  have e := eqv_i (Term.int_eval z) h
  have ha := Arr.fin (U := s) (Vm.Alike.refl _) A
  have e2 : (Term.length t).eval args s none [] s = if cl.slots.size < 2 ^ 31 then some (.int cl.slots.size.toInt32) else none := by simp [Term.eval, ht, ha]
  rw [e2] at e
  by_cases q : cl.slots.size < 2 ^ 31
  · rw [if_pos q] at e
    exact ⟨q, Value.int.inj (Option.some.inj e)⟩
  · rw [if_neg q] at e; cases e
theorem own_elem {cl : Cell} {ty : FieldType} {j : Int32} {F : Term} (A : Arr s s.heap a cl ty) (ht : t.eval args s none [] s = some (.ref a)) (hF : F.eval args s none [] s = some (.ref y)) (h : (Jvm.Cond.eq (.elem t (.int j)) F).value args s none s [] = some true) : cl.slots[j.toNatClampNeg]? = some (.ref y) :=
  (elem_in (own_eqr hF h) ht (Term.int_eval j) A.1).2
end StartFacts
end Jvm.OwnKit
namespace Jvm.OwnKit
open Sem ClassFile Op Lib Jvm.Stand Jvm.Free Jvm.LawKit Jvm.RoadKit
/-- a String of the signs cs (each 0 to 255), apart from what is under construction -/
def Str (Z : State) (h : Heap) (us : List Addr) (a : Addr) (cs : List Int32) : Prop :=
  ∃ (t : Addr) (kb : ClassId), Exa Z h a "java/lang/String" ∧ Fld Z h a "java/lang/String" "coder" "B" (.int 0) ∧ Fld Z h a "java/lang/String" "value" "[B" (.ref t) ∧
    Arv Z h t kb .byte (Int32.ofNat cs.length) ((cs.map fun c => c.toInt8.toInt32).map Value.int) (.int 0) ∧ (∀ c ∈ cs, ¬ c < 0 ∧ ¬ (255 : Int32) < c) ∧ cs.length ≤ 4000 ∧ ∀ x ∈ us, x ≠ a ∧ x ≠ t
section StrFacts
variable {Z : State} {h h' : Heap} {us us' ws : List Addr} {a b : Addr} {cs : List Int32} {sl : Nat} {v : Value}
theorem Str.ext (F : Str Z h us a cs) (E : Ext h h') : Str Z h' us a cs := by
  obtain ⟨t, kb, h1, h2, h3, h4, h5, h6, h7⟩ := F
  exact ⟨t, kb, h1.ext E, h2.ext E, h3.ext E, h4.ext E, h5, h6, h7⟩
theorem Str.keep (F : Str Z h us a cs) (K : Keep h h' ws) (q : ∀ x ∈ ws, x ∈ us) : Str Z h' us a cs := by
  obtain ⟨t, kb, h1, h2, h3, h4, h5, h6, h7⟩ := F
  have na : a ∉ ws := fun r => (h7 a (q a r)).1 rfl
  have nt : t ∉ ws := fun r => (h7 t (q t r)).2 rfl
  exact ⟨t, kb, h1.keep K, h2.keep K na, h3.keep K na, h4.keep K nt, h5, h6, h7⟩
theorem Str.wr (F : Str Z h us a cs) (W : Wr h h' b sl v) (q : b ∈ us) : Str Z h' us a cs := F.keep (Keep.of_wr W) (fun x hx => by cases List.mem_singleton.mp hx; exact q)
theorem Str.sub (F : Str Z h us a cs) (q : ∀ x ∈ us', x ∈ us) : Str Z h us' a cs := by
  obtain ⟨t, kb, h1, h2, h3, h4, h5, h6, h7⟩ := F
  exact ⟨t, kb, h1, h2, h3, h4, h5, h6, fun x hx => h7 x (q x hx)⟩
theorem Str.grow (F : Str Z h us a cs) (E : Ext h h') (q : b = h.size) : Str Z h' (b :: us) a cs := by
  obtain ⟨t, kb, h1, h2, h3, h4, h5, h6, h7⟩ := F
  refine ⟨t, kb, h1.ext E, h2.ext E, h3.ext E, h4.ext E, h5, h6, fun x hx => ?_⟩
  rcases List.mem_cons.mp hx with rfl | hx
  · subst q; exact ⟨Nat.ne_of_gt h1.lt, Nat.ne_of_gt h4.lt⟩
  · exact h7 x hx
theorem Str.exa (F : Str Z h us a cs) : Exa Z h a "java/lang/String" := by obtain ⟨t, kb, h1, -⟩ := F; exact h1
theorem Str.lt (F : Str Z h us a cs) : a < h.size := F.exa.lt
theorem Str.ne (F : Str Z h us a cs) {x : Addr} (q : x ∈ us) : x ≠ a := by obtain ⟨t, kb, h1, h2, h3, h4, h5, h6, h7⟩ := F; exact (h7 x q).1
theorem str_of {h0 : Heap} (q : ∃ (t : Addr) (kb : ClassId), Exa Z h' a "java/lang/String" ∧ Fld Z h' a "java/lang/String" "coder" "B" (.int 0) ∧ Fld Z h' a "java/lang/String" "value" "[B" (.ref t) ∧ Arv Z h' t kb .byte (Int32.ofNat cs.length) ((cs.map fun c => c.toInt8.toInt32).map Value.int) (.int 0) ∧ (∀ c ∈ cs, ¬ c < 0 ∧ ¬ (255 : Int32) < c) ∧ cs.length ≤ 4000 ∧ h.size ≤ t)
    (hx : ∀ x ∈ us, x < h0.size) (h1 : h0.size ≤ a) (h2 : h0.size ≤ h.size) : Str Z h' us a cs := by
  obtain ⟨t, kb, e1, e2, e3, e4, e5, e6, e7⟩ := q
  exact ⟨t, kb, e1, e2, e3, e4, e5, e6, fun x q => ⟨Nat.ne_of_lt (Nat.lt_of_lt_of_le (hx x q) h1), Nat.ne_of_lt (Nat.lt_of_lt_of_le (hx x q) (Nat.le_trans h2 e7))⟩⟩
theorem and255 (x : Int32) : ¬ (x &&& 255) < 0 ∧ ¬ (255 : Int32) < (x &&& 255) := by
  have h := c_and x 255 (by decide)
  rw [Int32.lt_iff_toInt_lt, Int32.lt_iff_toInt_lt]
  have h2 : (255 : Int32).toInt = 255 := by decide
  have h3 : (0 : Int32).toInt = 0 := by decide
  omega
theorem nar255 {c : Int32} (h : ¬ c < 0 ∧ ¬ (255 : Int32) < c) : nar .char c = c := by
  obtain ⟨h1, h2⟩ := h
  have q := c_i2c c
  rw [Int32.lt_iff_toInt_lt] at h1 h2
  have e2 : (255 : Int32).toInt = 255 := by decide
  have e3 : (0 : Int32).toInt = 0 := by decide
  have : c.toUInt32.toUInt16.toUInt32.toInt32.toInt = c.toInt := by omega
  exact Int32.toInt_inj.mp this
/-- made since the heap h0: apart from whatever stood there -/
def StrN (Z : State) (h0 h : Heap) (a : Addr) (cs : List Int32) : Prop :=
  ∃ (t : Addr) (kb : ClassId), Exa Z h a "java/lang/String" ∧ Fld Z h a "java/lang/String" "coder" "B" (.int 0) ∧ Fld Z h a "java/lang/String" "value" "[B" (.ref t) ∧
    Arv Z h t kb .byte (Int32.ofNat cs.length) ((cs.map fun c => c.toInt8.toInt32).map Value.int) (.int 0) ∧ (∀ c ∈ cs, ¬ c < 0 ∧ ¬ (255 : Int32) < c) ∧ cs.length ≤ 4000 ∧ h0.size ≤ a ∧ h0.size ≤ t
theorem StrN.str {h0 : Heap} (F : StrN Z h0 h a cs) (q : ∀ x ∈ us, x < h0.size) : Str Z h us a cs := by
  obtain ⟨t, kb, h1, h2, h3, h4, h5, h6, h7, h8⟩ := F
  exact ⟨t, kb, h1, h2, h3, h4, h5, h6, fun x hx => ⟨Nat.ne_of_lt (Nat.lt_of_lt_of_le (q x hx) h7), Nat.ne_of_lt (Nat.lt_of_lt_of_le (q x hx) h8)⟩⟩
end StrFacts
section StrOps
variable {p : Program} {l : Launch} {e : Env} {R : Room} {s : State} {m : MethodId} {args : Array Value} {below : List Frame} {meth : Method} {c : Code}
  {own : String} {bytes : ByteArray} {maxL : Nat} {ret : Option FieldType} {nm : String} {Z : State} {EL : List (String × Nat)} {nw : Bool} {us : List Addr} {bs : List (String × Nat × Addr)}
  {T : State} {h : Heap} {cells slots : Nat} {Q : Option Value → Heap → Prop} {kk nn : Nat} {a0 : Array Value} {pc : Nat} {Ls : Array Slot} {st : List Value}

theorem St.news (X : St p l e R s m args below meth c own bytes maxL ret nm Z EL nw us bs T h cells slots) : ∀ x ∈ us, x < h.size := fun x hx => (X.new hx).2
theorem lt_ofNat {n : Nat} (q : n ≤ 4000) : ¬ (Int32.ofNat n) < 0 ∧ (Int32.ofNat n).toNatClampNeg = n := by
  have h1 : (Int32.ofNat n).toInt = n := by rw [Int32.toInt_ofNat_of_lt]; omega
  exact ⟨by rw [Int32.lt_iff_toInt_lt, h1]; simp, by simp [Int32.toNatClampNeg, h1]⟩
/-- ldc of a String constant -/
theorem g_ldcS (X : St p l e R s m args below meth c own bytes maxL ret nm Z EL nw us bs T h cells slots) {ix : Nat} {text : String} {cs : List Int32} (hnw : nw = false) (w : (Jvm.Cond.stringLink own ix text).before a0 Z = true) (wS : ∀ a ∈ Bundle.stringAtoms, a.before a0 Z = true) (hmem : (own, ix) ∈ EL)
    (ht : (∀ c ∈ text.toList, c.toNat < 256) ∧ text.toList.map (fun c => Value.int (Jvm.Lit.byteI c.toNat.toUInt16)) = (cs.map fun c => c.toInt8.toInt32).map Value.int) (hcs : ∀ c ∈ cs, ¬ c < 0 ∧ ¬ (255 : Int32) < c) (hlen : cs.length ≤ 4000)
    (hd : decode bytes pc = .ok (.ldc ix, 2)) (n : Nat) (hn : 4 * text.toList.length ≤ n) (hbig : n ≤ 536870912) {ck cs' : Nat} (hck : cells + 2 = ck) (hcs' : slots + (n + 4) = cs') (hc : ck ≤ R.cells) (hl : cs' ≤ R.slots) (pc' : Nat) (hp : pc + 2 = pc')
    (K : ∀ a T' h', St p l e R s m args below meth c own bytes maxL ret nm Z EL nw us ((own, ix, a) :: bs) T' h' ck cs' → Ext h h' → Str Z h' us a cs → Goes p e below s Z EL nw Q kk nn (T'.setTop (mkF m pc' Ls (.ref a :: st)))) : Goes p e below s Z EL nw Q kk nn (T.setTop (mkF m pc Ls st)) := by
  subst hp hck hcs'
  obtain ⟨cx, vm0, locs, Y, N, eT, hS, hZ, hown, hE, hC, hU, hW⟩ := X
  obtain ⟨a1, hEL⟩ := cx.2.2.2.2.2.2
  have hl32 : ¬ (Int32.ofNat cs.length) < 0 ∧ (Int32.ofNat cs.length).toNatClampNeg = ((cs.map fun c => c.toInt8.toInt32).map Value.int).length := by
    have := lt_ofNat hlen; simpa using this
  obtain ⟨a, T', h', k1, b, k, Y', e', E, hS2, hk1, hZ', hown', q1, q2, q3, q4, q5, q6, hC', hLit, hsafe, stp⟩ := ldcCH (s := s.setVm vm0) Y cx.1 hZ hown w wS eT ((State.WarmedH.refl (s.setVm vm0)).since h.size) (Nat.le_refl _) hEL hmem hC.1 ht hl32.1 hl32.2 (g := mkF m pc Ls st) rfl (hb cx.2.1 hd) hn hbig hc hl
  have hU' : ∀ x ∈ us, Z.heap.size ≤ x ∧ x < h'.size ∧ Safe Z EL T'.vm h' x := fun x hx => ⟨(hU x hx).1, Nat.lt_of_lt_of_le (hU x hx).2.1 E.1, hC'.safe (hU x hx).2.1 (hU x hx).2.2⟩
  have hS3 : s.Since T'.vm h'.size := hS.trans ⟨hS2.1, hS2.2.mono hk1⟩ E.1
  have hB : ∀ q ∈ (own, ix, a) :: bs, Lit (s.setVm T'.vm) q.1 q.2.1 q.2.2 := fun q hq => by
    rcases List.mem_cons.mp hq with rfl | hq
    · exact hLit
    · exact (hW.2 q hq).stays hS2.1
  exact (K a T' h' ⟨cx, T'.vm, locs, Y', N, e', hS3, hZ', hown', hE.trans E, hC.trans hC', hU', (fun q => by rw [hnw] at q; cases q), hB⟩ E ⟨b, k, q1, q2, q3, q4, hcs, hlen, fun x hx => hsafe x (hU' x hx).2.2⟩).step stp
/-- ldc of a String constant that this walk has loaded -/
theorem g_ldcA (X : St p l e R s m args below meth c own bytes maxL ret nm Z EL nw us bs T h cells slots) {ix : Nat} {text : String} {a : Addr} (w : (Jvm.Cond.stringLink own ix text).before a0 Z = true) (hm : (own, ix, a) ∈ bs) (hd : decode bytes pc = .ok (.ldc ix, 2)) (pc' : Nat) (hp : pc + 2 = pc')
    (K : Goes p e below s Z EL nw Q kk nn (T.setTop (mkF m pc' Ls (.ref a :: st)))) : Goes p e below s Z EL nw Q kk nn (T.setTop (mkF m pc Ls st)) := by
  subst hp
  obtain ⟨cx, vm0, locs, Y, N, eT, hS, hZ, hown, hE, hC, hU, hW⟩ := X
  exact K.step (ldcAgain Y cx.1 hZ hown w (hW.2 _ hm) (g := mkF m pc Ls st) rfl (hb cx.2.1 hd))
end StrOps
end Jvm.OwnKit
namespace Jvm.OwnKit
open Sem ClassFile Op Lib Jvm.Stand Jvm.Free Jvm.LawKit Jvm.RoadKit
section Bytes
abbrev lo (c : Int32) : Int32 := c.toInt8.toInt32
abbrev bys (cs : List Int32) : List Value := (cs.map fun c => c.toInt8.toInt32).map Value.int
theorem i0 : (0 : Int32).toInt = 0 := by decide
theorem i255 : (255 : Int32).toInt = 255 := by decide
theorem lo_mask {c : Int32} (h : ¬ c < 0 ∧ ¬ (255 : Int32) < c) : lo c &&& 255 = c := by
  obtain ⟨h1, h2⟩ := h
  rw [Int32.lt_iff_toInt_lt, i0] at h1
  rw [Int32.lt_iff_toInt_lt, i255] at h2
  have q := c_i2b c
  have r := c_mask (lo c) 255 8 (by decide) (by decide)
  apply Int32.toInt_inj.mp
  rw [r]
  have e : ((2 ^ 8 : Nat) : Int) = 256 := by decide
  rw [e]; simp only [lo]; omega
theorem lo_inj {c d : Int32} (h : ¬ c < 0 ∧ ¬ (255 : Int32) < c) (h' : ¬ d < 0 ∧ ¬ (255 : Int32) < d) (e : lo c = lo d) : c = d := by rw [← lo_mask h, ← lo_mask h', e]
theorem of_toInt {n : Nat} (h : n ≤ 4000) : (Int32.ofNat n).toInt = n := by rw [Int32.toInt_ofNat_of_lt]; omega
theorem of_nat {n : Nat} (h : n ≤ 4000) : (Int32.ofNat n).toNatClampNeg = n := by simp [Int32.toNatClampNeg, of_toInt h]
theorem of_nn {n : Nat} (h : n ≤ 4000) : ¬ Int32.ofNat n < 0 := by rw [Int32.lt_iff_toInt_lt, of_toInt h, i0]; omega
theorem of_lt {i n : Nat} (h : i < n) (hn : n ≤ 4000) : Int32.ofNat i < Int32.ofNat n := by rw [Int32.lt_iff_toInt_lt, of_toInt hn, of_toInt (by omega)]; omega
theorem of_le {i n : Nat} (h : n ≤ i) (hn : i ≤ 4000) : ¬ Int32.ofNat i < Int32.ofNat n := by rw [Int32.lt_iff_toInt_lt, of_toInt hn, of_toInt (by omega)]; omega
theorem of_succ (i : Nat) : Int32.ofNat i + 1 = Int32.ofNat (i + 1) := by simp [Int32.ofNat_add]
theorem of_eq {i n : Nat} (hi : i ≤ 4000) (hn : n ≤ 4000) (e : Int32.ofNat i = Int32.ofNat n) : i = n := by
  have := congrArg Int32.toInt e; rw [of_toInt hi, of_toInt hn] at this; omega
theorem bys_at (cs : List Int32) (i : Nat) (h : i ≤ 4000) : (bys cs).getD (Int32.ofNat i).toNatClampNeg (.int 0) = .int (lo (cs.getD i 0)) := by
  rw [of_nat h]
  by_cases q : i < cs.length
  · simp [List.getD, q]
  · have e : cs.getD i 0 = 0 := by simp [List.getD, q]
    rw [e]
    simp [List.getD, q]
    decide
theorem shr0 (x : Int32) : x >>> ((0 : Int32) &&& 31) = x := by
  apply Int32.toInt_inj.mp
  rw [c_ishr x 0 0 (by decide)]
  simp
theorem take_eq {cs ds : List Int32} (hl : cs.length = ds.length) (h : cs.take cs.length = ds.take cs.length) : cs = ds := by
  rw [List.take_length] at h; rw [hl, List.take_length] at h; exact h
theorem take_more {cs ds : List Int32} {i : Nat} (hi : i < cs.length) (hj : i < ds.length) (h : cs.take i = ds.take i) (e : cs.getD i 0 = ds.getD i 0) : cs.take (i + 1) = ds.take (i + 1) := by
  simp only [List.getD, List.getElem?_eq_getElem hi, List.getElem?_eq_getElem hj, Option.getD_some] at e
  rw [List.take_succ_eq_append_getElem hi, List.take_succ_eq_append_getElem hj, h, e]
theorem mem_at {cs : List Int32} {i : Nat} (hi : i < cs.length) : cs.getD i 0 ∈ cs := by
  simp [List.getD, List.getElem?_eq_getElem hi]
theorem str_inj {Z : State} {h : Heap} {us us' : List Addr} {a b : Addr} {cs ds : List Int32} (F : Str Z h us a cs) (G : Str Z h us' b ds) (q : a = b) : cs = ds := by
  subst q
  obtain ⟨t, kb, -, -, f3, f4, f5, f6, -⟩ := F
  obtain ⟨u, kb', -, -, g3, g4, g5, g6, -⟩ := G
  have e : t = u := Classical.byContradiction fun n => (Fld.ne f3 g3 (fun r => n (Value.ref.inj r))) rfl
  subst e
  have hl : cs.length = ds.length := Classical.byContradiction fun n => (arv_ne f4 g4 (Or.inl (by rw [of_nat f6, of_nat g6]; exact n))) rfl
  refine List.ext_getElem hl fun i hi hj => ?_
  have e2 : (bys cs).getD i (.int 0) = (bys ds).getD i (.int 0) := Classical.byContradiction fun n => (arv_ne f4 g4 (Or.inr ⟨i, by rw [of_nat f6]; exact hi, n⟩)) rfl
  simp [List.getD, hi, hj] at e2
  exact lo_inj (f5 _ (List.getElem_mem hi)) (g5 _ (List.getElem_mem hj)) e2
end Bytes
end Jvm.OwnKit
namespace Jvm.OwnKit
open Sem ClassFile Op Lib Jvm.Stand Jvm.Free Jvm.LawKit Jvm.RoadKit
section SbFacts
def padB (cap : Nat) (cs : List Int32) : List Value := bys cs ++ List.replicate (cap - cs.length) (.int (0 : Int32))
theorem padB_len {cap : Nat} {cs : List Int32} (h : cs.length ≤ cap) : (padB cap cs).length = cap := by
  unfold padB
  rw [List.length_append, List.length_map, List.length_map, List.length_replicate]; omega
theorem of_add (n m : Nat) : Int32.ofNat n + Int32.ofNat m = Int32.ofNat (n + m) := by simp [Int32.ofNat_add]
theorem of_sub {n m : Nat} (h : m ≤ n) (hn : n ≤ 4000) : Int32.ofNat n - Int32.ofNat m = Int32.ofNat (n - m) := by
  apply Int32.toInt_inj.mp
  have q := c_isub (Int32.ofNat n) (Int32.ofNat m)
  have l1 := Int32.toInt_lt (Int32.ofNat n - Int32.ofNat m)
  have l2 := Int32.le_toInt (Int32.ofNat n - Int32.ofNat m)
  rw [of_toInt hn, of_toInt (by omega)] at q
  rw [of_toInt (by omega)]
  omega
theorem sub_le {k cap : Nat} (h : k ≤ cap) (hc : cap ≤ 4000) : ¬ (0 : Int32) < Int32.ofNat k - Int32.ofNat cap := by
  have q := c_isub (Int32.ofNat k) (Int32.ofNat cap)
  have l1 := Int32.toInt_lt (Int32.ofNat k - Int32.ofNat cap)
  have l2 := Int32.le_toInt (Int32.ofNat k - Int32.ofNat cap)
  rw [of_toInt hc, of_toInt (by omega)] at q
  rw [Int32.lt_iff_toInt_lt, i0]
  omega
theorem sub_gt {k cap : Nat} (h : cap < k) (hc : k ≤ 4000) : (0 : Int32) < Int32.ofNat k - Int32.ofNat cap := by
  rw [of_sub (by omega) hc, Int32.lt_iff_toInt_lt, i0, of_toInt (by omega)]; omega
theorem shl0 (x : Int32) : x <<< ((0 : Int32) &&& 31) = x := by
  apply Int32.toInt_inj.mp
  have q := c_ishl x 0 0 (by decide)
  have l1 := Int32.toInt_lt (x <<< ((0 : Int32) &&& 31))
  have l2 := Int32.le_toInt (x <<< ((0 : Int32) &&& 31))
  have l3 := Int32.toInt_lt x
  have l4 := Int32.le_toInt x
  have e : ((2 ^ 0 : Nat) : Int) = 1 := by decide
  rw [e] at q
  omega
theorem clamp0 : (0 : Int32).toNatClampNeg = 0 := by decide
theorem range_get (l l' : List Value) (d : Value) : (List.range l.length).map (fun i => (l ++ l').getD (0 + i) d) = l := by
  refine List.ext_getElem (by simp) fun i h1 h2 => ?_
  rw [List.getElem_map, List.getElem_range]
  simp only [Nat.zero_add, List.getD, List.getElem?_append_left h2, List.getElem?_eq_getElem h2, Option.getD_some]
theorem bys_len (cs : List Int32) : (bys cs).length = cs.length := by rw [List.length_map, List.length_map]
theorem bys_app (cs ds : List Int32) : bys (cs ++ ds) = bys cs ++ bys ds := by simp [bys]
theorem pad_put {cap : Nat} {cs ds : List Int32} (h : cs.length + ds.length ≤ cap) (hc : cap ≤ 4000) :
    (padB cap cs).take (Int32.ofNat cs.length).toNatClampNeg ++ ((List.range (Int32.ofNat ds.length).toNatClampNeg).map fun i => (bys ds).getD ((0 : Int32).toNatClampNeg + i) (.int (0 : Int32))) ++ (padB cap cs).drop ((Int32.ofNat cs.length).toNatClampNeg + (Int32.ofNat ds.length).toNatClampNeg) = padB cap (cs ++ ds) := by
  rw [of_nat (by omega), of_nat (by omega), clamp0]
  have r : (List.range ds.length).map (fun i => (bys ds).getD (0 + i) (.int (0 : Int32))) = bys ds := by
    have q := range_get (bys ds) [] (.int (0 : Int32))
    rw [List.append_nil, bys_len] at q
    exact q
  have t : (padB cap cs).take cs.length = bys cs := List.take_left' (bys_len cs)
  have d : (padB cap cs).drop (cs.length + ds.length) = List.replicate (cap - (cs ++ ds).length) (.int (0 : Int32)) := by
    unfold padB
    rw [List.drop_append, List.drop_eq_nil_of_le (by rw [bys_len]; omega), List.nil_append, List.drop_replicate, bys_len, List.length_append]
    congr 1
    omega
  rw [r, t, d, ← bys_app]; rfl
theorem pad_get {cap : Nat} {cs : List Int32} (h : cs.length ≤ cap) (hc : cap ≤ 4000) (n0 : Nat) (hn : n0 = cs.length) :
    (List.replicate n0 (Value.int (0 : Int32))).take (0 : Int32).toNatClampNeg ++ ((List.range (Int32.ofNat cs.length).toNatClampNeg).map fun i => (padB cap cs).getD ((0 : Int32).toNatClampNeg + i) (.int (0 : Int32))) ++ (List.replicate n0 (Value.int (0 : Int32))).drop ((0 : Int32).toNatClampNeg + (Int32.ofNat cs.length).toNatClampNeg) = bys cs := by
  subst hn
  rw [of_nat (by omega), clamp0]
  have r : (List.range cs.length).map (fun i => (padB cap cs).getD (0 + i) (.int (0 : Int32))) = bys cs := by
    have q := range_get (bys cs) (List.replicate (cap - cs.length) (.int (0 : Int32))) (.int (0 : Int32))
    rw [bys_len] at q
    exact q
  rw [r, List.take_zero, List.nil_append, List.drop_eq_nil_of_le (by rw [List.length_replicate]; omega), List.append_nil]
theorem of_big {n : Nat} {M : Int32} (h : n ≤ 4000) (hM : 4000 ≤ M.toInt) : ¬ M < Int32.ofNat n := by
  rw [Int32.lt_iff_toInt_lt, of_toInt h]; omega
theorem of_ne {n : Nat} {M : Int32} (h : n ≤ 4000) (hM : 4000 < M.toInt) : ¬ Int32.ofNat n = M := fun q => by
  have e := congrArg Int32.toInt q
  rw [of_toInt h] at e; omega
theorem pad_grow {cap cp : Nat} {cs : List Int32} (h : cs.length ≤ cap) (hc : cap ≤ cp) (hp : cp ≤ 4000) :
    (List.replicate cp (Value.int (0 : Int32))).take (0 : Int32).toNatClampNeg ++ ((List.range (Int32.ofNat cap).toNatClampNeg).map fun i => (padB cap cs).getD ((0 : Int32).toNatClampNeg + i) (.int (0 : Int32))) ++ (List.replicate cp (Value.int (0 : Int32))).drop ((0 : Int32).toNatClampNeg + (Int32.ofNat cap).toNatClampNeg) = padB cp cs := by
  rw [of_nat (by omega), clamp0]
  have r : (List.range cap).map (fun i => (padB cap cs).getD (0 + i) (.int (0 : Int32))) = padB cap cs := by
    have q := range_get (padB cap cs) [] (.int (0 : Int32))
    rw [List.append_nil, padB_len h] at q
    exact q
  rw [r, List.take_zero, List.nil_append, Nat.zero_add, List.drop_replicate]
  unfold padB
  rw [List.append_assoc, List.replicate_append_replicate]
  congr 2
  omega
/-- a StringBuilder of the signs cs (each 0 to 255), its array of cap bytes -/
def Sb (Z : State) (h : Heap) (a b : Addr) (kb : ClassId) (cap : Nat) (cs : List Int32) : Prop :=
  Exa Z h a "java/lang/StringBuilder" ∧ Fld Z h a "java/lang/AbstractStringBuilder" "coder" "B" (.int (0 : Int32)) ∧ Fld Z h a "java/lang/AbstractStringBuilder" "count" "I" (.int (Int32.ofNat cs.length)) ∧ Fld Z h a "java/lang/AbstractStringBuilder" "value" "[B" (.ref b) ∧
    Arv Z h b kb .byte (Int32.ofNat cap) (padB cap cs) (.int (0 : Int32)) ∧ (∀ c ∈ cs, ¬ c < 0 ∧ ¬ (255 : Int32) < c) ∧ cs.length ≤ cap ∧ cap ≤ 4000 ∧ a ≠ b
variable {Z : State} {h h' h0 : Heap} {us ws : List Addr} {a b : Addr} {kb : ClassId} {cap : Nat} {cs ds : List Int32}
theorem Sb.ext (F : Sb Z h a b kb cap cs) (E : Ext h h') : Sb Z h' a b kb cap cs := by
  obtain ⟨h1, h2, h3, h4, h5, r⟩ := F
  exact ⟨h1.ext E, h2.ext E, h3.ext E, h4.ext E, h5.ext E, r⟩
theorem Sb.keep (F : Sb Z h a b kb cap cs) (K : Keep h h' ws) (qa : a ∉ ws) (qb : b ∉ ws) : Sb Z h' a b kb cap cs := by
  obtain ⟨h1, h2, h3, h4, h5, r⟩ := F
  exact ⟨h1.keep K, h2.keep K qa, h3.keep K qa, h4.keep K qa, h5.keep K qb, r⟩
theorem Sb.lt (F : Sb Z h a b kb cap cs) : a < h.size := F.1.lt
theorem Sb.arv (F : Sb Z h a b kb cap cs) : Arv Z h b kb .byte (Int32.ofNat cap) (padB cap cs) (.int (0 : Int32)) := F.2.2.2.2.1
theorem ok_app (h1 : ∀ c ∈ cs, ¬ c < 0 ∧ ¬ (255 : Int32) < c) (h2 : ∀ c ∈ ds, ¬ c < 0 ∧ ¬ (255 : Int32) < c) : ∀ c ∈ cs ++ ds, ¬ c < 0 ∧ ¬ (255 : Int32) < c := fun c hc => (List.mem_append.mp hc).elim (h1 c) (h2 c)
theorem Str.growK (F : Str Z h us a cs) (K : Keep h h' ws) (q : ∀ x ∈ ws, x ∈ us) (hb : h.size ≤ b) : Str Z h' (b :: us) a cs := by
  have G := F.keep K q
  obtain ⟨t, kb, h1, h2, h3, h4, h5, h6, h7⟩ := F
  obtain ⟨t', kb', g1, g2, g3, g4, g5, g6, g7⟩ := G
  have e : t' = t := by
    have na : a ∉ ws := fun r => (h7 a (q a r)).1 rfl
    have g3' := h3.keep K na
    exact Classical.byContradiction fun n => (Fld.ne g3 g3' (fun r => n (Value.ref.inj r))) rfl
  subst e
  refine ⟨t', kb', g1, g2, g3, g4, g5, g6, fun x hx => ?_⟩
  rcases List.mem_cons.mp hx with rfl | hx
  · exact ⟨Nat.ne_of_gt (Nat.lt_of_lt_of_le h1.lt hb), Nat.ne_of_gt (Nat.lt_of_lt_of_le h4.lt hb)⟩
  · exact g7 x hx
theorem StrN.mono {h1 : Heap} (F : StrN Z h0 h a cs) (q : h1.size ≤ h0.size) : StrN Z h1 h a cs := by
  obtain ⟨t, kb, e1, e2, e3, e4, e5, e6, e7, e8⟩ := F
  exact ⟨t, kb, e1, e2, e3, e4, e5, e6, Nat.le_trans q e7, Nat.le_trans q e8⟩
theorem strN_of {h1 : Heap} (q : ∃ (t : Addr) (kb : ClassId), Exa Z h' a "java/lang/String" ∧ Fld Z h' a "java/lang/String" "coder" "B" (.int (0 : Int32)) ∧ Fld Z h' a "java/lang/String" "value" "[B" (.ref t) ∧ Arv Z h' t kb .byte (Int32.ofNat cs.length) (bys cs) (.int (0 : Int32)) ∧ (∀ c ∈ cs, ¬ c < 0 ∧ ¬ (255 : Int32) < c) ∧ cs.length ≤ 4000 ∧ h1.size ≤ t)
    (l1 : h0.size ≤ a) (l2 : h0.size ≤ h1.size) : StrN Z h0 h' a cs := by
  obtain ⟨t, kb, e1, e2, e3, e4, e5, e6, e7⟩ := q
  exact ⟨t, kb, e1, e2, e3, e4, e5, e6, l1, Nat.le_trans l2 e7⟩
end SbFacts
end Jvm.OwnKit
namespace Jvm.OwnKit
open Sem ClassFile Op Lib Jvm.Stand Jvm.Free Jvm.LawKit Jvm.RoadKit Bundle
section UpOps
variable {p : Program} {l : Launch} {e : Env} {R : Room} {s : State} {m : MethodId} {args : Array Value} {below : List Frame} {meth : Method} {c : Code}
  {own : String} {bytes : ByteArray} {maxL : Nat} {ret : Option FieldType} {nm : String} {Z : State} {EL : List (String × Nat)} {nw : Bool} {us : List Addr} {bs : List (String × Nat × Addr)}
  {T : State} {h : Heap} {cells slots : Nat} {Q : Option Value → Heap → Prop} {kk nn : Nat} {a0 : Array Value} {pc : Nat} {Ls : Array Slot} {st : List Value}

/-- an instance method with code is declared -/
theorem own_declares {y : MethodName} {cb : ByteArray} {cm : Nat} {cr : Option FieldType} (wi : (Jvm.Cond.instanceMethod y).before a0 Z = true) (wc : (Jvm.Cond.code y cb cm cr).before a0 Z = true) : (Jvm.Cond.declares y).before a0 Z = true := by
  obtain ⟨mk, methM, hnamed, hmethM, hst, -⟩ := Jvm.Cond.instanceMethod_spec wi
  obtain ⟨m2, cM, q1, -, -, -, -, -, -, hsig⟩ := Jvm.Cond.code_spec hnamed wc
  cases hmethM.symm.trans q1
  simp [Jvm.Cond.before, Jvm.Cond.holds, Jvm.Cond.value, hnamed, hmethM, hst, hsig]
/-- a class that declares a method itself finds it; it is no interface, since a call lands in it -/
theorem own_same {C : String} {y z : MethodName} (wi : (Jvm.Cond.instanceMethod y).before a0 Z = true) (ws : (Jvm.Cond.selects C z z).before a0 Z = true) (hz : z.cls = y.cls) (hy : y.cls ≠ "java/lang/invoke/MethodHandle" ∧ y.cls ≠ "java/lang/invoke/VarHandle") : (Jvm.Cond.sameMethod y.cls y.cls y.name y.desc).before a0 Z = true := by
  obtain ⟨mk, methM, hnamed, -⟩ := Jvm.Cond.instanceMethod_spec wi
  obtain ⟨c2, r2, m2, -, -, q3, -, kP, hkP, hkPi⟩ := Jvm.Cond.selects_spec ws
  have h1 := findClass_of_methodNamed q3
  have h2 := findClass_of_methodNamed hnamed
  rw [hz] at h1
  have e : m2.cls = mk.cls := Option.some.inj (h1.symm.trans h2)
  rw [e] at hkP
  have hf := State.methodFound?_of_named hnamed hy
  have hn' : Z.methodNamed? ⟨y.cls, y.name, y.desc⟩ = some mk := hnamed
  simp [Jvm.Cond.before, Jvm.Cond.holds, Jvm.Cond.value, h2, hf, hnamed, hn', hkP, hkPi]
theorem nfOf {C : String} {y z : MethodName} (ws : (Jvm.Cond.selects C z z).before a0 Z = true) (hz : z.cls = y.cls) : ∀ s' : State, Z.Warmed39 s'.vm → NotFace s' y := fun s' hZ r0 h0 => by
  obtain ⟨c2, r2, m2, -, -, q3, -, kP, hkP, hkPi⟩ := Jvm.Cond.selects_spec (mvT (s := s') (args := #[]) hZ ws)
  have h1 := findClass_of_methodNamed q3
  have h2 := findClass_of_methodNamed h0
  rw [hz] at h1
  have e : m2.cls = r0.cls := Option.some.inj (h1.symm.trans h2)
  exact ⟨kP, e ▸ hkP, hkPi⟩
/-- 'invokespecial' of a superclass's method (super.m(..)) by a contract -/
theorem g_callU (X : St p l e R s m args below meth c own bytes maxL ret nm Z EL nw us bs T h cells slots) {C : String} {y : MethodName} {cb : ByteArray} {cm : Nat} {cr : Option FieldType} {rm : Room} {as' : Array Value} {us' : List Addr} {Qc : Option Value → Heap → Prop} {ix : Nat} (hy1 : y.name ≠ "<init>")
    (w1 : (Jvm.Cond.methodLink own ix y).before a0 Z = true) (w2 : (Jvm.Cond.sameMethod y.cls y.cls y.name y.desc).before a0 Z = true) (w3 : (Jvm.Cond.instanceMethod y).before a0 Z = true) (w4 : (Jvm.Cond.superclass own y.cls).before a0 Z = true) (w5 : (Jvm.Cond.initialized y.cls).before a0 Z = true) (w6 : (Jvm.Cond.code y cb cm cr).before a0 Z = true)
    {a : Addr} (Ex : Exa Z h a C) (hM : Ctr l Z EL nw y cb cm cr rm as' h us' Qc) (hus : ∀ x ∈ us', x ∈ us)
    {argsL rest : List Value} {ps : List FieldType} {rt : Option FieldType} (hpd : parseMethodDescriptor y.desc = some ⟨ps, rt⟩) (hlen : argsL.length = ps.length) (has : (.ref a :: argsL).toArray = as') (hst : st = argsL.reverse ++ .ref a :: rest) (hsize : Ls.size = maxL)
    (W : Nat) (hW : (rest.map fun v => v.category).sum ≤ W) (hf : rm.frames + 1 ≤ R.frames) (hl : W + (cm + 11) + rm.locals ≤ R.locals) {ck cs : Nat} (hck : cells + rm.cells = ck) (hcs : slots + rm.slots = cs) (hc : ck ≤ R.cells) (hs : cs ≤ R.slots)
    (hd : decode bytes pc = .ok (.invokespecial ix, 3)) (pc' : Nat) (hp : pc + 3 = pc')
    (K : ∀ v T' h', St p l e R s m args below meth c own bytes maxL ret nm Z EL nw us bs T' h' ck cs → Qc v h' → Goes p e below s Z EL nw Q kk nn (T'.setTop (mkF m pc' Ls (v.toList ++ rest)))) : Goes p e below s Z EL nw Q kk nn (T.setTop (mkF m pc Ls st)) := by
  subst hp hck hcs
  obtain ⟨cx, vm0, locs, Y, N, eT, hS, hZ, hown, hE, hC, hU, hWn⟩ := X
  obtain ⟨a1, hEL⟩ := cx.2.2.2.2.2.2
  obtain ⟨v, vm₁, B, -, Y', h2, hg, ⟨L, q1, q2, q3, q4, q5, q6, q7, q8⟩, stp⟩ := superBackS (s := s.setVm vm0) Y cx.1 hZ (own := own) (index := ix) (y := y) hown w1 w2 w3 w4 hy1
    (backC (W := W) hM hZ w6 w5 hf hl hEL hE hC.1 fun x hx => hU x (hus x hx)) eT (Ins.self Ex) (g := mkF m pc Ls st) rfl (by rw [cx.2.2.1]; exact hsize) w6 (argsL := argsL) (rest := rest) (lenOf hpd hlen) hst (by show 2 * 0 + _ ≤ _; omega) (hb cx.2.1 hd)
    (fun _ _ => ⟨has, eT, hc, hs⟩)
  exact (K v B.U B.U.heap (St.back cx N hS hZ hown hC hU hWn Y' h2 (by rw [← eT]; exact hg) q2 q3 q4 q5 q6 q7 q8) q1).step fun t k => stp.trans k
theorem g_callUp (X : St p l e R s m args below meth c own bytes maxL ret nm Z EL nw us bs T h cells slots) {C : String} {y : MethodName} {cb : ByteArray} {cm : Nat} {cr : Option FieldType} {rm : Room} {as' : Array Value} {us' : List Addr} {Qv : Value → Prop} {ix : Nat} (hy1 : y.name ≠ "<init>")
    (w1 : (Jvm.Cond.methodLink own ix y).before a0 Z = true) (w2 : (Jvm.Cond.sameMethod y.cls y.cls y.name y.desc).before a0 Z = true) (w3 : (Jvm.Cond.instanceMethod y).before a0 Z = true) (w4 : (Jvm.Cond.superclass own y.cls).before a0 Z = true) (w5 : (Jvm.Cond.initialized y.cls).before a0 Z = true) (w6 : (Jvm.Cond.code y cb cm cr).before a0 Z = true)
    {a : Addr} (Ex : Exa Z h a C) (hM : Ctr l Z EL nw y cb cm cr rm as' h us' (PureQ h Qv)) (hus : ∀ x ∈ us', x ∈ us)
    {argsL rest : List Value} {ps : List FieldType} {rt : Option FieldType} (hpd : parseMethodDescriptor y.desc = some ⟨ps, rt⟩) (hlen : argsL.length = ps.length) (has : (.ref a :: argsL).toArray = as') (hst : st = argsL.reverse ++ .ref a :: rest) (hsize : Ls.size = maxL)
    (W : Nat) (hW : (rest.map fun v => v.category).sum ≤ W) (hf : rm.frames + 1 ≤ R.frames) (hl : W + (cm + 11) + rm.locals ≤ R.locals) {ck cs : Nat} (hck : cells + rm.cells = ck) (hcs : slots + rm.slots = cs) (hc : ck ≤ R.cells) (hs : cs ≤ R.slots)
    (hd : decode bytes pc = .ok (.invokespecial ix, 3)) (pc' : Nat) (hp : pc + 3 = pc')
    (K : ∀ w T', St p l e R s m args below meth c own bytes maxL ret nm Z EL nw us bs T' h ck cs → Qv w → Goes p e below s Z EL nw Q kk nn (T'.setTop (mkF m pc' Ls (w :: rest)))) : Goes p e below s Z EL nw Q kk nn (T.setTop (mkF m pc Ls st)) :=
  g_callU X hy1 w1 w2 w3 w4 w5 w6 Ex hM hus hpd hlen has hst hsize W hW hf hl hck hcs hc hs hd pc' hp (by
    intro v T' h' X' hq
    obtain ⟨rfl, w, rfl, hw⟩ := hq
    exact K w T' X' hw)
theorem g_callUv (X : St p l e R s m args below meth c own bytes maxL ret nm Z EL nw us bs T h cells slots) {C : String} {y : MethodName} {cb : ByteArray} {cm : Nat} {cr : Option FieldType} {rm : Room} {as' : Array Value} {us' : List Addr} {Qv : Value → Heap → Prop} {ix : Nat} (hy1 : y.name ≠ "<init>")
    (w1 : (Jvm.Cond.methodLink own ix y).before a0 Z = true) (w2 : (Jvm.Cond.sameMethod y.cls y.cls y.name y.desc).before a0 Z = true) (w3 : (Jvm.Cond.instanceMethod y).before a0 Z = true) (w4 : (Jvm.Cond.superclass own y.cls).before a0 Z = true) (w5 : (Jvm.Cond.initialized y.cls).before a0 Z = true) (w6 : (Jvm.Cond.code y cb cm cr).before a0 Z = true)
    {a : Addr} (Ex : Exa Z h a C) (hM : Ctr l Z EL nw y cb cm cr rm as' h us' (ValQ Qv)) (hus : ∀ x ∈ us', x ∈ us)
    {argsL rest : List Value} {ps : List FieldType} {rt : Option FieldType} (hpd : parseMethodDescriptor y.desc = some ⟨ps, rt⟩) (hlen : argsL.length = ps.length) (has : (.ref a :: argsL).toArray = as') (hst : st = argsL.reverse ++ .ref a :: rest) (hsize : Ls.size = maxL)
    (W : Nat) (hW : (rest.map fun v => v.category).sum ≤ W) (hf : rm.frames + 1 ≤ R.frames) (hl : W + (cm + 11) + rm.locals ≤ R.locals) {ck cs : Nat} (hck : cells + rm.cells = ck) (hcs : slots + rm.slots = cs) (hc : ck ≤ R.cells) (hs : cs ≤ R.slots)
    (hd : decode bytes pc = .ok (.invokespecial ix, 3)) (pc' : Nat) (hp : pc + 3 = pc')
    (K : ∀ w T' h', St p l e R s m args below meth c own bytes maxL ret nm Z EL nw us bs T' h' ck cs → Qv w h' → Goes p e below s Z EL nw Q kk nn (T'.setTop (mkF m pc' Ls (w :: rest)))) : Goes p e below s Z EL nw Q kk nn (T.setTop (mkF m pc Ls st)) :=
  g_callU X hy1 w1 w2 w3 w4 w5 w6 Ex hM hus hpd hlen has hst hsize W hW hf hl hck hcs hc hs hd pc' hp (by
    intro v T' h' X' hq
    obtain ⟨w, rfl, hw⟩ := hq
    exact K w T' h' X' hw)
/-- a byte array whose length no constant's text has is no constant's array -/
theorem safe_len {vm : Vm} {x : Addr} {k : ClassId} {z : Int32} {vs : List Value} {dv : Value} (hZ : Z.Warmed39 vm) (w : ∀ p ∈ EL, ∃ text : String, (Jvm.Cond.stringLink p.1 p.2 text).before a0 Z = true ∧ (∀ c ∈ text.toList, c.toNat < 256) ∧ text.toList.length ≠ z.toNatClampNeg) (A : Arv Z h x k .byte z vs dv) : Safe Z EL vm h x := fun B => by
  have hal : Z.vm.Alike vm := hZ.alike
  obtain ⟨cl, ⟨A1, ⟨_, kA, hkA, compA, hkindA⟩, _⟩, _, hsz, _⟩ := A
  obtain ⟨kA', hkA', ekA⟩ := hal.2.2 _ _ hkA
  obtain ⟨p, hp, u, a, hb, q, hq, F, hy⟩ := B
  obtain ⟨text, wl, ht, hl⟩ := w p hp
  rcases hy with rfl | rfl
  · cases (show h[q.sa]? = some q.sC from F.ha).symm.trans A1
    obtain ⟨cS, ⟨-, -, e⟩, ⟨kS, g1, g2, -⟩, -⟩ := F
    subst e
    cases (show vm.classes[q.sC.cls]? = some kS from g1).symm.trans hkA'
    rw [ekA] at g2
    have := hkindA.symm.trans g2
    cases this
  · cases (show h[q.sd]? = some q.SA from F.hd).symm.trans A1
    obtain ⟨c, k', cf, i, hc', hk', hcf', hpool, hu, -⟩ := hb
    have wl' : (Jvm.Cond.stringLink p.1 p.2 text).before a0 (Wst Z vm h) = true := mvS (s := { Z with heap := h }) hZ wl
    obtain ⟨k2, cf0, i0, units0, hk, hcf, hp0, hu0, hnm, htext, -⟩ := Jvm.Cond.stringLink_spec (s := Wst Z vm h) hc' wl'
    cases hk'.symm.trans hk
    cases hcf'.symm.trans hcf
    cases hpool.symm.trans hp0
    cases hu.symm.trans hu0
    obtain ⟨cS, -, -, -, hbyt⟩ := F
    have hs2 : q.SA.slots.size = u.size := by rw [hbyt, Jvm.Free.SBG.stringBytes_lat (Jvm.ClassFile.lat_of_text htext ht), Array.size_map]
    have e2 : u.toList.length = text.toList.length := by rw [Jvm.ClassFile.units_of_text htext ht, List.length_map]
    rw [Array.length_toList] at e2
    exact hl (by rw [← e2, ← hs2]; exact hsz)
/-- an array that a callee has made may be written from now on -/
theorem St.add (X : St p l e R s m args below meth c own bytes maxL ret nm Z EL nw us bs T h cells slots) {b : Addr} {k : ClassId} {z : Int32} {vs : List Value} {dv : Value} (w : ∀ p ∈ EL, ∃ text : String, (Jvm.Cond.stringLink p.1 p.2 text).before a0 Z = true ∧ (∀ c ∈ text.toList, c.toNat < 256) ∧ text.toList.length ≠ z.toNatClampNeg) (A : Arv Z h b k .byte z vs dv) (hb' : Z.heap.size ≤ b) :
    St p l e R s m args below meth c own bytes maxL ret nm Z EL nw (b :: us) bs T h cells slots := by
  obtain ⟨cx, vm0, locs, Y, N, eT, hS, hZ, hown, hE, hC, hU, hWn⟩ := X
  refine ⟨cx, vm0, locs, Y, N, eT, hS, hZ, hown, hE, hC, ?_, hWn⟩
  intro x hx
  rcases List.mem_cons.mp hx with rfl | hx
  · exact ⟨hb', A.lt, safe_len hZ w A⟩
  · exact hU x hx
/-- an object of a class that is neither String nor byte[] may be written from now on -/
theorem St.addO (X : St p l e R s m args below meth c own bytes maxL ret nm Z EL nw us bs T h cells slots) {b : Addr} {C : String} (E : Exa Z h b C) (h1 : C ≠ "java/lang/String") (h2 : C ≠ "[B") (hb' : Z.heap.size ≤ b) :
    St p l e R s m args below meth c own bytes maxL ret nm Z EL nw (b :: us) bs T h cells slots := by
  obtain ⟨cx, vm0, locs, Y, N, eT, hS, hZ, hown, hE, hC, hU, hWn⟩ := X
  refine ⟨cx, vm0, locs, Y, N, eT, hS, hZ, hown, hE, hC, ?_, hWn⟩
  intro x hx
  rcases List.mem_cons.mp hx with rfl | hx
  · exact ⟨hb', E.lt, Safe.exa hZ.alike E h1 h2⟩
  · exact hU x hx
end UpOps
end Jvm.OwnKit
namespace Jvm.OwnKit
open Sem ClassFile Op Lib Jvm.Stand Jvm.Free Jvm.LawKit Jvm.RoadKit Bundle
section DigTab
/-- one of Integer's two tables of digits, at the start -/
theorem own_tab {a : Array Value} {s : State} {t rhs : Term} {F : Nat → Nat} (hst : ∀ idx, t.eval a s none idx s = t.eval a s none [] s) (hx : (Jvm.Cond.exactly t "[B").before a s = true) (hl : (Jvm.Cond.eq (.length t) (.int 100)).before a s = true)
    (hw : (Jvm.Cond.all t (.eq (.elem t (.index 0)) rhs)).before a s = true) (harr : (Jvm.Cond.arrayClass .byte).before a s = true) (hrhs : ∀ r, r < 100 → rhs.eval a s none [r] s = some (.int (Int32.ofNat (F r)))) (hF : ∀ r, r < 100 → F r < 128) :
    ∃ (d : Addr) (k : ClassId), t.eval a s none [] s = some (.ref d) ∧ Arv s s.heap d k .byte (100 : Int32) ((List.range 100).map fun r => Value.int (Int32.ofNat (F r))) (.int (0 : Int32)) := by
  obtain ⟨d, cB, D, kB, hev, hfcB, hcellD, hkB, hstatD, hclsD, -⟩ := Jvm.Cond.exactly_spec hx
  have hevAll : ∀ idx, t.eval a s none idx s = some (.ref d) := fun idx => (hst idx).trans hev
  have hl' := Jvm.Cond.eq_int hl rfl
  obtain ⟨d', D', hev', harrAt, hlen⟩ := Term.length_spec hl'
  cases hev.symm.trans hev'
  obtain ⟨hcellD', hknD, -, -⟩ := State.arrayAt?_spec harrAt
  cases hcellD.symm.trans hcellD'
  have h31 := Jvm.Free.SBG.length_lt hev harrAt hl'
  have hsz : D.slots.size = 100 := by
    have e : (Term.length t).eval a s none [] s = some (.int (Int32.ofNat D.slots.size)) := by simp [Term.eval, hev, harrAt, h31]
    have := Option.some.inj (e.symm.trans hl')
    have h2 : Int32.ofNat D.slots.size = Int32.ofNat 100 := by simpa using this
    have := congrArg Int32.toInt h2
    rw [Int32.toInt_ofNat_small h31, Int32.toInt_ofNat_small (by omega)] at this; omega
  obtain ⟨cB', kB', comp, hnameB, hkB', hkindB⟩ := Jvm.Cond.arrayClass_spec harr
  have eBA : ("[" ++ FieldType.toString .byte) = "[B" := by decide
  rw [eBA] at hnameB
  cases hfcB.symm.trans hnameB
  cases hkB.symm.trans hkB'
  have hel : ∀ r, r < 100 → D.slots[r]? = some (.int (Int32.ofNat (F r))) := fun r hr => by
    have h := Jvm.Cond.all_elim (hevAll []) harrAt (Jvm.Free.AList.val_of_holds hw) r (by omega)
    have eL : (Term.elem t (.index 0)).eval a s none [r] s = D.slots[r]? := Jvm.Free.SBG.elem_at (ix := .index 0) (hevAll [r]) harrAt (by omega) (by omega) rfl
    have h' : (Jvm.Cond.eq (.elem t (.index 0)) rhs).holds a s none s [r] = true := by simp [Jvm.Cond.holds, h]
    exact eL.symm.trans (Jvm.Cond.eq_int h' (hrhs r hr))
  have hget : ∀ i, i < 100 → ((List.range 100).map fun r => Value.int (Int32.ofNat (F r))).getD i (.int (0 : Int32)) = .int (Int32.ofNat (F i)) := fun i hi => by
    simp [List.getD, hi]
  refine ⟨d, D.cls, hev, D, ⟨hcellD, ⟨(fun q h => by rw [h] at hstatD; cases hstatD), kB, (by rw [hclsD]; exact hkB), comp, hkindB⟩, hknD⟩, rfl, by rw [hsz]; decide, by decide, fun i hi => ?_, fun i hi => ?_⟩
  · rw [hget i (by omega)]; exact hel i (by omega)
  · rw [hget i (by omega)]
    have q := Jvm.Free.SBG.fits_of_int8 (Int32.ofNat (F i)).toInt8
    rw [Jvm.Free.SBG.dgNarrow (F i) (hF i (by omega))] at q
    exact q
abbrev onesT : List Value := (List.range 100).map fun r => Value.int (Int32.ofNat (48 + r % 10))
abbrev tensT : List Value := (List.range 100).map fun r => Value.int (Int32.ofNat (48 + r / 10))
theorem tab_at (F : Nat → Nat) {r : Nat} (h : r < 100) : ((List.range 100).map fun r => Value.int (Int32.ofNat (F r))).getD (Int32.ofNat r).toNatClampNeg (.int (0 : Int32)) = .int (Int32.ofNat (F r)) := by
  rw [of_nat (by omega)]
  simp [List.getD, h]
theorem n_div10 : ∀ k, k < 1000 → Int32.ofNat k / (10 : Int32) = Int32.ofNat (k / 10) := by decide +kernel
theorem n_div100 : ∀ k, k < 1000 → Int32.ofNat k / (100 : Int32) = Int32.ofNat (k / 100) := by decide +kernel
theorem n_rem10 : ∀ k, k < 1000 → Int32.ofNat k % (10 : Int32) = Int32.ofNat (k % 10) := by decide +kernel
theorem n_ndiv : ∀ k, k < 1000 → (-(Int32.ofNat k)) / (100 : Int32) = -(Int32.ofNat (k / 100)) := by decide +kernel
theorem n_q : ∀ k, k < 1000 → (-(Int32.ofNat (k / 100))) * (100 : Int32) - (-(Int32.ofNat k)) = Int32.ofNat (k % 100) := by decide +kernel
theorem n_ng {k : Nat} (h : k ≤ 4000) : (-(Int32.ofNat k)).toInt = -(k : Int) := by
  have q := c_ineg (Int32.ofNat k)
  have l1 := Int32.toInt_lt (-(Int32.ofNat k))
  have l2 := Int32.le_toInt (-(Int32.ofNat k))
  rw [of_toInt h] at q
  omega
theorem n_gt {k : Nat} {M : Int32} {z : Int} (hk : k ≤ 4000) (hM : M.toInt = z) (h : z < -(k : Int)) : M < -(Int32.ofNat k) := by
  rw [Int32.lt_iff_toInt_lt, n_ng hk, hM]; exact h
theorem n_ngt {k : Nat} {M : Int32} {z : Int} (hk : k ≤ 4000) (hM : M.toInt = z) (h : ¬ z < -(k : Int)) : ¬ M < -(Int32.ofNat k) := by
  rw [Int32.lt_iff_toInt_lt, n_ng hk, hM]; exact h
theorem n_nlt {k : Nat} {M : Int32} {z : Int} (hk : k ≤ 4000) (hM : M.toInt = z) (h : ¬ -(k : Int) < z) : ¬ (-(Int32.ofNat k)) < M := by
  rw [Int32.lt_iff_toInt_lt, n_ng hk, hM]; exact h
theorem n_nlt' {k : Nat} {M : Int32} {z : Int} (hk : k ≤ 4000) (hM : M.toInt = z) (h : -(k : Int) < z) : (-(Int32.ofNat k)) < M := by
  rw [Int32.lt_iff_toInt_lt, n_ng hk, hM]; exact h
theorem n_i2c : ∀ d, d < 10 → ((48 : Int32) + Int32.ofNat d).toUInt32.toUInt16.toUInt32.toInt32 = Int32.ofNat (48 + d) := by decide +kernel
theorem n_nar (x : Nat) (h : x < 128) : nar .byte (Int32.ofNat x) = Int32.ofNat x := Jvm.Free.SBG.dgNarrow x h
theorem n_narc (x : Nat) (h : x < 128) : nar .char (Int32.ofNat x) = Int32.ofNat x := nar255 ⟨of_nn (by omega), by rw [Int32.lt_iff_toInt_lt, of_toInt (by omega), i255]; omega⟩
theorem n_ok (x : Nat) (h : x < 128) : ¬ Int32.ofNat x < 0 ∧ ¬ (255 : Int32) < Int32.ofNat x := ⟨of_nn (by omega), by rw [Int32.lt_iff_toInt_lt, of_toInt (by omega), i255]; omega⟩
theorem bys1 {x : Nat} (h : x < 128) : bys [Int32.ofNat x] = [.int (Int32.ofNat x)] := by
  show [Value.int (Int32.ofNat x).toInt8.toInt32] = _
  rw [Jvm.Free.SBG.dgNarrow x h]
theorem bys2 {x y : Nat} (h : x < 128) (h' : y < 128) : bys [Int32.ofNat x, Int32.ofNat y] = [.int (Int32.ofNat x), .int (Int32.ofNat y)] := by
  show [Value.int (Int32.ofNat x).toInt8.toInt32, Value.int (Int32.ofNat y).toInt8.toInt32] = _
  rw [Jvm.Free.SBG.dgNarrow x h, Jvm.Free.SBG.dgNarrow y h']
theorem bys3 {x y z : Nat} (h : x < 128) (h' : y < 128) (h'' : z < 128) : bys [Int32.ofNat x, Int32.ofNat y, Int32.ofNat z] = [.int (Int32.ofNat x), .int (Int32.ofNat y), .int (Int32.ofNat z)] := by
  show [Value.int (Int32.ofNat x).toInt8.toInt32, Value.int (Int32.ofNat y).toInt8.toInt32, Value.int (Int32.ofNat z).toInt8.toInt32] = _
  rw [Jvm.Free.SBG.dgNarrow x h, Jvm.Free.SBG.dgNarrow y h', Jvm.Free.SBG.dgNarrow z h'']
theorem rem_nat (x y : Int32) (n : Nat) (hn : 0 < n) (hn2 : n ≤ 4000) (hy : y.toInt = n) : ∃ k : Nat, k < n ∧ (x &&& (2147483647 : Int32)) % y = Int32.ofNat k := by
  have h := c_and x 2147483647 (by decide)
  have q := (c_irem (x &&& 2147483647) y n hy).1 h.1
  have e : (((x &&& 2147483647) % y).toInt.toNat : Int) = ((x &&& 2147483647) % y).toInt := Int.toNat_of_nonneg (by rw [q]; exact Int.emod_nonneg _ (by omega))
  have l : ((x &&& 2147483647) % y).toInt < n := by rw [q]; exact Int.emod_lt_of_pos _ (by omega)
  refine ⟨((x &&& 2147483647) % y).toInt.toNat, by omega, ?_⟩
  apply Int32.toInt_inj.mp
  rw [of_toInt (by omega)]; exact e.symm
end DigTab
section LdcW
variable {p : Program} {l : Launch} {e : Env} {R : Room} {s : State} {m : MethodId} {args : Array Value} {below : List Frame} {meth : Method} {c : Code}
  {own : String} {bytes : ByteArray} {maxL : Nat} {ret : Option FieldType} {nm : String} {Z : State} {EL : List (String × Nat)} {nw : Bool} {us : List Addr} {bs : List (String × Nat × Addr)}
  {T : State} {h : Heap} {cells slots : Nat} {Q : Option Value → Heap → Prop} {kk nn : Nat} {a0 : Array Value} {pc : Nat} {Ls : Array Slot} {st : List Value}

theorem g_ldcWI (X : St p l e R s m args below meth c own bytes maxL ret nm Z EL nw us bs T h cells slots) {ix : Nat} {v : Int32} (w : (Jvm.Cond.constant own ix v).before a0 Z = true) (hd : decode bytes pc = .ok (.ldc_w ix, 3)) (pc' : Nat) (hp : pc + 3 = pc')
    (K : Goes p e below s Z EL nw Q kk nn (T.setTop (mkF m pc' Ls (.int v :: st)))) : Goes p e below s Z EL nw Q kk nn (T.setTop (mkF m pc Ls st)) := by
  subst hp
  obtain ⟨cx, vm0, locs, Y, N, eT, hS, hZ, hown, r⟩ := X
  exact K.step fun t k => Y.ldcWI cx.1 hown (mv (s := s.setVm vm0) hZ w) rfl (hb cx.2.1 hd) k
end LdcW
end Jvm.OwnKit
namespace Jvm.Pilot.@@N@@
open Jvm Jvm.ClassFile Sem Op Lib Jvm.Free Jvm.Stand Jvm.LawKit Jvm.RoadKit Bundle Jvm.OwnKit Jvm.Pilot.@@N@@.Jvm.D
def EL : List (String × Nat) := consts_1
abbrev nw : Bool := false
/-- what holds of the tables and of the JDK's statics at the start -/
def Gl (Z : State) (a0 : Array Value) : Prop := (∀ d ∈ tables_1, d.before a0 Z = true) ∧ EW Z a0 EL ∧ (∀ a ∈ Bundle.stringAtoms, a.before a0 Z = true) ∧
  (∃ zc : Int32, Sta Z Z.heap "java/lang/String" "COMPACT_STRINGS" "Z" (.int zc) ∧ ¬ zc = 0) ∧
  (∃ fm : Value, Sta Z Z.heap "jdk/internal/util/Preconditions" "SIOOBE_FORMATTER" "Ljava/util/function/BiFunction;" fm ∧ fm.isRef = true) ∧
  (∃ (d1 : Addr) (k1 : ClassId), Sta Z Z.heap "java/lang/Integer" "DigitOnes" "[B" (.ref d1) ∧ Arv Z Z.heap d1 k1 .byte (100 : Int32) onesT (.int (0 : Int32))) ∧
  (∃ (d2 : Addr) (k2 : ClassId), Sta Z Z.heap "java/lang/Integer" "DigitTens" "[B" (.ref d2) ∧ Arv Z Z.heap d2 k2 .byte (100 : Int32) tensT (.int (0 : Int32)))
theorem pd_0 : parseMethodDescriptor "(I)Ljava/lang/String;" = some ⟨[.int], (some (.object "java/lang/String"))⟩ := by decide +kernel
theorem pd_1 : parseMethodDescriptor "(II)Ljava/lang/String;" = some ⟨[.int, .int], (some (.object "java/lang/String"))⟩ := by decide +kernel
theorem pd_2 : parseMethodDescriptor "(I)I" = some ⟨[.int], (some .int)⟩ := by decide +kernel
theorem pd_3 : parseMethodDescriptor "(II[B)I" = some ⟨[.int, .int, (.array .byte)], (some .int)⟩ := by decide +kernel
theorem pd_4 : parseMethodDescriptor "([BB)V" = some ⟨[(.array .byte), .byte], none⟩ := by decide +kernel
theorem pd_5 : parseMethodDescriptor "(I)C" = some ⟨[.int], (some .char)⟩ := by decide +kernel
abbrev CAPS : List Nat := [16]
theorem elL {Z : State} {a0 : Array Value} (hw : ∀ d ∈ tables_1, d.before a0 Z = true) (n : Nat) (hn : n ∈ ([16] : List Nat)) : ∀ p ∈ EL, ∃ text : String, (Jvm.Cond.stringLink p.1 p.2 text).before a0 Z = true ∧ (∀ c ∈ text.toList, c.toNat < 256) ∧ text.toList.length ≠ (Int32.ofNat n).toNatClampNeg := by
  have e : (Int32.ofNat n).toNatClampNeg = n := of_nat (by simp only [List.mem_cons, List.not_mem_nil, or_false] at hn; omega)
  rw [e]
  have key : ∀ (text : String), (∀ k ∈ ([16] : List Nat), text.toList.length ≠ k) → text.toList.length ≠ n := fun _ q => q n hn
  intro p hp
  simp only [EL, consts_1, List.mem_cons, List.not_mem_nil, or_false] at hp
  rcases hp with rfl | rfl | rfl | rfl
  · exact ⟨"C", (hw _ (List.mem_of_getElem? (i := 27) rfl)), by decide, key _ (by decide)⟩
  · exact ⟨"x", (hw _ (List.mem_of_getElem? (i := 156) rfl)), by decide, key _ (by decide)⟩
  · exact ⟨"0", (hw _ (List.mem_of_getElem? (i := 104) rfl)), by decide, key _ (by decide)⟩
  · exact ⟨"", (hw _ (List.mem_of_getElem? (i := 191) rfl)), by decide, key _ (by decide)⟩

theorem pd_6 : parseMethodDescriptor "()I" = some ⟨[], (some .int)⟩ := by decide +kernel
theorem pd_7 : parseMethodDescriptor "()B" = some ⟨[], (some .byte)⟩ := by decide +kernel
theorem pd_8 : parseMethodDescriptor "()Z" = some ⟨[], (some .boolean)⟩ := by decide +kernel
theorem pd_9 : parseMethodDescriptor "([BI)C" = some ⟨[(.array .byte), .int], (some .char)⟩ := by decide +kernel
theorem pd_10 : parseMethodDescriptor "(II)V" = some ⟨[.int, .int], none⟩ := by decide +kernel
theorem pd_11 : parseMethodDescriptor "(IILjava/util/function/BiFunction;)I" = some ⟨[.int, .int, (.object "java/util/function/BiFunction")], (some .int)⟩ := by decide +kernel
theorem pd_12 : parseMethodDescriptor "(Ljava/lang/Object;)Z" = some ⟨[(.object "java/lang/Object")], (some .boolean)⟩ := by decide +kernel
theorem pd_13 : parseMethodDescriptor "([B[B)Z" = some ⟨[(.array .byte), (.array .byte)], (some .boolean)⟩ := by decide +kernel
theorem d8_0 : decode jdk_42_method_152_code 0 = .ok (.getstatic 38, 3) := by decide +kernel
theorem d8_3 : decode jdk_42_method_152_code 3 = .ok (.ifCond .eq 10, 3) := by decide +kernel
theorem d8_6 : decode jdk_42_method_152_code 6 = .ok (.aload_n 0, 1) := by decide +kernel
theorem d8_7 : decode jdk_42_method_152_code 7 = .ok (.getfield 15, 3) := by decide +kernel
theorem d8_10 : decode jdk_42_method_152_code 10 = .ok (.goto 4, 3) := by decide +kernel
theorem d8_13 : decode jdk_42_method_152_code 13 = .ok (.iconst 1, 1) := by decide +kernel
theorem d8_14 : decode jdk_42_method_152_code 14 = .ok (.ireturn, 1) := by decide +kernel
theorem pn_0 : plainName "java/lang/String" = true := by first | (simp [plainName, overriddenIn]; done) | decide +kernel
set_option maxRecDepth 65536 in
set_option maxHeartbeats 40000000 in
theorem c_cod (l : Launch) (Z : State) (a0 : Array Value) (G : Gl Z a0) (a : Addr) (h : Heap) (C : Fld Z h a "java/lang/String" "coder" "B" (.int (0 : Int32))) :
    Ctr l Z EL nw (⟨"java/lang/String", "coder", "()B"⟩ : MethodName) jdk_42_method_152_code 1 (Option.some Jvm.ClassFile.FieldType.byte) ({ frames := 0, cells := 0, slots := 0, locals := 0 } : Room) #[.ref a] h [] (PureQ h fun w => w = .int 0) := by
  obtain ⟨hw, hEL, hSA, ⟨zc, SC, hz⟩, ⟨fm, SF, hfm⟩, ⟨d1, kd1, SD1, AD1⟩, ⟨d2, kd2, SD2, AD2⟩⟩ := id G
  refine Ctr.enter (own := "java/lang/String") (nm := "coder") rfl rfl hEL (plainFor_of_name pn_0) #[.val (.ref a)] (fun m => by first | rfl | (simp [entryFrame, mkF, argsToLocals, Value.category, maxLocals]; done)) ?_
  intro p e s m below meth c T X
  refine g_getS X (Or.inl (hw _ (List.mem_of_getElem? (i := 54) rfl))) (host := "") Via.refl (SC.ext X.old) d8_0 3 rfl ?_
  intro T1 X2
  refine g_ifNo X2 d8_3 (XT.ii_eq_f hz) 6 rfl ?_
  refine g_aloadN X2 d8_6 rfl rfl 7 rfl ?_
  refine g_getF X2 (Or.inl (hw _ (List.mem_of_getElem? (i := 55) rfl))) (host := "") Via.refl C d8_7 10 rfl ?_
  intro T3 X4
  refine g_goto X4 d8_10 14 (by decide) (by decide) ?_
  exact g_retN X4 (t := .byte) rfl (by simp) d8_14 _ rfl (by decide) (by decide) ⟨rfl, _, rfl, rfl⟩
theorem d32_0 : decode jdk_42_method_154_code 0 = .ok (.getstatic 38, 3) := by decide +kernel
theorem d32_3 : decode jdk_42_method_154_code 3 = .ok (.ifCond .eq 14, 3) := by decide +kernel
theorem d32_6 : decode jdk_42_method_154_code 6 = .ok (.aload_n 0, 1) := by decide +kernel
theorem d32_7 : decode jdk_42_method_154_code 7 = .ok (.getfield 15, 3) := by decide +kernel
theorem d32_10 : decode jdk_42_method_154_code 10 = .ok (.ifCond .ne 7, 3) := by decide +kernel
theorem d32_13 : decode jdk_42_method_154_code 13 = .ok (.iconst 1, 1) := by decide +kernel
theorem d32_14 : decode jdk_42_method_154_code 14 = .ok (.goto 4, 3) := by decide +kernel
theorem d32_17 : decode jdk_42_method_154_code 17 = .ok (.iconst 0, 1) := by decide +kernel
theorem d32_18 : decode jdk_42_method_154_code 18 = .ok (.ireturn, 1) := by decide +kernel
set_option maxRecDepth 65536 in
set_option maxHeartbeats 40000000 in
theorem c_isl (l : Launch) (Z : State) (a0 : Array Value) (G : Gl Z a0) (a : Addr) (h : Heap) (C : Fld Z h a "java/lang/String" "coder" "B" (.int (0 : Int32))) :
    Ctr l Z EL nw (⟨"java/lang/String", "isLatin1", "()Z"⟩ : MethodName) jdk_42_method_154_code 1 (Option.some Jvm.ClassFile.FieldType.boolean) ({ frames := 0, cells := 0, slots := 0, locals := 0 } : Room) #[.ref a] h [] (PureQ h fun w => w = .int 1) := by
  obtain ⟨hw, hEL, hSA, ⟨zc, SC, hz⟩, ⟨fm, SF, hfm⟩, ⟨d1, kd1, SD1, AD1⟩, ⟨d2, kd2, SD2, AD2⟩⟩ := id G
  refine Ctr.enter (own := "java/lang/String") (nm := "isLatin1") rfl rfl hEL (plainFor_of_name pn_0) #[.val (.ref a)] (fun m => by first | rfl | (simp [entryFrame, mkF, argsToLocals, Value.category, maxLocals]; done)) ?_
  intro p e s m below meth c T X
  refine g_getS X (Or.inl (hw _ (List.mem_of_getElem? (i := 54) rfl))) (host := "") Via.refl (SC.ext X.old) d32_0 3 rfl ?_
  intro T1 X2
  refine g_ifNo X2 d32_3 (XT.ii_eq_f hz) 6 rfl ?_
  refine g_aloadN X2 d32_6 rfl rfl 7 rfl ?_
  refine g_getF X2 (Or.inl (hw _ (List.mem_of_getElem? (i := 55) rfl))) (host := "") Via.refl C d32_7 10 rfl ?_
  intro T3 X4
  refine g_ifNo X4 d32_10 (XT.ii_ne_f (by decide)) 13 rfl ?_
  refine g_iconst X4 (1 : Int32) d32_13 (by decide) 14 rfl ?_
  refine g_goto X4 d32_14 18 (by decide) (by decide) ?_
  exact g_retN X4 (t := .boolean) rfl (by simp) d32_18 _ rfl (by decide) (by decide) ⟨rfl, _, rfl, rfl⟩
theorem d7_0 : decode jdk_42_method_54_code 0 = .ok (.aload_n 0, 1) := by decide +kernel
theorem d7_1 : decode jdk_42_method_54_code 1 = .ok (.getfield 9, 3) := by decide +kernel
theorem d7_4 : decode jdk_42_method_54_code 4 = .ok (.arraylength, 1) := by decide +kernel
theorem d7_5 : decode jdk_42_method_54_code 5 = .ok (.aload_n 0, 1) := by decide +kernel
theorem d7_6 : decode jdk_42_method_54_code 6 = .ok (.invokevirtual 335, 3) := by decide +kernel
theorem d7_9 : decode jdk_42_method_54_code 9 = .ok (.ishr, 1) := by decide +kernel
theorem d7_10 : decode jdk_42_method_54_code 10 = .ok (.ireturn, 1) := by decide +kernel
set_option maxRecDepth 65536 in
set_option maxHeartbeats 40000000 in
theorem c_len (l : Launch) (Z : State) (a0 : Array Value) (G : Gl Z a0) (a t : Addr) (kb : ClassId) (cs : List Int32) (h : Heap) (E : Exa Z h a "java/lang/String") (C : Fld Z h a "java/lang/String" "coder" "B" (.int (0 : Int32))) (V : Fld Z h a "java/lang/String" "value" "[B" (.ref t)) (A : Arv Z h t kb .byte (Int32.ofNat cs.length) (bys cs) (.int (0 : Int32))) (hcs : ∀ c ∈ cs, ¬ c < 0 ∧ ¬ (255 : Int32) < c) (hlen : cs.length ≤ 4000) :
    Ctr l Z EL nw (⟨"java/lang/String", "length", "()I"⟩ : MethodName) jdk_42_method_54_code 1 (Option.some Jvm.ClassFile.FieldType.int) ({ frames := 1, cells := 0, slots := 0, locals := 13 } : Room) #[.ref a] h [] (PureQ h fun w => w = .int (Int32.ofNat cs.length)) := by
  obtain ⟨hw, hEL, hSA, ⟨zc, SC, hz⟩, ⟨fm, SF, hfm⟩, ⟨d1, kd1, SD1, AD1⟩, ⟨d2, kd2, SD2, AD2⟩⟩ := id G
  refine Ctr.enter (own := "java/lang/String") (nm := "length") rfl rfl hEL (plainFor_of_name pn_0) #[.val (.ref a)] (fun m => by first | rfl | (simp [entryFrame, mkF, argsToLocals, Value.category, maxLocals]; done)) ?_
  intro p e s m below meth c T X
  refine g_aloadN X d7_0 rfl rfl 1 rfl ?_
  refine g_getF X (Or.inl (hw _ (List.mem_of_getElem? (i := 48) rfl))) (host := "") Via.refl V d7_1 4 rfl ?_
  intro T1 X2
  refine g_arrlen X2 A d7_4 5 rfl ?_
  refine g_aloadN X2 d7_5 rfl rfl 6 rfl ?_
  refine g_callVp X2 (hw _ (List.mem_of_getElem? (i := 49) rfl)) (hw _ (List.mem_of_getElem? (i := 50) rfl)) (hw _ (List.mem_of_getElem? (i := 52) rfl)) (hw _ (List.mem_of_getElem? (i := 51) rfl)) (hw _ (List.mem_of_getElem? (i := 21) rfl)) (hw _ (List.mem_of_getElem? (i := 53) rfl)) (nfSel (hw _ (List.mem_of_getElem? (i := 52) rfl))) (by decide) E (c_cod l Z a0 G a h C) (by simp) (argsL := []) (rest := [.int (Int32.ofNat cs.length)]) pd_7 rfl rfl rfl rfl 1 (Nat.le_of_eq rfl) (by decide) (by decide) (ck := 0) rfl (cs := 0) rfl (by decide) (by decide) d7_6 9 rfl ?_
  intro w5 T3 X4 hq6
  subst hq6
  refine g_ishr X4 d7_9 (Int32.ofNat cs.length) (shr0 _) 10 rfl ?_
  exact g_retI X4 rfl d7_10 (by decide) (by decide) ⟨rfl, _, rfl, rfl⟩
theorem d35_0 : decode jdk_41_method_11_code 0 = .ok (.iload_n 0, 1) := by decide +kernel
theorem d35_1 : decode jdk_41_method_11_code 1 = .ok (.ifCond .lt 8, 3) := by decide +kernel
theorem d35_4 : decode jdk_41_method_11_code 4 = .ok (.iload_n 0, 1) := by decide +kernel
theorem d35_5 : decode jdk_41_method_11_code 5 = .ok (.iload_n 1, 1) := by decide +kernel
theorem d35_6 : decode jdk_41_method_11_code 6 = .ok (.if_icmp .lt 10, 3) := by decide +kernel
theorem d35_9 : decode jdk_41_method_11_code 9 = .ok (.aload_n 2, 1) := by decide +kernel
theorem d35_10 : decode jdk_41_method_11_code 10 = .ok (.iload_n 0, 1) := by decide +kernel
theorem d35_11 : decode jdk_41_method_11_code 11 = .ok (.iload_n 1, 1) := by decide +kernel
theorem d35_12 : decode jdk_41_method_11_code 12 = .ok (.invokestatic 95, 3) := by decide +kernel
theorem d35_15 : decode jdk_41_method_11_code 15 = .ok (.athrow, 1) := by decide +kernel
theorem d35_16 : decode jdk_41_method_11_code 16 = .ok (.iload_n 0, 1) := by decide +kernel
theorem d35_17 : decode jdk_41_method_11_code 17 = .ok (.ireturn, 1) := by decide +kernel
theorem pn_1 : plainName "jdk/internal/util/Preconditions" = true := by first | (simp [plainName, overriddenIn]; done) | decide +kernel
set_option maxRecDepth 65536 in
set_option maxHeartbeats 40000000 in
theorem c_pci (l : Launch) (Z : State) (a0 : Array Value) (G : Gl Z a0) (i n : Int32) (v : Value) (h : Heap) (hv : v.isRef = true) (h0 : ¬ i < (0 : Int32)) (h1 : i < n) :
    Ctr l Z EL nw (⟨"jdk/internal/util/Preconditions", "checkIndex", "(IILjava/util/function/BiFunction;)I"⟩ : MethodName) jdk_41_method_11_code 3 (Option.some Jvm.ClassFile.FieldType.int) ({ frames := 0, cells := 0, slots := 0, locals := 0 } : Room) #[.int i, .int n, v] h [] (PureQ h fun w => w = .int i) := by
  obtain ⟨hw, hEL, hSA, ⟨zc, SC, hz⟩, ⟨fm, SF, hfm⟩, ⟨d1, kd1, SD1, AD1⟩, ⟨d2, kd2, SD2, AD2⟩⟩ := id G
  refine Ctr.enter (own := "jdk/internal/util/Preconditions") (nm := "checkIndex") rfl rfl hEL (plainFor_of_name pn_1) #[.val (.int i), .val (.int n), .val (v)] (fun m => by rcases ref_cases hv with rfl | ⟨r, rfl⟩ <;> rfl) ?_
  intro p e s m below meth c T X
  refine g_iloadN X d35_0 rfl 1 rfl ?_
  refine g_ifNo X d35_1 (XT.ii_lt_f h0) 4 rfl ?_
  refine g_iloadN X d35_4 rfl 5 rfl ?_
  refine g_iloadN X d35_5 rfl 6 rfl ?_
  refine g_icmpYes X d35_6 (XT.ii_lt_t h1) 16 (by decide) (by decide) ?_
  refine g_iloadN X d35_16 rfl 17 rfl ?_
  exact g_retI X rfl d35_17 (by decide) (by decide) ⟨rfl, _, rfl, rfl⟩
theorem d34_0 : decode jdk_42_method_155_code 0 = .ok (.iload_n 0, 1) := by decide +kernel
theorem d34_1 : decode jdk_42_method_155_code 1 = .ok (.iload_n 1, 1) := by decide +kernel
theorem d34_2 : decode jdk_42_method_155_code 2 = .ok (.getstatic 1053, 3) := by decide +kernel
theorem d34_5 : decode jdk_42_method_155_code 5 = .ok (.invokestatic 1059, 3) := by decide +kernel
theorem d34_8 : decode jdk_42_method_155_code 8 = .ok (.pop, 1) := by decide +kernel
theorem d34_9 : decode jdk_42_method_155_code 9 = .ok (.return_, 1) := by decide +kernel
set_option maxRecDepth 65536 in
set_option maxHeartbeats 40000000 in
theorem c_ci (l : Launch) (Z : State) (a0 : Array Value) (G : Gl Z a0) (i n : Int32) (h : Heap) (h0 : ¬ i < (0 : Int32)) (h1 : i < n) :
    Ctr l Z EL nw (⟨"java/lang/String", "checkIndex", "(II)V"⟩ : MethodName) jdk_42_method_155_code 2 (Option.none : Option Jvm.ClassFile.FieldType) ({ frames := 1, cells := 0, slots := 0, locals := 14 } : Room) #[.int i, .int n] h [] (VoidQ fun h' => h = h') := by
  obtain ⟨hw, hEL, hSA, ⟨zc, SC, hz⟩, ⟨fm, SF, hfm⟩, ⟨d1, kd1, SD1, AD1⟩, ⟨d2, kd2, SD2, AD2⟩⟩ := id G
  refine Ctr.enter (own := "java/lang/String") (nm := "checkIndex") rfl rfl hEL (plainFor_of_name pn_0) #[.val (.int i), .val (.int n)] (fun m => by first | rfl | (simp [entryFrame, mkF, argsToLocals, Value.category, maxLocals]; done)) ?_
  intro p e s m below meth c T X
  refine g_iloadN X d34_0 rfl 1 rfl ?_
  refine g_iloadN X d34_1 rfl 2 rfl ?_
  refine g_getS X (Or.inl (hw _ (List.mem_of_getElem? (i := 181) rfl))) (host := "") Via.refl (SF.ext X.old) d34_2 5 rfl ?_
  intro T1 X2
  refine g_callSp X2 (hw _ (List.mem_of_getElem? (i := 183) rfl)) (hw _ (List.mem_of_getElem? (i := 184) rfl)) (hw _ (List.mem_of_getElem? (i := 182) rfl)) (hw _ (List.mem_of_getElem? (i := 185) rfl)) (by decide) (c_pci l Z a0 G i n fm h hfm h0 h1) (by simp) (argsL := [.int i, .int n, fm]) (rest := []) pd_11 rfl rfl rfl rfl 0 (Nat.le_of_eq rfl) (by decide) (by decide) (ck := 0) rfl (cs := 0) rfl (by decide) (by decide) d34_5 8 rfl ?_
  intro w5 T3 X4 hq6
  subst hq6
  refine g_pop X4 d34_8 rfl 9 rfl ?_
  exact g_ret X4 rfl d34_9 (by decide) (by decide) ⟨rfl, rfl⟩
theorem d33_0 : decode jdk_43_method_2_code 0 = .ok (.iload_n 1, 1) := by decide +kernel
theorem d33_1 : decode jdk_43_method_2_code 1 = .ok (.aload_n 0, 1) := by decide +kernel
theorem d33_2 : decode jdk_43_method_2_code 2 = .ok (.arraylength, 1) := by decide +kernel
theorem d33_3 : decode jdk_43_method_2_code 3 = .ok (.invokestatic 9, 3) := by decide +kernel
theorem d33_6 : decode jdk_43_method_2_code 6 = .ok (.aload_n 0, 1) := by decide +kernel
theorem d33_7 : decode jdk_43_method_2_code 7 = .ok (.iload_n 1, 1) := by decide +kernel
theorem d33_8 : decode jdk_43_method_2_code 8 = .ok (.baload, 1) := by decide +kernel
theorem d33_9 : decode jdk_43_method_2_code 9 = .ok (.sipush 255, 3) := by decide +kernel
theorem d33_12 : decode jdk_43_method_2_code 12 = .ok (.iand, 1) := by decide +kernel
theorem d33_13 : decode jdk_43_method_2_code 13 = .ok (.i2c, 1) := by decide +kernel
theorem d33_14 : decode jdk_43_method_2_code 14 = .ok (.ireturn, 1) := by decide +kernel
theorem pn_2 : plainName "java/lang/StringLatin1" = true := by first | (simp [plainName, overriddenIn]; done) | decide +kernel
set_option maxRecDepth 65536 in
set_option maxHeartbeats 40000000 in
theorem c_lch (l : Launch) (Z : State) (a0 : Array Value) (G : Gl Z a0) (t : Addr) (kb : ClassId) (cs : List Int32) (i : Nat) (h : Heap) (A : Arv Z h t kb .byte (Int32.ofNat cs.length) (bys cs) (.int (0 : Int32))) (hcs : ∀ c ∈ cs, ¬ c < 0 ∧ ¬ (255 : Int32) < c) (hlen : cs.length ≤ 4000) (hi : i < cs.length) :
    Ctr l Z EL nw (⟨"java/lang/StringLatin1", "charAt", "([BI)C"⟩ : MethodName) jdk_43_method_2_code 2 (Option.some Jvm.ClassFile.FieldType.char) ({ frames := 2, cells := 0, slots := 0, locals := 27 } : Room) #[.ref t, .int (Int32.ofNat i)] h [] (PureQ h fun w => w = .int (cs.getD i 0)) := by
  obtain ⟨hw, hEL, hSA, ⟨zc, SC, hz⟩, ⟨fm, SF, hfm⟩, ⟨d1, kd1, SD1, AD1⟩, ⟨d2, kd2, SD2, AD2⟩⟩ := id G
  refine Ctr.enter (own := "java/lang/StringLatin1") (nm := "charAt") rfl rfl hEL (plainFor_of_name pn_2) #[.val (.ref t), .val (.int (Int32.ofNat i))] (fun m => by first | rfl | (simp [entryFrame, mkF, argsToLocals, Value.category, maxLocals]; done)) ?_
  intro p e s m below meth c T X
  refine g_iloadN X d33_0 rfl 1 rfl ?_
  refine g_aloadN X d33_1 rfl rfl 2 rfl ?_
  refine g_arrlen X A d33_2 3 rfl ?_
  refine g_callSn X (hw _ (List.mem_of_getElem? (i := 178) rfl)) (hw _ (List.mem_of_getElem? (i := 179) rfl)) (hw _ (List.mem_of_getElem? (i := 21) rfl)) (hw _ (List.mem_of_getElem? (i := 180) rfl)) (by decide) (c_ci l Z a0 G _ _ h (of_nn (by omega)) (of_lt hi hlen)) (by simp) (argsL := [.int (Int32.ofNat i), .int (Int32.ofNat cs.length)]) (rest := []) pd_10 rfl rfl rfl rfl 0 (Nat.le_of_eq rfl) (by decide) (by decide) (ck := 0) rfl (cs := 0) rfl (by decide) (by decide) d33_3 6 rfl ?_
  intro T1 h4 X2 hq3
  subst hq3
  refine g_aloadN X2 d33_6 rfl rfl 7 rfl ?_
  refine g_iloadN X2 d33_7 rfl 8 rfl ?_
  refine g_baload X2 A (of_nn (by omega)) (of_lt hi hlen) _ (bys_at cs i (by omega)) d33_8 9 rfl ?_
  refine g_sipush X2 (255 : Int32) d33_9 (by decide) 12 rfl ?_
  refine g_iand X2 d33_12 (cs.getD i 0) (lo_mask (hcs _ (mem_at hi))) 13 rfl ?_
  refine g_i2c X2 d33_13 (cs.getD i 0) (nar255 (hcs _ (mem_at hi))) 14 rfl ?_
  exact g_retN X2 (t := .char) rfl (by simp) d33_14 _ (nar255 (hcs _ (mem_at hi))) (by decide) (by decide) ⟨rfl, _, rfl, rfl⟩
theorem d31_0 : decode jdk_42_method_56_code 0 = .ok (.aload_n 0, 1) := by decide +kernel
theorem d31_1 : decode jdk_42_method_56_code 1 = .ok (.invokevirtual 492, 3) := by decide +kernel
theorem d31_4 : decode jdk_42_method_56_code 4 = .ok (.ifCond .eq 12, 3) := by decide +kernel
theorem d31_7 : decode jdk_42_method_56_code 7 = .ok (.aload_n 0, 1) := by decide +kernel
theorem d31_8 : decode jdk_42_method_56_code 8 = .ok (.getfield 9, 3) := by decide +kernel
theorem d31_11 : decode jdk_42_method_56_code 11 = .ok (.iload_n 1, 1) := by decide +kernel
theorem d31_12 : decode jdk_42_method_56_code 12 = .ok (.invokestatic 495, 3) := by decide +kernel
theorem d31_15 : decode jdk_42_method_56_code 15 = .ok (.ireturn, 1) := by decide +kernel
theorem d31_16 : decode jdk_42_method_56_code 16 = .ok (.aload_n 0, 1) := by decide +kernel
theorem d31_17 : decode jdk_42_method_56_code 17 = .ok (.getfield 9, 3) := by decide +kernel
theorem d31_20 : decode jdk_42_method_56_code 20 = .ok (.iload_n 1, 1) := by decide +kernel
theorem d31_21 : decode jdk_42_method_56_code 21 = .ok (.invokestatic 498, 3) := by decide +kernel
theorem d31_24 : decode jdk_42_method_56_code 24 = .ok (.ireturn, 1) := by decide +kernel
set_option maxRecDepth 65536 in
set_option maxHeartbeats 40000000 in
theorem c_cha (l : Launch) (Z : State) (a0 : Array Value) (G : Gl Z a0) (a t : Addr) (kb : ClassId) (cs : List Int32) (i : Nat) (h : Heap) (E : Exa Z h a "java/lang/String") (C : Fld Z h a "java/lang/String" "coder" "B" (.int (0 : Int32))) (V : Fld Z h a "java/lang/String" "value" "[B" (.ref t)) (A : Arv Z h t kb .byte (Int32.ofNat cs.length) (bys cs) (.int (0 : Int32))) (hcs : ∀ c ∈ cs, ¬ c < 0 ∧ ¬ (255 : Int32) < c) (hlen : cs.length ≤ 4000) (hi : i < cs.length) :
    Ctr l Z EL nw (⟨"java/lang/String", "charAt", "(I)C"⟩ : MethodName) jdk_42_method_56_code 2 (Option.some Jvm.ClassFile.FieldType.char) ({ frames := 3, cells := 0, slots := 0, locals := 40 } : Room) #[.ref a, .int (Int32.ofNat i)] h [] (PureQ h fun w => w = .int (cs.getD i 0)) := by
  obtain ⟨hw, hEL, hSA, ⟨zc, SC, hz⟩, ⟨fm, SF, hfm⟩, ⟨d1, kd1, SD1, AD1⟩, ⟨d2, kd2, SD2, AD2⟩⟩ := id G
  refine Ctr.enter (own := "java/lang/String") (nm := "charAt") rfl rfl hEL (plainFor_of_name pn_0) #[.val (.ref a), .val (.int (Int32.ofNat i))] (fun m => by first | rfl | (simp [entryFrame, mkF, argsToLocals, Value.category, maxLocals]; done)) ?_
  intro p e s m below meth c T X
  refine g_aloadN X d31_0 rfl rfl 1 rfl ?_
  refine g_callVp X (hw _ (List.mem_of_getElem? (i := 169) rfl)) (hw _ (List.mem_of_getElem? (i := 170) rfl)) (hw _ (List.mem_of_getElem? (i := 172) rfl)) (hw _ (List.mem_of_getElem? (i := 171) rfl)) (hw _ (List.mem_of_getElem? (i := 21) rfl)) (hw _ (List.mem_of_getElem? (i := 173) rfl)) (nfSel (hw _ (List.mem_of_getElem? (i := 172) rfl))) (by decide) E (c_isl l Z a0 G a h C) (by simp) (argsL := []) (rest := []) pd_8 rfl rfl rfl rfl 0 (Nat.le_of_eq rfl) (by decide) (by decide) (ck := 0) rfl (cs := 0) rfl (by decide) (by decide) d31_1 4 rfl ?_
  intro w3 T1 X2 hq4
  subst hq4
  refine g_ifNo X2 d31_4 (XT.ii_eq_f (by decide)) 7 rfl ?_
  refine g_aloadN X2 d31_7 rfl rfl 8 rfl ?_
  refine g_getF X2 (Or.inl (hw _ (List.mem_of_getElem? (i := 48) rfl))) (host := "") Via.refl V d31_8 11 rfl ?_
  intro T5 X6
  refine g_iloadN X6 d31_11 rfl 12 rfl ?_
  refine g_callSp X6 (hw _ (List.mem_of_getElem? (i := 174) rfl)) (hw _ (List.mem_of_getElem? (i := 175) rfl)) (hw _ (List.mem_of_getElem? (i := 176) rfl)) (hw _ (List.mem_of_getElem? (i := 177) rfl)) (by decide) (c_lch l Z a0 G t kb cs i h A hcs hlen hi) (by simp) (argsL := [.ref t, .int (Int32.ofNat i)]) (rest := []) pd_9 rfl rfl rfl rfl 0 (Nat.le_of_eq rfl) (by decide) (by decide) (ck := 0) rfl (cs := 0) rfl (by decide) (by decide) d31_12 15 rfl ?_
  intro w9 T7 X8 hq10
  subst hq10
  exact g_retN X8 (t := .char) rfl (by simp) d31_15 _ (nar255 (hcs _ (mem_at hi))) (by decide) (by decide) ⟨rfl, _, rfl, rfl⟩
theorem pd_14 : parseMethodDescriptor "()V" = some ⟨[], none⟩ := by decide +kernel
theorem pd_15 : parseMethodDescriptor "(I)V" = some ⟨[.int], none⟩ := by decide +kernel
theorem pd_16 : parseMethodDescriptor "(Ljava/lang/String;)Ljava/lang/StringBuilder;" = some ⟨[(.object "java/lang/String")], (some (.object "java/lang/StringBuilder"))⟩ := by decide +kernel
theorem pd_17 : parseMethodDescriptor "(Ljava/lang/String;)Ljava/lang/AbstractStringBuilder;" = some ⟨[(.object "java/lang/String")], (some (.object "java/lang/AbstractStringBuilder"))⟩ := by decide +kernel
theorem pd_18 : parseMethodDescriptor "(ILjava/lang/String;)V" = some ⟨[.int, (.object "java/lang/String")], none⟩ := by decide +kernel
theorem pd_19 : parseMethodDescriptor "(Ljava/lang/String;)V" = some ⟨[(.object "java/lang/String")], none⟩ := by decide +kernel
theorem pd_20 : parseMethodDescriptor "([BIB)V" = some ⟨[(.array .byte), .int, .byte], none⟩ := by decide +kernel
theorem pd_21 : parseMethodDescriptor "()Ljava/lang/String;" = some ⟨[], (some (.object "java/lang/String"))⟩ := by decide +kernel
theorem pd_22 : parseMethodDescriptor "(Ljava/lang/StringBuilder;)V" = some ⟨[(.object "java/lang/StringBuilder")], none⟩ := by decide +kernel
theorem pd_23 : parseMethodDescriptor "(Ljava/lang/AbstractStringBuilder;Ljava/lang/Void;)V" = some ⟨[(.object "java/lang/AbstractStringBuilder"), (.object "java/lang/Void")], none⟩ := by decide +kernel
theorem pd_24 : parseMethodDescriptor "()[B" = some ⟨[], (some (.array .byte))⟩ := by decide +kernel
theorem pd_25 : parseMethodDescriptor "([BII)[B" = some ⟨[(.array .byte), .int, .int], (some (.array .byte))⟩ := by decide +kernel
theorem pd_26 : parseMethodDescriptor "(II)I" = some ⟨[.int, .int], (some .int)⟩ := by decide +kernel
theorem d3_0 : decode jdk_68_method_2_code 0 = .ok (.aload_n 0, 1) := by decide +kernel
theorem d3_1 : decode jdk_68_method_2_code 1 = .ok (.invokespecial 3, 3) := by decide +kernel
theorem d3_4 : decode jdk_68_method_2_code 4 = .ok (.getstatic 18, 3) := by decide +kernel
theorem d3_7 : decode jdk_68_method_2_code 7 = .ok (.ifCond .eq 18, 3) := by decide +kernel
theorem d3_10 : decode jdk_68_method_2_code 10 = .ok (.aload_n 0, 1) := by decide +kernel
theorem d3_11 : decode jdk_68_method_2_code 11 = .ok (.iload_n 1, 1) := by decide +kernel
theorem d3_12 : decode jdk_68_method_2_code 12 = .ok (.newarray .byte, 2) := by decide +kernel
theorem d3_14 : decode jdk_68_method_2_code 14 = .ok (.putfield 15, 3) := by decide +kernel
theorem d3_17 : decode jdk_68_method_2_code 17 = .ok (.aload_n 0, 1) := by decide +kernel
theorem d3_18 : decode jdk_68_method_2_code 18 = .ok (.iconst 0, 1) := by decide +kernel
theorem d3_19 : decode jdk_68_method_2_code 19 = .ok (.putfield 22, 3) := by decide +kernel
theorem d3_22 : decode jdk_68_method_2_code 22 = .ok (.goto 16, 3) := by decide +kernel
theorem d3_25 : decode jdk_68_method_2_code 25 = .ok (.aload_n 0, 1) := by decide +kernel
theorem d3_26 : decode jdk_68_method_2_code 26 = .ok (.iload_n 1, 1) := by decide +kernel
theorem d3_27 : decode jdk_68_method_2_code 27 = .ok (.invokestatic 26, 3) := by decide +kernel
theorem d3_30 : decode jdk_68_method_2_code 30 = .ok (.putfield 15, 3) := by decide +kernel
theorem d3_33 : decode jdk_68_method_2_code 33 = .ok (.aload_n 0, 1) := by decide +kernel
theorem d3_34 : decode jdk_68_method_2_code 34 = .ok (.iconst 1, 1) := by decide +kernel
theorem d3_35 : decode jdk_68_method_2_code 35 = .ok (.putfield 22, 3) := by decide +kernel
theorem d3_38 : decode jdk_68_method_2_code 38 = .ok (.return_, 1) := by decide +kernel
theorem pn_3 : plainName "java/lang/AbstractStringBuilder" = true := by first | (simp [plainName, overriddenIn]; done) | decide +kernel
set_option maxRecDepth 65536 in
set_option maxHeartbeats 40000000 in
theorem c_asi (l : Launch) (Z : State) (a0 : Array Value) (G : Gl Z a0) (a : Addr) (h : Heap) (E : Exa Z h a "java/lang/StringBuilder") (V : Fld Z h a "java/lang/AbstractStringBuilder" "value" "[B" .null) (C : Fld Z h a "java/lang/AbstractStringBuilder" "coder" "B" (.int (0 : Int32))) (N : Fld Z h a "java/lang/AbstractStringBuilder" "count" "I" (.int (0 : Int32))) :
    Ctr l Z EL nw (⟨"java/lang/AbstractStringBuilder", "<init>", "(I)V"⟩ : MethodName) jdk_68_method_2_code 2 (Option.none : Option Jvm.ClassFile.FieldType) ({ frames := 1, cells := 1, slots := 16, locals := 12 } : Room) #[.ref a, .int (16 : Int32)] h [a] (VoidQ fun h' => ∃ (b : Addr) (kb : ClassId), Keep h h' [a] ∧ h.size ≤ b ∧ Sb Z h' a b kb 16 []) := by
  obtain ⟨hw, hEL, hSA, ⟨zc, SC, hz⟩, ⟨fm, SF, hfm⟩, ⟨d1, kd1, SD1, AD1⟩, ⟨d2, kd2, SD2, AD2⟩⟩ := id G
  refine Ctr.enter (own := "java/lang/AbstractStringBuilder") (nm := "<init>") rfl rfl hEL (plainFor_of_name pn_3) #[.val (.ref a), .val (.int (16 : Int32))] (fun m => by first | rfl | (simp [entryFrame, mkF, argsToLocals, Value.category, maxLocals]; done)) ?_
  intro p e s m below meth c T X
  refine g_aloadN X d3_0 rfl rfl 1 rfl ?_
  refine g_initO X (hw _ (List.mem_of_getElem? (i := 17) rfl)) (hw _ (List.mem_of_getElem? (i := 18) rfl)) (hw _ (List.mem_of_getElem? (i := 19) rfl)) rfl d3_1 (by decide) 0 (Nat.le_of_eq rfl) (by decide) 4 rfl ?_
  intro T1 X2
  refine g_getS X2 (Or.inl (hw _ (List.mem_of_getElem? (i := 20) rfl))) (host := "") Via.refl (SC.ext X2.old) d3_4 7 rfl ?_
  intro T3 X4
  refine g_ifNo X4 d3_7 (XT.ii_eq_f hz) 10 rfl ?_
  refine g_aloadN X4 d3_10 rfl rfl 11 rfl ?_
  refine g_iloadN X4 d3_11 rfl 12 rfl ?_
  refine g_newP X4 (hw _ (List.mem_of_getElem? (i := 22) rfl)) d3_12 (by decide) 16 (by decide) (by decide) (ck := 1) rfl (cs := 16) rfl (by decide) (by decide) 14 rfl ?_
  intro a5 T6 h7 k8 ea9 X10 E11 A12
  have A13 : Arv Z h7 a5 k8 .byte (16 : Int32) [.int (0 : Int32), .int (0 : Int32), .int (0 : Int32), .int (0 : Int32), .int (0 : Int32), .int (0 : Int32), .int (0 : Int32), .int (0 : Int32), .int (0 : Int32), .int (0 : Int32), .int (0 : Int32), .int (0 : Int32), .int (0 : Int32), .int (0 : Int32), .int (0 : Int32), .int (0 : Int32)] (.int (0 : Int32)) := A12.pad (pad_rep [] _ 16)
  have ne_a_a5 : a ≠ a5 := by rw [ea9]; exact Nat.ne_of_lt E.lt
  have le_a5 : h.size ≤ a5 := by rw [ea9]; exact Nat.le_refl _
  refine g_putF X10 (Or.inl (hw _ (List.mem_of_getElem? (i := 23) rfl))) (host := "") Via.refl (V.ext E11) (E.ext E11) (Or.inl (hw _ (List.mem_of_getElem? (i := 24) rfl))) (hw _ (List.mem_of_getElem? (i := 6) rfl)) (ty := (.array .byte)) (by rfl) rfl rfl (by simp) d3_14 17 rfl ?_
  intro T14 h15 X16 W17 F18 E19
  refine g_aloadN X16 d3_17 rfl rfl 18 rfl ?_
  refine g_iconst X16 (0 : Int32) d3_18 (by decide) 19 rfl ?_
  refine g_putF X16 (Or.inl (hw _ (List.mem_of_getElem? (i := 25) rfl))) (host := "") Via.refl ((C.ext E11).other W17 (Or.inr (slot_ne (Or.inl (hw _ (List.mem_of_getElem? (i := 26) rfl))) (Or.inl (hw _ (List.mem_of_getElem? (i := 24) rfl))) (by decide) (by rfl) (by rfl)))) E19 (Or.inl (hw _ (List.mem_of_getElem? (i := 26) rfl))) (hw _ (List.mem_of_getElem? (i := 6) rfl)) (ty := .byte) (by rfl) rfl rfl (by simp) d3_19 22 rfl ?_
  intro T20 h21 X22 W23 F24 E25
  refine g_goto X22 d3_22 38 (by decide) (by decide) ?_
  exact g_ret X22 rfl d3_38 (by decide) (by decide) ⟨rfl, ⟨a5, _, ((((Keep.refl h [a]).ext E11).wr W17 (Or.inl (by simp))).wr W23 (Or.inl (by simp))), le_a5, E25, F24, (((N.ext E11).other W17 (Or.inr (slot_ne (Or.inl (hw _ (List.mem_of_getElem? (i := 57) rfl))) (Or.inl (hw _ (List.mem_of_getElem? (i := 24) rfl))) (by decide) (by rfl) (by rfl)))).other W23 (Or.inr (slot_ne (Or.inl (hw _ (List.mem_of_getElem? (i := 57) rfl))) (Or.inl (hw _ (List.mem_of_getElem? (i := 26) rfl))) (by decide) (by rfl) (by rfl)))), (F18.other W23 (Or.inr (slot_ne (Or.inl (hw _ (List.mem_of_getElem? (i := 24) rfl))) (Or.inl (hw _ (List.mem_of_getElem? (i := 26) rfl))) (by decide) (by rfl) (by rfl)))), ((A13.other W17 (Ne.symm ne_a_a5)).other W23 (Ne.symm ne_a_a5)), (by simp), (by decide), (by decide), ne_a_a5⟩⟩
theorem d2_0 : decode jdk_67_method_1_code 0 = .ok (.aload_n 0, 1) := by decide +kernel
theorem d2_1 : decode jdk_67_method_1_code 1 = .ok (.bipush 16, 2) := by decide +kernel
theorem d2_3 : decode jdk_67_method_1_code 3 = .ok (.invokespecial 1, 3) := by decide +kernel
theorem d2_6 : decode jdk_67_method_1_code 6 = .ok (.return_, 1) := by decide +kernel
theorem pn_4 : plainName "java/lang/StringBuilder" = true := by first | (simp [plainName, overriddenIn]; done) | decide +kernel
set_option maxRecDepth 65536 in
set_option maxHeartbeats 40000000 in
theorem c_sbi (l : Launch) (Z : State) (a0 : Array Value) (G : Gl Z a0) (a : Addr) (h : Heap) (E : Exa Z h a "java/lang/StringBuilder") (V : Fld Z h a "java/lang/AbstractStringBuilder" "value" "[B" .null) (C : Fld Z h a "java/lang/AbstractStringBuilder" "coder" "B" (.int (0 : Int32))) (N : Fld Z h a "java/lang/AbstractStringBuilder" "count" "I" (.int (0 : Int32))) :
    Ctr l Z EL nw (⟨"java/lang/StringBuilder", "<init>", "()V"⟩ : MethodName) jdk_67_method_1_code 1 (Option.none : Option Jvm.ClassFile.FieldType) ({ frames := 2, cells := 1, slots := 16, locals := 25 } : Room) #[.ref a] h [a] (VoidQ fun h' => ∃ (b : Addr) (kb : ClassId), Keep h h' [a] ∧ h.size ≤ b ∧ Sb Z h' a b kb 16 []) := by
  obtain ⟨hw, hEL, hSA, ⟨zc, SC, hz⟩, ⟨fm, SF, hfm⟩, ⟨d1, kd1, SD1, AD1⟩, ⟨d2, kd2, SD2, AD2⟩⟩ := id G
  refine Ctr.enter (own := "java/lang/StringBuilder") (nm := "<init>") rfl rfl hEL (plainFor_of_name pn_4) #[.val (.ref a)] (fun m => by first | rfl | (simp [entryFrame, mkF, argsToLocals, Value.category, maxLocals]; done)) ?_
  intro p e s m below meth c T X
  refine g_aloadN X d2_0 rfl rfl 1 rfl ?_
  refine g_bipush X (16 : Int32) d2_1 (by decide) 3 rfl ?_
  refine g_callIn X rfl (hw _ (List.mem_of_getElem? (i := 11) rfl)) (hw _ (List.mem_of_getElem? (i := 12) rfl)) (hw _ (List.mem_of_getElem? (i := 15) rfl)) (hw _ (List.mem_of_getElem? (i := 16) rfl)) (by decide) (c_asi l Z a0 G a h E V C N) (by simp) (argsL := [.int (16 : Int32)]) (rest := []) pd_15 rfl rfl rfl rfl 0 (Nat.le_of_eq rfl) (by decide) (by decide) (ck := 1) rfl (cs := 16) rfl (by decide) (by decide) d2_3 6 rfl ?_
  intro T1 h4 X2 hq3
  exact g_ret X2 rfl d2_6 (by decide) (by decide) ⟨rfl, hq3⟩
theorem d9_0 : decode jdk_68_method_9_code 0 = .ok (.aload_n 0, 1) := by decide +kernel
theorem d9_1 : decode jdk_68_method_9_code 1 = .ok (.getfield 15, 3) := by decide +kernel
theorem d9_4 : decode jdk_68_method_9_code 4 = .ok (.arraylength, 1) := by decide +kernel
theorem d9_5 : decode jdk_68_method_9_code 5 = .ok (.aload_n 0, 1) := by decide +kernel
theorem d9_6 : decode jdk_68_method_9_code 6 = .ok (.getfield 22, 3) := by decide +kernel
theorem d9_9 : decode jdk_68_method_9_code 9 = .ok (.ishr, 1) := by decide +kernel
theorem d9_10 : decode jdk_68_method_9_code 10 = .ok (.istore_n 2, 1) := by decide +kernel
theorem d9_11 : decode jdk_68_method_9_code 11 = .ok (.iload_n 1, 1) := by decide +kernel
theorem d9_12 : decode jdk_68_method_9_code 12 = .ok (.iload_n 2, 1) := by decide +kernel
theorem d9_13 : decode jdk_68_method_9_code 13 = .ok (.isub, 1) := by decide +kernel
theorem d9_14 : decode jdk_68_method_9_code 14 = .ok (.ifCond .le 24, 3) := by decide +kernel
theorem d9_17 : decode jdk_68_method_9_code 17 = .ok (.aload_n 0, 1) := by decide +kernel
theorem d9_18 : decode jdk_68_method_9_code 18 = .ok (.aload_n 0, 1) := by decide +kernel
theorem d9_19 : decode jdk_68_method_9_code 19 = .ok (.getfield 15, 3) := by decide +kernel
theorem d9_22 : decode jdk_68_method_9_code 22 = .ok (.aload_n 0, 1) := by decide +kernel
theorem d9_23 : decode jdk_68_method_9_code 23 = .ok (.iload_n 1, 1) := by decide +kernel
theorem d9_24 : decode jdk_68_method_9_code 24 = .ok (.invokevirtual 104, 3) := by decide +kernel
theorem d9_27 : decode jdk_68_method_9_code 27 = .ok (.aload_n 0, 1) := by decide +kernel
theorem d9_28 : decode jdk_68_method_9_code 28 = .ok (.getfield 22, 3) := by decide +kernel
theorem d9_31 : decode jdk_68_method_9_code 31 = .ok (.ishl, 1) := by decide +kernel
theorem d9_32 : decode jdk_68_method_9_code 32 = .ok (.invokestatic 108, 3) := by decide +kernel
theorem d9_35 : decode jdk_68_method_9_code 35 = .ok (.putfield 15, 3) := by decide +kernel
theorem d9_38 : decode jdk_68_method_9_code 38 = .ok (.return_, 1) := by decide +kernel
set_option maxRecDepth 65536 in
set_option maxHeartbeats 40000000 in
theorem c_eci (l : Launch) (Z : State) (a0 : Array Value) (G : Gl Z a0) (a b : Addr) (kb : ClassId) (cap k : Nat) (vs : List Value) (h : Heap) (C : Fld Z h a "java/lang/AbstractStringBuilder" "coder" "B" (.int (0 : Int32))) (V : Fld Z h a "java/lang/AbstractStringBuilder" "value" "[B" (.ref b)) (A : Arv Z h b kb .byte (Int32.ofNat cap) vs (.int (0 : Int32))) (hk : k ≤ cap) (hcap : cap ≤ 4000) :
    Ctr l Z EL nw (⟨"java/lang/AbstractStringBuilder", "ensureCapacityInternal", "(I)V"⟩ : MethodName) jdk_68_method_9_code 3 (Option.none : Option Jvm.ClassFile.FieldType) ({ frames := 0, cells := 0, slots := 0, locals := 0 } : Room) #[.ref a, .int (Int32.ofNat k)] h [] (VoidQ fun h' => h = h') := by
  obtain ⟨hw, hEL, hSA, ⟨zc, SC, hz⟩, ⟨fm, SF, hfm⟩, ⟨d1, kd1, SD1, AD1⟩, ⟨d2, kd2, SD2, AD2⟩⟩ := id G
  refine Ctr.enter (own := "java/lang/AbstractStringBuilder") (nm := "ensureCapacityInternal") rfl rfl hEL (plainFor_of_name pn_3) #[.val (.ref a), .val (.int (Int32.ofNat k)), .unset] (fun m => by first | rfl | (simp [entryFrame, mkF, argsToLocals, Value.category, maxLocals]; done)) ?_
  intro p e s m below meth c T X
  refine g_aloadN X d9_0 rfl rfl 1 rfl ?_
  refine g_getF X (Or.inl (hw _ (List.mem_of_getElem? (i := 23) rfl))) (host := "") Via.refl V d9_1 4 rfl ?_
  intro T1 X2
  refine g_arrlen X2 A d9_4 5 rfl ?_
  refine g_aloadN X2 d9_5 rfl rfl 6 rfl ?_
  refine g_getF X2 (Or.inl (hw _ (List.mem_of_getElem? (i := 25) rfl))) (host := "") Via.refl C d9_6 9 rfl ?_
  intro T3 X4
  refine g_ishr X4 d9_9 (Int32.ofNat cap) (shr0 _) 10 rfl ?_
  refine g_istoreN X4 d9_10 (Ls' := #[.val (.ref a), .val (.int (Int32.ofNat k)), .val (.int (Int32.ofNat cap))]) rfl 11 rfl ?_
  refine g_iloadN X4 d9_11 rfl 12 rfl ?_
  refine g_iloadN X4 d9_12 rfl 13 rfl ?_
  refine g_isub X4 d9_13 _ rfl 14 rfl ?_
  refine g_ifYes X4 d9_14 (XT.ii_le_t (sub_le hk hcap)) 38 (by decide) (by decide) ?_
  exact g_ret X4 rfl d9_38 (by decide) (by decide) ⟨rfl, rfl⟩
theorem d11_0 : decode jdk_68_method_71_code 0 = .ok (.getstatic 18, 3) := by decide +kernel
theorem d11_3 : decode jdk_68_method_71_code 3 = .ok (.ifCond .eq 18, 3) := by decide +kernel
theorem d11_6 : decode jdk_68_method_71_code 6 = .ok (.aload_n 0, 1) := by decide +kernel
theorem d11_7 : decode jdk_68_method_71_code 7 = .ok (.getfield 22, 3) := by decide +kernel
theorem d11_10 : decode jdk_68_method_71_code 10 = .ok (.aload_n 1, 1) := by decide +kernel
theorem d11_11 : decode jdk_68_method_71_code 11 = .ok (.invokevirtual 40, 3) := by decide +kernel
theorem d11_14 : decode jdk_68_method_71_code 14 = .ok (.if_icmp .eq 7, 3) := by decide +kernel
theorem d11_17 : decode jdk_68_method_71_code 17 = .ok (.aload_n 0, 1) := by decide +kernel
theorem d11_18 : decode jdk_68_method_71_code 18 = .ok (.invokevirtual 195, 3) := by decide +kernel
theorem d11_21 : decode jdk_68_method_71_code 21 = .ok (.return_, 1) := by decide +kernel
set_option maxRecDepth 65536 in
set_option maxHeartbeats 40000000 in
theorem c_inf (l : Launch) (Z : State) (a0 : Array Value) (G : Gl Z a0) (a u : Addr) (h : Heap) (C : Fld Z h a "java/lang/AbstractStringBuilder" "coder" "B" (.int (0 : Int32))) (Eu : Exa Z h u "java/lang/String") (Cu : Fld Z h u "java/lang/String" "coder" "B" (.int (0 : Int32))) :
    Ctr l Z EL nw (⟨"java/lang/AbstractStringBuilder", "inflateIfNeededFor", "(Ljava/lang/String;)V"⟩ : MethodName) jdk_68_method_71_code 2 (Option.none : Option Jvm.ClassFile.FieldType) ({ frames := 1, cells := 0, slots := 0, locals := 13 } : Room) #[.ref a, .ref u] h [] (VoidQ fun h' => h = h') := by
  obtain ⟨hw, hEL, hSA, ⟨zc, SC, hz⟩, ⟨fm, SF, hfm⟩, ⟨d1, kd1, SD1, AD1⟩, ⟨d2, kd2, SD2, AD2⟩⟩ := id G
  refine Ctr.enter (own := "java/lang/AbstractStringBuilder") (nm := "inflateIfNeededFor") rfl rfl hEL (plainFor_of_name pn_3) #[.val (.ref a), .val (.ref u)] (fun m => by first | rfl | (simp [entryFrame, mkF, argsToLocals, Value.category, maxLocals]; done)) ?_
  intro p e s m below meth c T X
  refine g_getS X (Or.inl (hw _ (List.mem_of_getElem? (i := 20) rfl))) (host := "") Via.refl (SC.ext X.old) d11_0 3 rfl ?_
  intro T1 X2
  refine g_ifNo X2 d11_3 (XT.ii_eq_f hz) 6 rfl ?_
  refine g_aloadN X2 d11_6 rfl rfl 7 rfl ?_
  refine g_getF X2 (Or.inl (hw _ (List.mem_of_getElem? (i := 25) rfl))) (host := "") Via.refl C d11_7 10 rfl ?_
  intro T3 X4
  refine g_aloadN X4 d11_10 rfl rfl 11 rfl ?_
  refine g_callVp X4 (hw _ (List.mem_of_getElem? (i := 73) rfl)) (hw _ (List.mem_of_getElem? (i := 50) rfl)) (hw _ (List.mem_of_getElem? (i := 52) rfl)) (hw _ (List.mem_of_getElem? (i := 51) rfl)) (hw _ (List.mem_of_getElem? (i := 21) rfl)) (hw _ (List.mem_of_getElem? (i := 53) rfl)) (nfSel (hw _ (List.mem_of_getElem? (i := 52) rfl))) (by decide) Eu (c_cod l Z a0 G u h Cu) (by simp) (argsL := []) (rest := [.int (0 : Int32)]) pd_7 rfl rfl rfl rfl 1 (Nat.le_of_eq rfl) (by decide) (by decide) (ck := 0) rfl (cs := 0) rfl (by decide) (by decide) d11_11 14 rfl ?_
  intro w7 T5 X6 hq8
  subst hq8
  refine g_icmpYes X6 d11_14 (XT.ii_eq_t (by decide)) 21 (by decide) (by decide) ?_
  exact g_ret X6 rfl d11_21 (by decide) (by decide) ⟨rfl, rfl⟩
theorem d12_0 : decode jdk_42_method_147_code 0 = .ok (.aload_n 0, 1) := by decide +kernel
theorem d12_1 : decode jdk_42_method_147_code 1 = .ok (.invokevirtual 335, 3) := by decide +kernel
theorem d12_4 : decode jdk_42_method_147_code 4 = .ok (.iload_n 3, 1) := by decide +kernel
theorem d12_5 : decode jdk_42_method_147_code 5 = .ok (.if_icmp .ne 23, 3) := by decide +kernel
theorem d12_8 : decode jdk_42_method_147_code 8 = .ok (.aload_n 0, 1) := by decide +kernel
theorem d12_9 : decode jdk_42_method_147_code 9 = .ok (.getfield 9, 3) := by decide +kernel
theorem d12_12 : decode jdk_42_method_147_code 12 = .ok (.iconst 0, 1) := by decide +kernel
theorem d12_13 : decode jdk_42_method_147_code 13 = .ok (.aload_n 1, 1) := by decide +kernel
theorem d12_14 : decode jdk_42_method_147_code 14 = .ok (.iload_n 2, 1) := by decide +kernel
theorem d12_15 : decode jdk_42_method_147_code 15 = .ok (.iload_n 3, 1) := by decide +kernel
theorem d12_16 : decode jdk_42_method_147_code 16 = .ok (.ishl, 1) := by decide +kernel
theorem d12_17 : decode jdk_42_method_147_code 17 = .ok (.aload_n 0, 1) := by decide +kernel
theorem d12_18 : decode jdk_42_method_147_code 18 = .ok (.getfield 9, 3) := by decide +kernel
theorem d12_21 : decode jdk_42_method_147_code 21 = .ok (.arraylength, 1) := by decide +kernel
theorem d12_22 : decode jdk_42_method_147_code 22 = .ok (.invokestatic 212, 3) := by decide +kernel
theorem d12_25 : decode jdk_42_method_147_code 25 = .ok (.goto 18, 3) := by decide +kernel
theorem d12_28 : decode jdk_42_method_147_code 28 = .ok (.aload_n 0, 1) := by decide +kernel
theorem d12_29 : decode jdk_42_method_147_code 29 = .ok (.getfield 9, 3) := by decide +kernel
theorem d12_32 : decode jdk_42_method_147_code 32 = .ok (.iconst 0, 1) := by decide +kernel
theorem d12_33 : decode jdk_42_method_147_code 33 = .ok (.aload_n 1, 1) := by decide +kernel
theorem d12_34 : decode jdk_42_method_147_code 34 = .ok (.iload_n 2, 1) := by decide +kernel
theorem d12_35 : decode jdk_42_method_147_code 35 = .ok (.aload_n 0, 1) := by decide +kernel
theorem d12_36 : decode jdk_42_method_147_code 36 = .ok (.getfield 9, 3) := by decide +kernel
theorem d12_39 : decode jdk_42_method_147_code 39 = .ok (.arraylength, 1) := by decide +kernel
theorem d12_40 : decode jdk_42_method_147_code 40 = .ok (.invokestatic 106, 3) := by decide +kernel
theorem d12_43 : decode jdk_42_method_147_code 43 = .ok (.return_, 1) := by decide +kernel
set_option maxRecDepth 65536 in
set_option maxHeartbeats 40000000 in
theorem c_gb (l : Launch) (Z : State) (a0 : Array Value) (G : Gl Z a0) (u t b : Addr) (kt kb : ClassId) (cap : Nat) (cs ds : List Int32) (h : Heap) (Eu : Exa Z h u "java/lang/String") (Cu : Fld Z h u "java/lang/String" "coder" "B" (.int (0 : Int32))) (Vu : Fld Z h u "java/lang/String" "value" "[B" (.ref t)) (At : Arv Z h t kt .byte (Int32.ofNat ds.length) (bys ds) (.int (0 : Int32))) (hds : ∀ c ∈ ds, ¬ c < 0 ∧ ¬ (255 : Int32) < c) (hdl : ds.length ≤ 4000) (A : Arv Z h b kb .byte (Int32.ofNat cap) (padB cap cs) (.int (0 : Int32))) (hfit : cs.length + ds.length ≤ cap) (hcap : cap ≤ 4000) :
    Ctr l Z EL nw (⟨"java/lang/String", "getBytes", "([BIB)V"⟩ : MethodName) jdk_42_method_147_code 4 (Option.none : Option Jvm.ClassFile.FieldType) ({ frames := 1, cells := 0, slots := 0, locals := 18 } : Room) #[.ref u, .ref b, .int (Int32.ofNat cs.length), .int (0 : Int32)] h [b] (VoidQ fun h' => Keep h h' [b] ∧ Arv Z h' b kb .byte (Int32.ofNat cap) (padB cap (cs ++ ds)) (.int (0 : Int32))) := by
  obtain ⟨hw, hEL, hSA, ⟨zc, SC, hz⟩, ⟨fm, SF, hfm⟩, ⟨d1, kd1, SD1, AD1⟩, ⟨d2, kd2, SD2, AD2⟩⟩ := id G
  refine Ctr.enter (own := "java/lang/String") (nm := "getBytes") rfl rfl hEL (plainFor_of_name pn_0) #[.val (.ref u), .val (.ref b), .val (.int (Int32.ofNat cs.length)), .val (.int (0 : Int32))] (fun m => by first | rfl | (simp [entryFrame, mkF, argsToLocals, Value.category, maxLocals]; done)) ?_
  intro p e s m below meth c T X
  refine g_aloadN X d12_0 rfl rfl 1 rfl ?_
  refine g_callVp X (hw _ (List.mem_of_getElem? (i := 49) rfl)) (hw _ (List.mem_of_getElem? (i := 50) rfl)) (hw _ (List.mem_of_getElem? (i := 52) rfl)) (hw _ (List.mem_of_getElem? (i := 51) rfl)) (hw _ (List.mem_of_getElem? (i := 21) rfl)) (hw _ (List.mem_of_getElem? (i := 53) rfl)) (nfSel (hw _ (List.mem_of_getElem? (i := 52) rfl))) (by decide) Eu (c_cod l Z a0 G u h Cu) (by simp) (argsL := []) (rest := []) pd_7 rfl rfl rfl rfl 0 (Nat.le_of_eq rfl) (by decide) (by decide) (ck := 0) rfl (cs := 0) rfl (by decide) (by decide) d12_1 4 rfl ?_
  intro w3 T1 X2 hq4
  subst hq4
  refine g_iloadN X2 d12_4 rfl 5 rfl ?_
  refine g_icmpNo X2 d12_5 (XT.ii_ne_f (by decide)) 8 rfl ?_
  refine g_aloadN X2 d12_8 rfl rfl 9 rfl ?_
  refine g_getF X2 (Or.inl (hw _ (List.mem_of_getElem? (i := 48) rfl))) (host := "") Via.refl Vu d12_9 12 rfl ?_
  intro T5 X6
  refine g_iconst X6 (0 : Int32) d12_12 (by decide) 13 rfl ?_
  refine g_aloadN X6 d12_13 rfl rfl 14 rfl ?_
  refine g_iloadN X6 d12_14 rfl 15 rfl ?_
  refine g_iloadN X6 d12_15 rfl 16 rfl ?_
  refine g_ishl X6 d12_16 (Int32.ofNat cs.length) (shl0 _) 17 rfl ?_
  refine g_aloadN X6 d12_17 rfl rfl 18 rfl ?_
  refine g_getF X6 (Or.inl (hw _ (List.mem_of_getElem? (i := 48) rfl))) (host := "") Via.refl Vu d12_18 21 rfl ?_
  intro T7 X8
  refine g_arrlen X8 At d12_21 22 rfl ?_
  refine g_arrcopy X8 (hw _ (List.mem_of_getElem? (i := 79) rfl)) (hw _ (List.mem_of_getElem? (i := 82) rfl)) (hw _ (List.mem_of_getElem? (i := 80) rfl)) (hw _ (List.mem_of_getElem? (i := 81) rfl)) At A rfl (by decide) (of_nn (by omega)) (of_nn (by omega)) (by rw [clamp0, of_nat (by omega)]; omega) (by rw [of_nat (by omega), of_nat (by omega), of_nat hcap]; omega) (by rw [of_nat (by omega), of_nat (by omega), padB_len (by omega)]; omega) (padB cap (cs ++ ds)) (pad_put hfit hcap) (by simp) rfl d12_22 (by decide) 0 (Nat.le_of_eq rfl) (by decide) 25 rfl ?_
  intro T9 h10 X11 K12 A13
  refine g_goto X11 d12_25 43 (by decide) (by decide) ?_
  exact g_ret X11 rfl d12_43 (by decide) (by decide) ⟨rfl, ⟨K12, A13⟩⟩
theorem d10_0 : decode jdk_68_method_73_code 0 = .ok (.aload_n 0, 1) := by decide +kernel
theorem d10_1 : decode jdk_68_method_73_code 1 = .ok (.aload_n 2, 1) := by decide +kernel
theorem d10_2 : decode jdk_68_method_73_code 2 = .ok (.invokevirtual 397, 3) := by decide +kernel
theorem d10_5 : decode jdk_68_method_73_code 5 = .ok (.aload_n 2, 1) := by decide +kernel
theorem d10_6 : decode jdk_68_method_73_code 6 = .ok (.aload_n 0, 1) := by decide +kernel
theorem d10_7 : decode jdk_68_method_73_code 7 = .ok (.getfield 15, 3) := by decide +kernel
theorem d10_10 : decode jdk_68_method_73_code 10 = .ok (.iload_n 1, 1) := by decide +kernel
theorem d10_11 : decode jdk_68_method_73_code 11 = .ok (.aload_n 0, 1) := by decide +kernel
theorem d10_12 : decode jdk_68_method_73_code 12 = .ok (.getfield 22, 3) := by decide +kernel
theorem d10_15 : decode jdk_68_method_73_code 15 = .ok (.invokevirtual 399, 3) := by decide +kernel
theorem d10_18 : decode jdk_68_method_73_code 18 = .ok (.return_, 1) := by decide +kernel
set_option maxRecDepth 65536 in
set_option maxHeartbeats 40000000 in
theorem c_psa (l : Launch) (Z : State) (a0 : Array Value) (G : Gl Z a0) (a u t b : Addr) (kt kb : ClassId) (cap : Nat) (cs ds : List Int32) (h : Heap) (E : Exa Z h a "java/lang/StringBuilder") (C : Fld Z h a "java/lang/AbstractStringBuilder" "coder" "B" (.int (0 : Int32))) (V : Fld Z h a "java/lang/AbstractStringBuilder" "value" "[B" (.ref b)) (Eu : Exa Z h u "java/lang/String") (Cu : Fld Z h u "java/lang/String" "coder" "B" (.int (0 : Int32))) (Vu : Fld Z h u "java/lang/String" "value" "[B" (.ref t)) (At : Arv Z h t kt .byte (Int32.ofNat ds.length) (bys ds) (.int (0 : Int32))) (hds : ∀ c ∈ ds, ¬ c < 0 ∧ ¬ (255 : Int32) < c) (hdl : ds.length ≤ 4000) (A : Arv Z h b kb .byte (Int32.ofNat cap) (padB cap cs) (.int (0 : Int32))) (hfit : cs.length + ds.length ≤ cap) (hcap : cap ≤ 4000) :
    Ctr l Z EL nw (⟨"java/lang/AbstractStringBuilder", "putStringAt", "(ILjava/lang/String;)V"⟩ : MethodName) jdk_68_method_73_code 3 (Option.none : Option Jvm.ClassFile.FieldType) ({ frames := 2, cells := 0, slots := 0, locals := 33 } : Room) #[.ref a, .int (Int32.ofNat cs.length), .ref u] h [b] (VoidQ fun h' => Keep h h' [b] ∧ Arv Z h' b kb .byte (Int32.ofNat cap) (padB cap (cs ++ ds)) (.int (0 : Int32))) := by
  obtain ⟨hw, hEL, hSA, ⟨zc, SC, hz⟩, ⟨fm, SF, hfm⟩, ⟨d1, kd1, SD1, AD1⟩, ⟨d2, kd2, SD2, AD2⟩⟩ := id G
  refine Ctr.enter (own := "java/lang/AbstractStringBuilder") (nm := "putStringAt") rfl rfl hEL (plainFor_of_name pn_3) #[.val (.ref a), .val (.int (Int32.ofNat cs.length)), .val (.ref u)] (fun m => by first | rfl | (simp [entryFrame, mkF, argsToLocals, Value.category, maxLocals]; done)) ?_
  intro p e s m below meth c T X
  refine g_aloadN X d10_0 rfl rfl 1 rfl ?_
  refine g_aloadN X d10_1 rfl rfl 2 rfl ?_
  refine g_callVn X (hw _ (List.mem_of_getElem? (i := 68) rfl)) (own_declares (hw _ (List.mem_of_getElem? (i := 69) rfl)) (hw _ (List.mem_of_getElem? (i := 72) rfl))) (hw _ (List.mem_of_getElem? (i := 71) rfl)) (hw _ (List.mem_of_getElem? (i := 69) rfl)) (hw _ (List.mem_of_getElem? (i := 15) rfl)) (hw _ (List.mem_of_getElem? (i := 72) rfl)) (nfSel (hw _ (List.mem_of_getElem? (i := 71) rfl))) (by decide) E (c_inf l Z a0 G a u h C Eu Cu) (by simp) (argsL := [.ref u]) (rest := []) pd_19 rfl rfl rfl rfl 0 (Nat.le_of_eq rfl) (by decide) (by decide) (ck := 0) rfl (cs := 0) rfl (by decide) (by decide) d10_2 5 rfl ?_
  intro T1 h4 X2 hq3
  subst hq3
  refine g_aloadN X2 d10_5 rfl rfl 6 rfl ?_
  refine g_aloadN X2 d10_6 rfl rfl 7 rfl ?_
  refine g_getF X2 (Or.inl (hw _ (List.mem_of_getElem? (i := 23) rfl))) (host := "") Via.refl V d10_7 10 rfl ?_
  intro T5 X6
  refine g_iloadN X6 d10_10 rfl 11 rfl ?_
  refine g_aloadN X6 d10_11 rfl rfl 12 rfl ?_
  refine g_getF X6 (Or.inl (hw _ (List.mem_of_getElem? (i := 25) rfl))) (host := "") Via.refl C d10_12 15 rfl ?_
  intro T7 X8
  refine g_callVn X8 (hw _ (List.mem_of_getElem? (i := 74) rfl)) (hw _ (List.mem_of_getElem? (i := 75) rfl)) (hw _ (List.mem_of_getElem? (i := 77) rfl)) (hw _ (List.mem_of_getElem? (i := 76) rfl)) (hw _ (List.mem_of_getElem? (i := 21) rfl)) (hw _ (List.mem_of_getElem? (i := 78) rfl)) (nfSel (hw _ (List.mem_of_getElem? (i := 77) rfl))) (by decide) Eu (c_gb l Z a0 G u t b kt kb cap cs ds h Eu Cu Vu At hds hdl A hfit hcap) (by simp) (argsL := [.ref b, .int (Int32.ofNat cs.length), .int (0 : Int32)]) (rest := []) pd_20 rfl rfl rfl rfl 0 (Nat.le_of_eq rfl) (by decide) (by decide) (ck := 0) rfl (cs := 0) rfl (by decide) (by decide) d10_15 18 rfl ?_
  intro T9 h12 X10 hq11
  exact g_ret X10 rfl d10_18 (by decide) (by decide) ⟨rfl, hq11⟩
theorem d6_0 : decode jdk_68_method_22_code 0 = .ok (.aload_n 1, 1) := by decide +kernel
theorem d6_1 : decode jdk_68_method_22_code 1 = .ok (.ifnonnull 8, 3) := by decide +kernel
theorem d6_4 : decode jdk_68_method_22_code 4 = .ok (.aload_n 0, 1) := by decide +kernel
theorem d6_5 : decode jdk_68_method_22_code 5 = .ok (.invokevirtual 204, 3) := by decide +kernel
theorem d6_8 : decode jdk_68_method_22_code 8 = .ok (.areturn, 1) := by decide +kernel
theorem d6_9 : decode jdk_68_method_22_code 9 = .ok (.aload_n 1, 1) := by decide +kernel
theorem d6_10 : decode jdk_68_method_22_code 10 = .ok (.invokevirtual 32, 3) := by decide +kernel
theorem d6_13 : decode jdk_68_method_22_code 13 = .ok (.istore_n 2, 1) := by decide +kernel
theorem d6_14 : decode jdk_68_method_22_code 14 = .ok (.aload_n 0, 1) := by decide +kernel
theorem d6_15 : decode jdk_68_method_22_code 15 = .ok (.aload_n 0, 1) := by decide +kernel
theorem d6_16 : decode jdk_68_method_22_code 16 = .ok (.getfield 79, 3) := by decide +kernel
theorem d6_19 : decode jdk_68_method_22_code 19 = .ok (.iload_n 2, 1) := by decide +kernel
theorem d6_20 : decode jdk_68_method_22_code 20 = .ok (.iadd, 1) := by decide +kernel
theorem d6_21 : decode jdk_68_method_22_code 21 = .ok (.invokevirtual 100, 3) := by decide +kernel
theorem d6_24 : decode jdk_68_method_22_code 24 = .ok (.aload_n 0, 1) := by decide +kernel
theorem d6_25 : decode jdk_68_method_22_code 25 = .ok (.aload_n 0, 1) := by decide +kernel
theorem d6_26 : decode jdk_68_method_22_code 26 = .ok (.getfield 79, 3) := by decide +kernel
theorem d6_29 : decode jdk_68_method_22_code 29 = .ok (.aload_n 1, 1) := by decide +kernel
theorem d6_30 : decode jdk_68_method_22_code 30 = .ok (.invokevirtual 208, 3) := by decide +kernel
theorem d6_33 : decode jdk_68_method_22_code 33 = .ok (.aload_n 0, 1) := by decide +kernel
theorem d6_34 : decode jdk_68_method_22_code 34 = .ok (.dup, 1) := by decide +kernel
theorem d6_35 : decode jdk_68_method_22_code 35 = .ok (.getfield 79, 3) := by decide +kernel
theorem d6_38 : decode jdk_68_method_22_code 38 = .ok (.iload_n 2, 1) := by decide +kernel
theorem d6_39 : decode jdk_68_method_22_code 39 = .ok (.iadd, 1) := by decide +kernel
theorem d6_40 : decode jdk_68_method_22_code 40 = .ok (.putfield 79, 3) := by decide +kernel
theorem d6_43 : decode jdk_68_method_22_code 43 = .ok (.aload_n 0, 1) := by decide +kernel
theorem d6_44 : decode jdk_68_method_22_code 44 = .ok (.areturn, 1) := by decide +kernel
set_option maxRecDepth 65536 in
set_option maxHeartbeats 40000000 in
theorem c_asa (l : Launch) (Z : State) (a0 : Array Value) (G : Gl Z a0) (a u t b : Addr) (kt kb : ClassId) (cap : Nat) (cs ds : List Int32) (h : Heap) (S : Sb Z h a b kb cap cs) (Eu : Exa Z h u "java/lang/String") (Cu : Fld Z h u "java/lang/String" "coder" "B" (.int (0 : Int32))) (Vu : Fld Z h u "java/lang/String" "value" "[B" (.ref t)) (At : Arv Z h t kt .byte (Int32.ofNat ds.length) (bys ds) (.int (0 : Int32))) (hds : ∀ c ∈ ds, ¬ c < 0 ∧ ¬ (255 : Int32) < c) (hdl : ds.length ≤ 4000) (hfit : cs.length + ds.length ≤ cap) :
    Ctr l Z EL nw (⟨"java/lang/AbstractStringBuilder", "append", "(Ljava/lang/String;)Ljava/lang/AbstractStringBuilder;"⟩ : MethodName) jdk_68_method_22_code 3 (Option.some (Jvm.ClassFile.FieldType.object "java/lang/AbstractStringBuilder")) ({ frames := 3, cells := 0, slots := 0, locals := 47 } : Room) #[.ref a, .ref u] h [a, b] (ValQ fun w h' => w = .ref a ∧ Keep h h' [a, b] ∧ Sb Z h' a b kb cap (cs ++ ds)) := by
  obtain ⟨hw, hEL, hSA, ⟨zc, SC, hz⟩, ⟨fm, SF, hfm⟩, ⟨d1, kd1, SD1, AD1⟩, ⟨d2, kd2, SD2, AD2⟩⟩ := id G
  refine Ctr.enter (own := "java/lang/AbstractStringBuilder") (nm := "append") rfl rfl hEL (plainFor_of_name pn_3) #[.val (.ref a), .val (.ref u), .unset] (fun m => by first | rfl | (simp [entryFrame, mkF, argsToLocals, Value.category, maxLocals]; done)) ?_
  intro p e s m below meth c T X
  obtain ⟨E, C, N, V, A, hcs, hlen, hcap, hab⟩ := id S
  refine g_aloadN X d6_0 rfl rfl 1 rfl ?_
  refine g_ifnonnullYes X d6_1 9 (by decide) (by decide) ?_
  refine g_aloadN X d6_9 rfl rfl 10 rfl ?_
  refine g_callVp X (hw _ (List.mem_of_getElem? (i := 43) rfl)) (hw _ (List.mem_of_getElem? (i := 44) rfl)) (hw _ (List.mem_of_getElem? (i := 46) rfl)) (hw _ (List.mem_of_getElem? (i := 45) rfl)) (hw _ (List.mem_of_getElem? (i := 21) rfl)) (hw _ (List.mem_of_getElem? (i := 47) rfl)) (nfSel (hw _ (List.mem_of_getElem? (i := 46) rfl))) (by decide) Eu (c_len l Z a0 G u t kt ds h Eu Cu Vu At hds hdl) (by simp) (argsL := []) (rest := []) pd_6 rfl rfl rfl rfl 0 (Nat.le_of_eq rfl) (by decide) (by decide) (ck := 0) rfl (cs := 0) rfl (by decide) (by decide) d6_10 13 rfl ?_
  intro w3 T1 X2 hq4
  subst hq4
  refine g_istoreN X2 d6_13 (Ls' := #[.val (.ref a), .val (.ref u), .val (.int (Int32.ofNat ds.length))]) rfl 14 rfl ?_
  refine g_aloadN X2 d6_14 rfl rfl 15 rfl ?_
  refine g_aloadN X2 d6_15 rfl rfl 16 rfl ?_
  refine g_getF X2 (Or.inl (hw _ (List.mem_of_getElem? (i := 56) rfl))) (host := "") Via.refl N d6_16 19 rfl ?_
  intro T5 X6
  refine g_iloadN X6 d6_19 rfl 20 rfl ?_
  refine g_iadd X6 d6_20 (Int32.ofNat (cs.length + ds.length)) (of_add _ _) 21 rfl ?_
  refine g_callVn X6 (hw _ (List.mem_of_getElem? (i := 58) rfl)) (own_declares (hw _ (List.mem_of_getElem? (i := 59) rfl)) (hw _ (List.mem_of_getElem? (i := 62) rfl))) (hw _ (List.mem_of_getElem? (i := 61) rfl)) (hw _ (List.mem_of_getElem? (i := 59) rfl)) (hw _ (List.mem_of_getElem? (i := 15) rfl)) (hw _ (List.mem_of_getElem? (i := 62) rfl)) (nfSel (hw _ (List.mem_of_getElem? (i := 61) rfl))) (by decide) E (c_eci l Z a0 G a b kb cap (cs.length + ds.length) _ h C V A hfit hcap) (by simp) (argsL := [.int (Int32.ofNat (cs.length + ds.length))]) (rest := []) pd_15 rfl rfl rfl rfl 0 (Nat.le_of_eq rfl) (by decide) (by decide) (ck := 0) rfl (cs := 0) rfl (by decide) (by decide) d6_21 24 rfl ?_
  intro T7 h10 X8 hq9
  subst hq9
  refine g_aloadN X8 d6_24 rfl rfl 25 rfl ?_
  refine g_aloadN X8 d6_25 rfl rfl 26 rfl ?_
  refine g_getF X8 (Or.inl (hw _ (List.mem_of_getElem? (i := 56) rfl))) (host := "") Via.refl N d6_26 29 rfl ?_
  intro T11 X12
  refine g_aloadN X12 d6_29 rfl rfl 30 rfl ?_
  refine g_callVn X12 (hw _ (List.mem_of_getElem? (i := 63) rfl)) (own_declares (hw _ (List.mem_of_getElem? (i := 64) rfl)) (hw _ (List.mem_of_getElem? (i := 67) rfl))) (hw _ (List.mem_of_getElem? (i := 66) rfl)) (hw _ (List.mem_of_getElem? (i := 64) rfl)) (hw _ (List.mem_of_getElem? (i := 15) rfl)) (hw _ (List.mem_of_getElem? (i := 67) rfl)) (nfSel (hw _ (List.mem_of_getElem? (i := 66) rfl))) (by decide) E (c_psa l Z a0 G a u t b kt kb cap cs ds h E C V Eu Cu Vu At hds hdl A hfit hcap) (by simp) (argsL := [.int (Int32.ofNat cs.length), .ref u]) (rest := []) pd_18 rfl rfl rfl rfl 0 (Nat.le_of_eq rfl) (by decide) (by decide) (ck := 0) rfl (cs := 0) rfl (by decide) (by decide) d6_30 33 rfl ?_
  intro T13 h16 X14 hq15
  obtain ⟨K17, A18⟩ := hq15
  refine g_aloadN X14 d6_33 rfl rfl 34 rfl ?_
  refine g_dup X14 d6_34 rfl 35 rfl ?_
  refine g_getF X14 (Or.inl (hw _ (List.mem_of_getElem? (i := 56) rfl))) (host := "") Via.refl (N.keep K17 (ninS hab nin0)) d6_35 38 rfl ?_
  intro T19 X20
  refine g_iloadN X20 d6_38 rfl 39 rfl ?_
  refine g_iadd X20 d6_39 (Int32.ofNat (cs.length + ds.length)) (of_add _ _) 40 rfl ?_
  refine g_putF X20 (Or.inl (hw _ (List.mem_of_getElem? (i := 56) rfl))) (host := "") Via.refl (N.keep K17 (ninS hab nin0)) (E.keep K17) (Or.inl (hw _ (List.mem_of_getElem? (i := 57) rfl))) (hw _ (List.mem_of_getElem? (i := 6) rfl)) (ty := .int) (by rfl) rfl rfl (by simp) d6_40 43 rfl ?_
  intro T21 h22 X23 W24 F25 E26
  refine g_aloadN X23 d6_43 rfl rfl 44 rfl ?_
  exact g_retA X23 rfl rfl rfl d6_44 (by decide) (by decide) ⟨_, rfl, ⟨rfl, (((Keep.refl h [a, b]).trans K17 (by simp)).wr W24 (Or.inl (by simp))), E26, ((C.keep K17 (ninS hab nin0)).other W24 (Or.inr (slot_ne (Or.inl (hw _ (List.mem_of_getElem? (i := 26) rfl))) (Or.inl (hw _ (List.mem_of_getElem? (i := 57) rfl))) (by decide) (by rfl) (by rfl)))), (by rw [List.length_append]; exact F25), ((V.keep K17 (ninS hab nin0)).other W24 (Or.inr (slot_ne (Or.inl (hw _ (List.mem_of_getElem? (i := 24) rfl))) (Or.inl (hw _ (List.mem_of_getElem? (i := 57) rfl))) (by decide) (by rfl) (by rfl)))), (A18.other W24 (Ne.symm hab)), ok_app hcs hds, (by rw [List.length_append]; exact hfit), hcap, hab⟩⟩
theorem d5_0 : decode jdk_67_method_7_code 0 = .ok (.aload_n 0, 1) := by decide +kernel
theorem d5_1 : decode jdk_67_method_7_code 1 = .ok (.aload_n 1, 1) := by decide +kernel
theorem d5_2 : decode jdk_67_method_7_code 2 = .ok (.invokespecial 29, 3) := by decide +kernel
theorem d5_5 : decode jdk_67_method_7_code 5 = .ok (.pop, 1) := by decide +kernel
theorem d5_6 : decode jdk_67_method_7_code 6 = .ok (.aload_n 0, 1) := by decide +kernel
theorem d5_7 : decode jdk_67_method_7_code 7 = .ok (.areturn, 1) := by decide +kernel
set_option maxRecDepth 65536 in
set_option maxHeartbeats 40000000 in
theorem c_sba (l : Launch) (Z : State) (a0 : Array Value) (G : Gl Z a0) (a u t b : Addr) (kt kb : ClassId) (cap : Nat) (cs ds : List Int32) (h : Heap) (S : Sb Z h a b kb cap cs) (Eu : Exa Z h u "java/lang/String") (Cu : Fld Z h u "java/lang/String" "coder" "B" (.int (0 : Int32))) (Vu : Fld Z h u "java/lang/String" "value" "[B" (.ref t)) (At : Arv Z h t kt .byte (Int32.ofNat ds.length) (bys ds) (.int (0 : Int32))) (hds : ∀ c ∈ ds, ¬ c < 0 ∧ ¬ (255 : Int32) < c) (hdl : ds.length ≤ 4000) (hfit : cs.length + ds.length ≤ cap) :
    Ctr l Z EL nw (⟨"java/lang/StringBuilder", "append", "(Ljava/lang/String;)Ljava/lang/StringBuilder;"⟩ : MethodName) jdk_67_method_7_code 2 (Option.some (Jvm.ClassFile.FieldType.object "java/lang/StringBuilder")) ({ frames := 4, cells := 0, slots := 0, locals := 61 } : Room) #[.ref a, .ref u] h [a, b] (ValQ fun w h' => w = .ref a ∧ Keep h h' [a, b] ∧ Sb Z h' a b kb cap (cs ++ ds)) := by
  obtain ⟨hw, hEL, hSA, ⟨zc, SC, hz⟩, ⟨fm, SF, hfm⟩, ⟨d1, kd1, SD1, AD1⟩, ⟨d2, kd2, SD2, AD2⟩⟩ := id G
  refine Ctr.enter (own := "java/lang/StringBuilder") (nm := "append") rfl rfl hEL (plainFor_of_name pn_4) #[.val (.ref a), .val (.ref u)] (fun m => by first | rfl | (simp [entryFrame, mkF, argsToLocals, Value.category, maxLocals]; done)) ?_
  intro p e s m below meth c T X
  refine g_aloadN X d5_0 rfl rfl 1 rfl ?_
  refine g_aloadN X d5_1 rfl rfl 2 rfl ?_
  refine g_callUv X (by decide) (hw _ (List.mem_of_getElem? (i := 38) rfl)) (own_same (hw _ (List.mem_of_getElem? (i := 39) rfl)) (hw _ (List.mem_of_getElem? (i := 61) rfl)) rfl (by decide)) (hw _ (List.mem_of_getElem? (i := 39) rfl)) (hw _ (List.mem_of_getElem? (i := 40) rfl)) (hw _ (List.mem_of_getElem? (i := 15) rfl)) (hw _ (List.mem_of_getElem? (i := 42) rfl)) S.1 (c_asa l Z a0 G a u t b kt kb cap cs ds h S Eu Cu Vu At hds hdl hfit) (by simp) (argsL := [.ref u]) (rest := []) pd_17 rfl rfl rfl rfl 0 (Nat.le_of_eq rfl) (by decide) (by decide) (ck := 0) rfl (cs := 0) rfl (by decide) (by decide) d5_2 5 rfl ?_
  intro w3 T1 h5 X2 hq4
  obtain ⟨rfl, hK, hS⟩ := hq4
  refine g_pop X2 d5_5 rfl 6 rfl ?_
  refine g_aloadN X2 d5_6 rfl rfl 7 rfl ?_
  exact g_retA X2 rfl rfl rfl d5_7 (by decide) (by decide) ⟨_, rfl, ⟨rfl, hK, hS⟩⟩
theorem d22_0 : decode jdk_68_method_64_code 0 = .ok (.aload_n 0, 1) := by decide +kernel
theorem d22_1 : decode jdk_68_method_64_code 1 = .ok (.getfield 15, 3) := by decide +kernel
theorem d22_4 : decode jdk_68_method_64_code 4 = .ok (.areturn, 1) := by decide +kernel
set_option maxRecDepth 65536 in
set_option maxHeartbeats 40000000 in
theorem c_gv (l : Launch) (Z : State) (a0 : Array Value) (G : Gl Z a0) (a b : Addr) (h : Heap) (V : Fld Z h a "java/lang/AbstractStringBuilder" "value" "[B" (.ref b)) :
    Ctr l Z EL nw (⟨"java/lang/AbstractStringBuilder", "getValue", "()[B"⟩ : MethodName) jdk_68_method_64_code 1 (Option.some (Jvm.ClassFile.FieldType.array Jvm.ClassFile.FieldType.byte)) ({ frames := 0, cells := 0, slots := 0, locals := 0 } : Room) #[.ref a] h [] (PureQ h fun w => w = .ref b) := by
  obtain ⟨hw, hEL, hSA, ⟨zc, SC, hz⟩, ⟨fm, SF, hfm⟩, ⟨d1, kd1, SD1, AD1⟩, ⟨d2, kd2, SD2, AD2⟩⟩ := id G
  refine Ctr.enter (own := "java/lang/AbstractStringBuilder") (nm := "getValue") rfl rfl hEL (plainFor_of_name pn_3) #[.val (.ref a)] (fun m => by first | rfl | (simp [entryFrame, mkF, argsToLocals, Value.category, maxLocals]; done)) ?_
  intro p e s m below meth c T X
  refine g_aloadN X d22_0 rfl rfl 1 rfl ?_
  refine g_getF X (Or.inl (hw _ (List.mem_of_getElem? (i := 23) rfl))) (host := "") Via.refl V d22_1 4 rfl ?_
  intro T1 X2
  exact g_retA X2 rfl rfl rfl d22_4 (by decide) (by decide) ⟨rfl, _, rfl, rfl⟩
theorem d24_0 : decode jdk_68_method_6_code 0 = .ok (.aload_n 0, 1) := by decide +kernel
theorem d24_1 : decode jdk_68_method_6_code 1 = .ok (.getfield 79, 3) := by decide +kernel
theorem d24_4 : decode jdk_68_method_6_code 4 = .ok (.ireturn, 1) := by decide +kernel
set_option maxRecDepth 65536 in
set_option maxHeartbeats 40000000 in
theorem c_aln (l : Launch) (Z : State) (a0 : Array Value) (G : Gl Z a0) (a : Addr) (cs : List Int32) (h : Heap) (N : Fld Z h a "java/lang/AbstractStringBuilder" "count" "I" (.int (Int32.ofNat cs.length))) :
    Ctr l Z EL nw (⟨"java/lang/AbstractStringBuilder", "length", "()I"⟩ : MethodName) jdk_68_method_6_code 1 (Option.some Jvm.ClassFile.FieldType.int) ({ frames := 0, cells := 0, slots := 0, locals := 0 } : Room) #[.ref a] h [] (PureQ h fun w => w = .int (Int32.ofNat cs.length)) := by
  obtain ⟨hw, hEL, hSA, ⟨zc, SC, hz⟩, ⟨fm, SF, hfm⟩, ⟨d1, kd1, SD1, AD1⟩, ⟨d2, kd2, SD2, AD2⟩⟩ := id G
  refine Ctr.enter (own := "java/lang/AbstractStringBuilder") (nm := "length") rfl rfl hEL (plainFor_of_name pn_3) #[.val (.ref a)] (fun m => by first | rfl | (simp [entryFrame, mkF, argsToLocals, Value.category, maxLocals]; done)) ?_
  intro p e s m below meth c T X
  refine g_aloadN X d24_0 rfl rfl 1 rfl ?_
  refine g_getF X (Or.inl (hw _ (List.mem_of_getElem? (i := 56) rfl))) (host := "") Via.refl N d24_1 4 rfl ?_
  intro T1 X2
  exact g_retI X2 rfl d24_4 (by decide) (by decide) ⟨rfl, _, rfl, rfl⟩
theorem d23_0 : decode jdk_67_method_93_code 0 = .ok (.aload_n 0, 1) := by decide +kernel
theorem d23_1 : decode jdk_67_method_93_code 1 = .ok (.invokespecial 343, 3) := by decide +kernel
theorem d23_4 : decode jdk_67_method_93_code 4 = .ok (.ireturn, 1) := by decide +kernel
set_option maxRecDepth 65536 in
set_option maxHeartbeats 40000000 in
theorem c_sln (l : Launch) (Z : State) (a0 : Array Value) (G : Gl Z a0) (a : Addr) (cs : List Int32) (h : Heap) (E : Exa Z h a "java/lang/StringBuilder") (N : Fld Z h a "java/lang/AbstractStringBuilder" "count" "I" (.int (Int32.ofNat cs.length))) :
    Ctr l Z EL nw (⟨"java/lang/StringBuilder", "length", "()I"⟩ : MethodName) jdk_67_method_93_code 1 (Option.some Jvm.ClassFile.FieldType.int) ({ frames := 1, cells := 0, slots := 0, locals := 12 } : Room) #[.ref a] h [] (PureQ h fun w => w = .int (Int32.ofNat cs.length)) := by
  obtain ⟨hw, hEL, hSA, ⟨zc, SC, hz⟩, ⟨fm, SF, hfm⟩, ⟨d1, kd1, SD1, AD1⟩, ⟨d2, kd2, SD2, AD2⟩⟩ := id G
  refine Ctr.enter (own := "java/lang/StringBuilder") (nm := "length") rfl rfl hEL (plainFor_of_name pn_4) #[.val (.ref a)] (fun m => by first | rfl | (simp [entryFrame, mkF, argsToLocals, Value.category, maxLocals]; done)) ?_
  intro p e s m below meth c T X
  refine g_aloadN X d23_0 rfl rfl 1 rfl ?_
  refine g_callUp X (by decide) (hw _ (List.mem_of_getElem? (i := 134) rfl)) (own_same (hw _ (List.mem_of_getElem? (i := 130) rfl)) (hw _ (List.mem_of_getElem? (i := 61) rfl)) rfl (by decide)) (hw _ (List.mem_of_getElem? (i := 130) rfl)) (hw _ (List.mem_of_getElem? (i := 40) rfl)) (hw _ (List.mem_of_getElem? (i := 15) rfl)) (hw _ (List.mem_of_getElem? (i := 135) rfl)) E (c_aln l Z a0 G a cs h N) (by simp) (argsL := []) (rest := []) pd_6 rfl rfl rfl rfl 0 (Nat.le_of_eq rfl) (by decide) (by decide) (ck := 0) rfl (cs := 0) rfl (by decide) (by decide) d23_1 4 rfl ?_
  intro w3 T1 X2 hq4
  subst hq4
  exact g_retI X2 rfl d23_4 (by decide) (by decide) ⟨rfl, _, rfl, rfl⟩
theorem d25_0 : decode jdk_68_method_68_code 0 = .ok (.getstatic 18, 3) := by decide +kernel
theorem d25_3 : decode jdk_68_method_68_code 3 = .ok (.ifCond .eq 14, 3) := by decide +kernel
theorem d25_6 : decode jdk_68_method_68_code 6 = .ok (.aload_n 0, 1) := by decide +kernel
theorem d25_7 : decode jdk_68_method_68_code 7 = .ok (.getfield 22, 3) := by decide +kernel
theorem d25_10 : decode jdk_68_method_68_code 10 = .ok (.ifCond .ne 7, 3) := by decide +kernel
theorem d25_13 : decode jdk_68_method_68_code 13 = .ok (.iconst 1, 1) := by decide +kernel
theorem d25_14 : decode jdk_68_method_68_code 14 = .ok (.goto 4, 3) := by decide +kernel
theorem d25_17 : decode jdk_68_method_68_code 17 = .ok (.iconst 0, 1) := by decide +kernel
theorem d25_18 : decode jdk_68_method_68_code 18 = .ok (.ireturn, 1) := by decide +kernel
set_option maxRecDepth 65536 in
set_option maxHeartbeats 40000000 in
theorem c_ail (l : Launch) (Z : State) (a0 : Array Value) (G : Gl Z a0) (a : Addr) (h : Heap) (C : Fld Z h a "java/lang/AbstractStringBuilder" "coder" "B" (.int (0 : Int32))) :
    Ctr l Z EL nw (⟨"java/lang/AbstractStringBuilder", "isLatin1", "()Z"⟩ : MethodName) jdk_68_method_68_code 1 (Option.some Jvm.ClassFile.FieldType.boolean) ({ frames := 0, cells := 0, slots := 0, locals := 0 } : Room) #[.ref a] h [] (PureQ h fun w => w = .int 1) := by
  obtain ⟨hw, hEL, hSA, ⟨zc, SC, hz⟩, ⟨fm, SF, hfm⟩, ⟨d1, kd1, SD1, AD1⟩, ⟨d2, kd2, SD2, AD2⟩⟩ := id G
  refine Ctr.enter (own := "java/lang/AbstractStringBuilder") (nm := "isLatin1") rfl rfl hEL (plainFor_of_name pn_3) #[.val (.ref a)] (fun m => by first | rfl | (simp [entryFrame, mkF, argsToLocals, Value.category, maxLocals]; done)) ?_
  intro p e s m below meth c T X
  refine g_getS X (Or.inl (hw _ (List.mem_of_getElem? (i := 20) rfl))) (host := "") Via.refl (SC.ext X.old) d25_0 3 rfl ?_
  intro T1 X2
  refine g_ifNo X2 d25_3 (XT.ii_eq_f hz) 6 rfl ?_
  refine g_aloadN X2 d25_6 rfl rfl 7 rfl ?_
  refine g_getF X2 (Or.inl (hw _ (List.mem_of_getElem? (i := 25) rfl))) (host := "") Via.refl C d25_7 10 rfl ?_
  intro T3 X4
  refine g_ifNo X4 d25_10 (XT.ii_ne_f (by decide)) 13 rfl ?_
  refine g_iconst X4 (1 : Int32) d25_13 (by decide) 14 rfl ?_
  refine g_goto X4 d25_14 18 (by decide) (by decide) ?_
  exact g_retN X4 (t := .boolean) rfl (by simp) d25_18 _ rfl (by decide) (by decide) ⟨rfl, _, rfl, rfl⟩
theorem d28_0 : decode jdk_65_method_131_code 0 = .ok (.iload_n 1, 1) := by decide +kernel
theorem d28_1 : decode jdk_65_method_131_code 1 = .ok (.iload_n 0, 1) := by decide +kernel
theorem d28_2 : decode jdk_65_method_131_code 2 = .ok (.if_icmp .ge 35, 3) := by decide +kernel
theorem d28_5 : decode jdk_65_method_131_code 5 = .ok (.new 43, 3) := by decide +kernel
theorem d28_8 : decode jdk_65_method_131_code 8 = .ok (.dup, 1) := by decide +kernel
theorem d28_9 : decode jdk_65_method_131_code 9 = .ok (.new 45, 3) := by decide +kernel
theorem d28_12 : decode jdk_65_method_131_code 12 = .ok (.dup, 1) := by decide +kernel
theorem d28_13 : decode jdk_65_method_131_code 13 = .ok (.invokespecial 47, 3) := by decide +kernel
theorem d28_16 : decode jdk_65_method_131_code 16 = .ok (.iload_n 0, 1) := by decide +kernel
theorem d28_17 : decode jdk_65_method_131_code 17 = .ok (.invokevirtual 54, 3) := by decide +kernel
theorem d28_20 : decode jdk_65_method_131_code 20 = .ok (.ldc_w 337, 3) := by decide +kernel
theorem d28_23 : decode jdk_65_method_131_code 23 = .ok (.invokevirtual 50, 3) := by decide +kernel
theorem d28_26 : decode jdk_65_method_131_code 26 = .ok (.iload_n 1, 1) := by decide +kernel
theorem d28_27 : decode jdk_65_method_131_code 27 = .ok (.invokevirtual 54, 3) := by decide +kernel
theorem d28_30 : decode jdk_65_method_131_code 30 = .ok (.invokevirtual 61, 3) := by decide +kernel
theorem d28_33 : decode jdk_65_method_131_code 33 = .ok (.invokespecial 65, 3) := by decide +kernel
theorem d28_36 : decode jdk_65_method_131_code 36 = .ok (.athrow, 1) := by decide +kernel
theorem d28_37 : decode jdk_65_method_131_code 37 = .ok (.return_, 1) := by decide +kernel
theorem pn_5 : plainName "java/util/Arrays" = true := by first | (simp [plainName, overriddenIn]; done) | decide +kernel
set_option maxRecDepth 65536 in
set_option maxHeartbeats 40000000 in
theorem c_ckl (l : Launch) (Z : State) (a0 : Array Value) (G : Gl Z a0) (n : Nat) (h : Heap) (hn : n ≤ 4000) :
    Ctr l Z EL nw (⟨"java/util/Arrays", "checkLength", "(II)V"⟩ : MethodName) jdk_65_method_131_code 2 (Option.none : Option Jvm.ClassFile.FieldType) ({ frames := 0, cells := 0, slots := 0, locals := 0 } : Room) #[.int (0 : Int32), .int (Int32.ofNat n)] h [] (VoidQ fun h' => h = h') := by
  obtain ⟨hw, hEL, hSA, ⟨zc, SC, hz⟩, ⟨fm, SF, hfm⟩, ⟨d1, kd1, SD1, AD1⟩, ⟨d2, kd2, SD2, AD2⟩⟩ := id G
  refine Ctr.enter (own := "java/util/Arrays") (nm := "checkLength") rfl rfl hEL (plainFor_of_name pn_5) #[.val (.int (0 : Int32)), .val (.int (Int32.ofNat n))] (fun m => by first | rfl | (simp [entryFrame, mkF, argsToLocals, Value.category, maxLocals]; done)) ?_
  intro p e s m below meth c T X
  refine g_iloadN X d28_0 rfl 1 rfl ?_
  refine g_iloadN X d28_1 rfl 2 rfl ?_
  refine g_icmpYes X d28_2 (XT.ii_ge_t (of_nn hn)) 37 (by decide) (by decide) ?_
  exact g_ret X rfl d28_37 (by decide) (by decide) ⟨rfl, rfl⟩
theorem d29_0 : decode jdk_29_method_69_code 0 = .ok (.iload_n 0, 1) := by decide +kernel
theorem d29_1 : decode jdk_29_method_69_code 1 = .ok (.iload_n 1, 1) := by decide +kernel
theorem d29_2 : decode jdk_29_method_69_code 2 = .ok (.if_icmp .gt 7, 3) := by decide +kernel
theorem d29_5 : decode jdk_29_method_69_code 5 = .ok (.iload_n 0, 1) := by decide +kernel
theorem d29_6 : decode jdk_29_method_69_code 6 = .ok (.goto 4, 3) := by decide +kernel
theorem d29_9 : decode jdk_29_method_69_code 9 = .ok (.iload_n 1, 1) := by decide +kernel
theorem d29_10 : decode jdk_29_method_69_code 10 = .ok (.ireturn, 1) := by decide +kernel
set_option maxRecDepth 65536 in
set_option maxHeartbeats 40000000 in
theorem c_min (l : Launch) (Z : State) (a0 : Array Value) (G : Gl Z a0) (x y : Int32) (h : Heap) (hlt : y < x) :
    Ctr l Z EL nw (⟨"java/lang/Math", "min", "(II)I"⟩ : MethodName) jdk_29_method_69_code 2 (Option.some Jvm.ClassFile.FieldType.int) ({ frames := 0, cells := 0, slots := 0, locals := 0 } : Room) #[.int x, .int y] h [] (PureQ h fun w => w = .int y) := by
  obtain ⟨hw, hEL, hSA, ⟨zc, SC, hz⟩, ⟨fm, SF, hfm⟩, ⟨d1, kd1, SD1, AD1⟩, ⟨d2, kd2, SD2, AD2⟩⟩ := id G
  refine Ctr.enter (own := "java/lang/Math") (nm := "min") rfl rfl hEL (by decide +kernel) #[.val (.int x), .val (.int y)] (fun m => by first | rfl | (simp [entryFrame, mkF, argsToLocals, Value.category, maxLocals]; done)) ?_
  intro p e s m below meth c T X
  refine g_iloadN X d29_0 rfl 1 rfl ?_
  refine g_iloadN X d29_1 rfl 2 rfl ?_
  refine g_icmpYes X d29_2 (XT.ii_gt_t hlt) 9 (by decide) (by decide) ?_
  refine g_iloadN X d29_9 rfl 10 rfl ?_
  exact g_retI X rfl d29_10 (by decide) (by decide) ⟨rfl, _, rfl, rfl⟩
theorem d27_0 : decode jdk_65_method_133_code 0 = .ok (.iload_n 1, 1) := by decide +kernel
theorem d27_1 : decode jdk_65_method_133_code 1 = .ok (.iload_n 2, 1) := by decide +kernel
theorem d27_2 : decode jdk_65_method_133_code 2 = .ok (.invokestatic 343, 3) := by decide +kernel
theorem d27_5 : decode jdk_65_method_133_code 5 = .ok (.iload_n 2, 1) := by decide +kernel
theorem d27_6 : decode jdk_65_method_133_code 6 = .ok (.iload_n 1, 1) := by decide +kernel
theorem d27_7 : decode jdk_65_method_133_code 7 = .ok (.isub, 1) := by decide +kernel
theorem d27_8 : decode jdk_65_method_133_code 8 = .ok (.istore_n 3, 1) := by decide +kernel
theorem d27_9 : decode jdk_65_method_133_code 9 = .ok (.iload_n 3, 1) := by decide +kernel
theorem d27_10 : decode jdk_65_method_133_code 10 = .ok (.newarray .byte, 2) := by decide +kernel
theorem d27_12 : decode jdk_65_method_133_code 12 = .ok (.astore 4, 2) := by decide +kernel
theorem d27_14 : decode jdk_65_method_133_code 14 = .ok (.aload_n 0, 1) := by decide +kernel
theorem d27_15 : decode jdk_65_method_133_code 15 = .ok (.iload_n 1, 1) := by decide +kernel
theorem d27_16 : decode jdk_65_method_133_code 16 = .ok (.aload 4, 2) := by decide +kernel
theorem d27_18 : decode jdk_65_method_133_code 18 = .ok (.iconst 0, 1) := by decide +kernel
theorem d27_19 : decode jdk_65_method_133_code 19 = .ok (.aload_n 0, 1) := by decide +kernel
theorem d27_20 : decode jdk_65_method_133_code 20 = .ok (.arraylength, 1) := by decide +kernel
theorem d27_21 : decode jdk_65_method_133_code 21 = .ok (.iload_n 1, 1) := by decide +kernel
theorem d27_22 : decode jdk_65_method_133_code 22 = .ok (.isub, 1) := by decide +kernel
theorem d27_23 : decode jdk_65_method_133_code 23 = .ok (.iload_n 3, 1) := by decide +kernel
theorem d27_24 : decode jdk_65_method_133_code 24 = .ok (.invokestatic 304, 3) := by decide +kernel
theorem d27_27 : decode jdk_65_method_133_code 27 = .ok (.invokestatic 150, 3) := by decide +kernel
theorem d27_30 : decode jdk_65_method_133_code 30 = .ok (.aload 4, 2) := by decide +kernel
theorem d27_32 : decode jdk_65_method_133_code 32 = .ok (.areturn, 1) := by decide +kernel
set_option maxRecDepth 65536 in
set_option maxHeartbeats 40000000 in
theorem c_corb (l : Launch) (Z : State) (a0 : Array Value) (G : Gl Z a0) (b : Addr) (kb : ClassId) (cap : Nat) (cs : List Int32) (h : Heap) (A : Arv Z h b kb .byte (Int32.ofNat cap) (padB cap cs) (.int (0 : Int32))) (hlt : cs.length < cap) (hcap : cap ≤ 4000) (hB : cs.length ≤ 7) :
    Ctr l Z EL nw (⟨"java/util/Arrays", "copyOfRangeByte", "([BII)[B"⟩ : MethodName) jdk_65_method_133_code 5 (Option.some (Jvm.ClassFile.FieldType.array Jvm.ClassFile.FieldType.byte)) ({ frames := 1, cells := 1, slots := 7, locals := 18 } : Room) #[.ref b, .int (0 : Int32), .int (Int32.ofNat cs.length)] h [] (ValQ fun w h' => ∃ (t : Addr) (kt : ClassId), w = .ref t ∧ Ext h h' ∧ h.size ≤ t ∧ Arv Z h' t kt .byte (Int32.ofNat cs.length) (bys cs) (.int (0 : Int32))) := by
  obtain ⟨hw, hEL, hSA, ⟨zc, SC, hz⟩, ⟨fm, SF, hfm⟩, ⟨d1, kd1, SD1, AD1⟩, ⟨d2, kd2, SD2, AD2⟩⟩ := id G
  refine Ctr.enter (own := "java/util/Arrays") (nm := "copyOfRangeByte") rfl rfl hEL (plainFor_of_name pn_5) #[.val (.ref b), .val (.int (0 : Int32)), .val (.int (Int32.ofNat cs.length)), .unset, .unset] (fun m => by first | rfl | (simp [entryFrame, mkF, argsToLocals, Value.category, maxLocals]; done)) ?_
  intro p e s m below meth c T X
  refine g_iloadN X d27_0 rfl 1 rfl ?_
  refine g_iloadN X d27_1 rfl 2 rfl ?_
  refine g_callSn X (hw _ (List.mem_of_getElem? (i := 148) rfl)) (hw _ (List.mem_of_getElem? (i := 149) rfl)) (hw _ (List.mem_of_getElem? (i := 143) rfl)) (hw _ (List.mem_of_getElem? (i := 150) rfl)) (by decide) (c_ckl l Z a0 G cs.length h (by omega)) (by simp) (argsL := [.int (0 : Int32), .int (Int32.ofNat cs.length)]) (rest := []) pd_10 rfl rfl rfl rfl 0 (Nat.le_of_eq rfl) (by decide) (by decide) (ck := 0) rfl (cs := 0) rfl (by decide) (by decide) d27_2 5 rfl ?_
  intro T1 h4 X2 hq3
  subst hq3
  refine g_iloadN X2 d27_5 rfl 6 rfl ?_
  refine g_iloadN X2 d27_6 rfl 7 rfl ?_
  refine g_isub X2 d27_7 (Int32.ofNat cs.length) (Int32.sub_zero _) 8 rfl ?_
  refine g_istoreN X2 d27_8 (Ls' := #[.val (.ref b), .val (.int (0 : Int32)), .val (.int (Int32.ofNat cs.length)), .val (.int (Int32.ofNat cs.length)), .unset]) rfl 9 rfl ?_
  refine g_iloadN X2 d27_9 rfl 10 rfl ?_
  refine g_newP X2 (hw _ (List.mem_of_getElem? (i := 22) rfl)) d27_10 (of_nn (by omega)) 7 (by rw [of_nat (by omega)]; exact hB) (by decide) (ck := 1) rfl (cs := 7) rfl (by decide) (by decide) 12 rfl ?_
  intro a5 T6 h7 k8 ea9 X10 E11 A12
  have A13 : Arv Z h7 a5 k8 .byte (Int32.ofNat cs.length) (List.replicate (cs.length) (.int (0 : Int32))) (.int (0 : Int32)) := A12.pad (pad_rep [] _ (cs.length))
  have le_a5 : h.size ≤ a5 := by rw [ea9]; exact (Ext.refl h).1
  have ne_b_a5 : b ≠ a5 := by rw [ea9]; exact Nat.ne_of_lt A.lt
  refine g_astore X10 d27_12 rfl (Ls' := #[.val (.ref b), .val (.int (0 : Int32)), .val (.int (Int32.ofNat cs.length)), .val (.int (Int32.ofNat cs.length)), .val (.ref a5)]) rfl 14 rfl ?_
  refine g_aloadN X10 d27_14 rfl rfl 15 rfl ?_
  refine g_iloadN X10 d27_15 rfl 16 rfl ?_
  refine g_aload X10 d27_16 rfl rfl 18 rfl ?_
  refine g_iconst X10 (0 : Int32) d27_18 (by decide) 19 rfl ?_
  refine g_aloadN X10 d27_19 rfl rfl 20 rfl ?_
  refine g_arrlen X10 (A.ext E11) d27_20 21 rfl ?_
  refine g_iloadN X10 d27_21 rfl 22 rfl ?_
  refine g_isub X10 d27_22 (Int32.ofNat cap) (Int32.sub_zero _) 23 rfl ?_
  refine g_iloadN X10 d27_23 rfl 24 rfl ?_
  refine g_callSp X10 (hw _ (List.mem_of_getElem? (i := 151) rfl)) (hw _ (List.mem_of_getElem? (i := 152) rfl)) (hw _ (List.mem_of_getElem? (i := 153) rfl)) (hw _ (List.mem_of_getElem? (i := 154) rfl)) (by decide) (c_min l Z a0 G (Int32.ofNat cap) (Int32.ofNat cs.length) h7 (of_lt hlt hcap)) (by simp) (argsL := [.int (Int32.ofNat cap), .int (Int32.ofNat cs.length)]) (rest := [.int (0 : Int32), .ref a5, .int (0 : Int32), .ref b]) pd_26 rfl rfl rfl rfl 4 (Nat.le_of_eq rfl) (by decide) (by decide) (ck := 1) rfl (cs := 7) rfl (by decide) (by decide) d27_24 27 rfl ?_
  intro w16 T14 X15 hq17
  subst hq17
  refine g_arrcopy X15 (hw _ (List.mem_of_getElem? (i := 155) rfl)) (hw _ (List.mem_of_getElem? (i := 82) rfl)) (hw _ (List.mem_of_getElem? (i := 80) rfl)) (hw _ (List.mem_of_getElem? (i := 81) rfl)) (A.ext E11) A13 rfl (by decide) (by decide) (of_nn (by omega)) (by rw [clamp0, of_nat (by omega), of_nat hcap]; omega) (by rw [clamp0, of_nat (by omega)]; omega) (by rw [clamp0, of_nat (by omega), List.length_replicate]; omega) (bys cs) (pad_get (by omega) hcap _ rfl) (by simp) rfl d27_27 (by decide) 0 (Nat.le_of_eq rfl) (by decide) 30 rfl ?_
  intro T18 h19 X20 K21 A22
  refine g_aload X20 d27_30 rfl rfl 32 rfl ?_
  exact g_retA X20 rfl rfl rfl d27_32 (by decide) (by decide) ⟨_, rfl, ⟨a5, _, rfl, (ext_keep ((Ext.refl h).trans E11) K21 (fun x hx => by cases List.mem_singleton.mp hx; exact le_a5)), le_a5, A22⟩⟩
theorem d26_0 : decode jdk_65_method_132_code 0 = .ok (.iload_n 1, 1) := by decide +kernel
theorem d26_1 : decode jdk_65_method_132_code 1 = .ok (.ifCond .ne 9, 3) := by decide +kernel
theorem d26_4 : decode jdk_65_method_132_code 4 = .ok (.iload_n 2, 1) := by decide +kernel
theorem d26_5 : decode jdk_65_method_132_code 5 = .ok (.aload_n 0, 1) := by decide +kernel
theorem d26_6 : decode jdk_65_method_132_code 6 = .ok (.arraylength, 1) := by decide +kernel
theorem d26_7 : decode jdk_65_method_132_code 7 = .ok (.if_icmp .eq 10, 3) := by decide +kernel
theorem d26_10 : decode jdk_65_method_132_code 10 = .ok (.aload_n 0, 1) := by decide +kernel
theorem d26_11 : decode jdk_65_method_132_code 11 = .ok (.iload_n 1, 1) := by decide +kernel
theorem d26_12 : decode jdk_65_method_132_code 12 = .ok (.iload_n 2, 1) := by decide +kernel
theorem d26_13 : decode jdk_65_method_132_code 13 = .ok (.invokestatic 339, 3) := by decide +kernel
theorem d26_16 : decode jdk_65_method_132_code 16 = .ok (.areturn, 1) := by decide +kernel
theorem d26_17 : decode jdk_65_method_132_code 17 = .ok (.aload_n 0, 1) := by decide +kernel
theorem d26_18 : decode jdk_65_method_132_code 18 = .ok (.invokevirtual 310, 3) := by decide +kernel
theorem d26_21 : decode jdk_65_method_132_code 21 = .ok (.checkcast 311, 3) := by decide +kernel
theorem d26_24 : decode jdk_65_method_132_code 24 = .ok (.areturn, 1) := by decide +kernel
set_option maxRecDepth 65536 in
set_option maxHeartbeats 40000000 in
theorem c_cor (l : Launch) (Z : State) (a0 : Array Value) (G : Gl Z a0) (b : Addr) (kb : ClassId) (cap : Nat) (cs : List Int32) (h : Heap) (A : Arv Z h b kb .byte (Int32.ofNat cap) (padB cap cs) (.int (0 : Int32))) (hlt : cs.length < cap) (hcap : cap ≤ 4000) (hB : cs.length ≤ 7) :
    Ctr l Z EL nw (⟨"java/util/Arrays", "copyOfRange", "([BII)[B"⟩ : MethodName) jdk_65_method_132_code 3 (Option.some (Jvm.ClassFile.FieldType.array Jvm.ClassFile.FieldType.byte)) ({ frames := 2, cells := 1, slots := 7, locals := 34 } : Room) #[.ref b, .int (0 : Int32), .int (Int32.ofNat cs.length)] h [] (ValQ fun w h' => ∃ (t : Addr) (kt : ClassId), w = .ref t ∧ Ext h h' ∧ h.size ≤ t ∧ Arv Z h' t kt .byte (Int32.ofNat cs.length) (bys cs) (.int (0 : Int32))) := by
  obtain ⟨hw, hEL, hSA, ⟨zc, SC, hz⟩, ⟨fm, SF, hfm⟩, ⟨d1, kd1, SD1, AD1⟩, ⟨d2, kd2, SD2, AD2⟩⟩ := id G
  refine Ctr.enter (own := "java/util/Arrays") (nm := "copyOfRange") rfl rfl hEL (plainFor_of_name pn_5) #[.val (.ref b), .val (.int (0 : Int32)), .val (.int (Int32.ofNat cs.length))] (fun m => by first | rfl | (simp [entryFrame, mkF, argsToLocals, Value.category, maxLocals]; done)) ?_
  intro p e s m below meth c T X
  refine g_iloadN X d26_0 rfl 1 rfl ?_
  refine g_ifNo X d26_1 (XT.ii_ne_f (by decide)) 4 rfl ?_
  refine g_iloadN X d26_4 rfl 5 rfl ?_
  refine g_aloadN X d26_5 rfl rfl 6 rfl ?_
  refine g_arrlen X A d26_6 7 rfl ?_
  refine g_icmpNo X d26_7 (XT.ii_eq_f (fun q => absurd (of_eq (by omega) hcap q) (by omega))) 10 rfl ?_
  refine g_aloadN X d26_10 rfl rfl 11 rfl ?_
  refine g_iloadN X d26_11 rfl 12 rfl ?_
  refine g_iloadN X d26_12 rfl 13 rfl ?_
  refine g_callSv X (hw _ (List.mem_of_getElem? (i := 145) rfl)) (hw _ (List.mem_of_getElem? (i := 146) rfl)) (hw _ (List.mem_of_getElem? (i := 143) rfl)) (hw _ (List.mem_of_getElem? (i := 147) rfl)) (by decide) (c_corb l Z a0 G b kb cap cs h A hlt hcap hB) (by simp) (argsL := [.ref b, .int (0 : Int32), .int (Int32.ofNat cs.length)]) (rest := []) pd_25 rfl rfl rfl rfl 0 (Nat.le_of_eq rfl) (by decide) (by decide) (ck := 1) rfl (cs := 7) rfl (by decide) (by decide) d26_13 16 rfl ?_
  intro w3 T1 h5 X2 hq4
  obtain ⟨tt, kt, rfl, hE, hle, hA⟩ := hq4
  exact g_retA X2 rfl rfl rfl d26_16 (by decide) (by decide) ⟨_, rfl, ⟨tt, kt, rfl, hE, hle, hA⟩⟩
theorem d21_0 : decode jdk_42_method_150_code 0 = .ok (.aload_n 0, 1) := by decide +kernel
theorem d21_1 : decode jdk_42_method_150_code 1 = .ok (.invokespecial 1, 3) := by decide +kernel
theorem d21_4 : decode jdk_42_method_150_code 4 = .ok (.aload_n 1, 1) := by decide +kernel
theorem d21_5 : decode jdk_42_method_150_code 5 = .ok (.invokevirtual 552, 3) := by decide +kernel
theorem d21_8 : decode jdk_42_method_150_code 8 = .ok (.astore_n 3, 1) := by decide +kernel
theorem d21_9 : decode jdk_42_method_150_code 9 = .ok (.aload_n 1, 1) := by decide +kernel
theorem d21_10 : decode jdk_42_method_150_code 10 = .ok (.invokevirtual 549, 3) := by decide +kernel
theorem d21_13 : decode jdk_42_method_150_code 13 = .ok (.istore 4, 2) := by decide +kernel
theorem d21_15 : decode jdk_42_method_150_code 15 = .ok (.aload_n 1, 1) := by decide +kernel
theorem d21_16 : decode jdk_42_method_150_code 16 = .ok (.invokevirtual 1047, 3) := by decide +kernel
theorem d21_19 : decode jdk_42_method_150_code 19 = .ok (.ifCond .eq 22, 3) := by decide +kernel
theorem d21_22 : decode jdk_42_method_150_code 22 = .ok (.aload_n 0, 1) := by decide +kernel
theorem d21_23 : decode jdk_42_method_150_code 23 = .ok (.iconst 0, 1) := by decide +kernel
theorem d21_24 : decode jdk_42_method_150_code 24 = .ok (.putfield 15, 3) := by decide +kernel
theorem d21_27 : decode jdk_42_method_150_code 27 = .ok (.aload_n 0, 1) := by decide +kernel
theorem d21_28 : decode jdk_42_method_150_code 28 = .ok (.aload_n 3, 1) := by decide +kernel
theorem d21_29 : decode jdk_42_method_150_code 29 = .ok (.iconst 0, 1) := by decide +kernel
theorem d21_30 : decode jdk_42_method_150_code 30 = .ok (.iload 4, 2) := by decide +kernel
theorem d21_32 : decode jdk_42_method_150_code 32 = .ok (.invokestatic 54, 3) := by decide +kernel
theorem d21_35 : decode jdk_42_method_150_code 35 = .ok (.putfield 9, 3) := by decide +kernel
theorem d21_38 : decode jdk_42_method_150_code 38 = .ok (.goto 59, 3) := by decide +kernel
theorem d21_41 : decode jdk_42_method_150_code 41 = .ok (.getstatic 38, 3) := by decide +kernel
theorem d21_44 : decode jdk_42_method_150_code 44 = .ok (.ifCond .eq 35, 3) := by decide +kernel
theorem d21_47 : decode jdk_42_method_150_code 47 = .ok (.aload_n 1, 1) := by decide +kernel
theorem d21_48 : decode jdk_42_method_150_code 48 = .ok (.getfield 1048, 3) := by decide +kernel
theorem d21_51 : decode jdk_42_method_150_code 51 = .ok (.ifCond .eq 28, 3) := by decide +kernel
theorem d21_54 : decode jdk_42_method_150_code 54 = .ok (.aload_n 0, 1) := by decide +kernel
theorem d21_55 : decode jdk_42_method_150_code 55 = .ok (.aload_n 3, 1) := by decide +kernel
theorem d21_56 : decode jdk_42_method_150_code 56 = .ok (.iconst 0, 1) := by decide +kernel
theorem d21_57 : decode jdk_42_method_150_code 57 = .ok (.iload 4, 2) := by decide +kernel
theorem d21_59 : decode jdk_42_method_150_code 59 = .ok (.invokestatic 1051, 3) := by decide +kernel
theorem d21_62 : decode jdk_42_method_150_code 62 = .ok (.putfield 9, 3) := by decide +kernel
theorem d21_65 : decode jdk_42_method_150_code 65 = .ok (.aload_n 0, 1) := by decide +kernel
theorem d21_66 : decode jdk_42_method_150_code 66 = .ok (.aload_n 0, 1) := by decide +kernel
theorem d21_67 : decode jdk_42_method_150_code 67 = .ok (.getfield 9, 3) := by decide +kernel
theorem d21_70 : decode jdk_42_method_150_code 70 = .ok (.iload 4, 2) := by decide +kernel
theorem d21_72 : decode jdk_42_method_150_code 72 = .ok (.invokestatic 47, 3) := by decide +kernel
theorem d21_75 : decode jdk_42_method_150_code 75 = .ok (.putfield 15, 3) := by decide +kernel
theorem d21_78 : decode jdk_42_method_150_code 78 = .ok (.return_, 1) := by decide +kernel
theorem d21_79 : decode jdk_42_method_150_code 79 = .ok (.aload_n 0, 1) := by decide +kernel
theorem d21_80 : decode jdk_42_method_150_code 80 = .ok (.iconst 1, 1) := by decide +kernel
theorem d21_81 : decode jdk_42_method_150_code 81 = .ok (.putfield 15, 3) := by decide +kernel
theorem d21_84 : decode jdk_42_method_150_code 84 = .ok (.aload_n 0, 1) := by decide +kernel
theorem d21_85 : decode jdk_42_method_150_code 85 = .ok (.aload_n 3, 1) := by decide +kernel
theorem d21_86 : decode jdk_42_method_150_code 86 = .ok (.iconst 0, 1) := by decide +kernel
theorem d21_87 : decode jdk_42_method_150_code 87 = .ok (.iload 4, 2) := by decide +kernel
theorem d21_89 : decode jdk_42_method_150_code 89 = .ok (.iconst 1, 1) := by decide +kernel
theorem d21_90 : decode jdk_42_method_150_code 90 = .ok (.ishl, 1) := by decide +kernel
theorem d21_91 : decode jdk_42_method_150_code 91 = .ok (.invokestatic 54, 3) := by decide +kernel
theorem d21_94 : decode jdk_42_method_150_code 94 = .ok (.putfield 9, 3) := by decide +kernel
theorem d21_97 : decode jdk_42_method_150_code 97 = .ok (.return_, 1) := by decide +kernel
set_option maxRecDepth 65536 in
set_option maxHeartbeats 40000000 in
theorem c_s150 (l : Launch) (Z : State) (a0 : Array Value) (G : Gl Z a0) (r a b : Addr) (kb : ClassId) (cap : Nat) (cs : List Int32) (h : Heap) (S : Sb Z h a b kb cap cs) (Er : Exa Z h r "java/lang/String") (Vr : Fld Z h r "java/lang/String" "value" "[B" .null) (Cr : Fld Z h r "java/lang/String" "coder" "B" (.int (0 : Int32))) (hra : r ≠ a) (hrb : r ≠ b) (hlt : cs.length < cap) (hB : cs.length ≤ 7) :
    Ctr l Z EL nw (⟨"java/lang/String", "<init>", "(Ljava/lang/AbstractStringBuilder;Ljava/lang/Void;)V"⟩ : MethodName) jdk_42_method_150_code 5 (Option.none : Option Jvm.ClassFile.FieldType) ({ frames := 3, cells := 1, slots := 7, locals := 49 } : Room) #[.ref r, .ref a, .null] h [r] (VoidQ fun h' => Keep h h' [r] ∧ ∃ (t : Addr) (kt : ClassId), Exa Z h' r "java/lang/String" ∧ Fld Z h' r "java/lang/String" "coder" "B" (.int (0 : Int32)) ∧ Fld Z h' r "java/lang/String" "value" "[B" (.ref t) ∧ Arv Z h' t kt .byte (Int32.ofNat cs.length) (bys cs) (.int (0 : Int32)) ∧ (∀ c ∈ cs, ¬ c < 0 ∧ ¬ (255 : Int32) < c) ∧ cs.length ≤ 4000 ∧ h.size ≤ t) := by
  obtain ⟨hw, hEL, hSA, ⟨zc, SC, hz⟩, ⟨fm, SF, hfm⟩, ⟨d1, kd1, SD1, AD1⟩, ⟨d2, kd2, SD2, AD2⟩⟩ := id G
  refine Ctr.enter (own := "java/lang/String") (nm := "<init>") rfl rfl hEL (plainFor_of_name pn_0) #[.val (.ref r), .val (.ref a), .val (.null), .unset, .unset] (fun m => by first | rfl | (simp [entryFrame, mkF, argsToLocals, Value.category, maxLocals]; done)) ?_
  intro p e s m below meth c T X
  obtain ⟨E, C, N, V, A, hcs, hlen, hcap, hab⟩ := id S
  refine g_aloadN X d21_0 rfl rfl 1 rfl ?_
  refine g_initO X (hw _ (List.mem_of_getElem? (i := 103) rfl)) (hw _ (List.mem_of_getElem? (i := 18) rfl)) (hw _ (List.mem_of_getElem? (i := 19) rfl)) rfl d21_1 (by decide) 0 (Nat.le_of_eq rfl) (by decide) 4 rfl ?_
  intro T1 X2
  refine g_aloadN X2 d21_4 rfl rfl 5 rfl ?_
  refine g_callVp X2 (hw _ (List.mem_of_getElem? (i := 123) rfl)) (hw _ (List.mem_of_getElem? (i := 124) rfl)) (hw _ (List.mem_of_getElem? (i := 126) rfl)) (hw _ (List.mem_of_getElem? (i := 125) rfl)) (hw _ (List.mem_of_getElem? (i := 15) rfl)) (hw _ (List.mem_of_getElem? (i := 127) rfl)) (nfSel (hw _ (List.mem_of_getElem? (i := 126) rfl))) (by decide) E (c_gv l Z a0 G a b h V) (by simp) (argsL := []) (rest := []) pd_24 rfl rfl rfl rfl 0 (Nat.le_of_eq rfl) (by decide) (by decide) (ck := 0) rfl (cs := 0) rfl (by decide) (by decide) d21_5 8 rfl ?_
  intro w5 T3 X4 hq6
  subst hq6
  refine g_astoreN X4 d21_8 rfl (Ls' := #[.val (.ref r), .val (.ref a), .val (.null), .val (.ref b), .unset]) rfl 9 rfl ?_
  refine g_aloadN X4 d21_9 rfl rfl 10 rfl ?_
  refine g_callVp X4 (hw _ (List.mem_of_getElem? (i := 128) rfl)) (hw _ (List.mem_of_getElem? (i := 129) rfl)) (hw _ (List.mem_of_getElem? (i := 131) rfl)) (hw _ (List.mem_of_getElem? (i := 132) rfl)) (hw _ (List.mem_of_getElem? (i := 7) rfl)) (hw _ (List.mem_of_getElem? (i := 133) rfl)) (nfOf (hw _ (List.mem_of_getElem? (i := 61) rfl)) rfl) (by decide) E (c_sln l Z a0 G a cs h E N) (by simp) (argsL := []) (rest := []) pd_6 rfl rfl rfl rfl 0 (Nat.le_of_eq rfl) (by decide) (by decide) (ck := 0) rfl (cs := 0) rfl (by decide) (by decide) d21_10 13 rfl ?_
  intro w9 T7 X8 hq10
  subst hq10
  refine g_istore X8 d21_13 (Ls' := #[.val (.ref r), .val (.ref a), .val (.null), .val (.ref b), .val (.int (Int32.ofNat cs.length))]) rfl 15 rfl ?_
  refine g_aloadN X8 d21_15 rfl rfl 16 rfl ?_
  refine g_callVp X8 (hw _ (List.mem_of_getElem? (i := 136) rfl)) (hw _ (List.mem_of_getElem? (i := 137) rfl)) (hw _ (List.mem_of_getElem? (i := 139) rfl)) (hw _ (List.mem_of_getElem? (i := 138) rfl)) (hw _ (List.mem_of_getElem? (i := 15) rfl)) (hw _ (List.mem_of_getElem? (i := 140) rfl)) (nfSel (hw _ (List.mem_of_getElem? (i := 139) rfl))) (by decide) E (c_ail l Z a0 G a h C) (by simp) (argsL := []) (rest := []) pd_8 rfl rfl rfl rfl 0 (Nat.le_of_eq rfl) (by decide) (by decide) (ck := 0) rfl (cs := 0) rfl (by decide) (by decide) d21_16 19 rfl ?_
  intro w13 T11 X12 hq14
  subst hq14
  refine g_ifNo X12 d21_19 (XT.ii_eq_f (by decide)) 22 rfl ?_
  refine g_aloadN X12 d21_22 rfl rfl 23 rfl ?_
  refine g_iconst X12 (0 : Int32) d21_23 (by decide) 24 rfl ?_
  refine g_putF X12 (Or.inl (hw _ (List.mem_of_getElem? (i := 55) rfl))) (host := "") Via.refl Cr Er (Or.inr ⟨(hw _ (List.mem_of_getElem? (i := 30) rfl)), rfl, rfl⟩) (hw _ (List.mem_of_getElem? (i := 28) rfl)) (ty := .byte) (by rfl) rfl rfl (by simp) d21_24 27 rfl ?_
  intro T15 h16 X17 W18 F19 E20
  refine g_aloadN X17 d21_27 rfl rfl 28 rfl ?_
  refine g_aloadN X17 d21_28 rfl rfl 29 rfl ?_
  refine g_iconst X17 (0 : Int32) d21_29 (by decide) 30 rfl ?_
  refine g_iload X17 d21_30 rfl 32 rfl ?_
  refine g_callSv X17 (hw _ (List.mem_of_getElem? (i := 141) rfl)) (hw _ (List.mem_of_getElem? (i := 142) rfl)) (hw _ (List.mem_of_getElem? (i := 143) rfl)) (hw _ (List.mem_of_getElem? (i := 144) rfl)) (by decide) (c_cor l Z a0 G b kb cap cs h16 (A.other W18 (Ne.symm hrb)) hlt hcap hB) (by simp) (argsL := [.ref b, .int (0 : Int32), .int (Int32.ofNat cs.length)]) (rest := [.ref r]) pd_25 rfl rfl rfl rfl 1 (Nat.le_of_eq rfl) (by decide) (by decide) (ck := 1) rfl (cs := 7) rfl (by decide) (by decide) d21_32 35 rfl ?_
  intro w23 T21 h25 X22 hq24
  obtain ⟨t26, k27, rfl, E28, le29, A30⟩ := hq24
  have ne_r_t26 : r ≠ t26 := Nat.ne_of_lt (Nat.lt_of_lt_of_le E20.lt le29)
  have le_t26 : h.size ≤ t26 := Nat.le_trans ((Keep.refl h [r]).wr W18 (Or.inl (by simp))).1 le29
  refine g_putF X22 (Or.inl (hw _ (List.mem_of_getElem? (i := 48) rfl))) (host := "") Via.refl ((Vr.other W18 (Or.inr (slot_ne (Or.inr (hw _ (List.mem_of_getElem? (i := 29) rfl))) (Or.inr (hw _ (List.mem_of_getElem? (i := 30) rfl))) (by decide) (by rfl) (by rfl)))).ext E28) (E20.ext E28) (Or.inr ⟨(hw _ (List.mem_of_getElem? (i := 29) rfl)), rfl, rfl⟩) (hw _ (List.mem_of_getElem? (i := 28) rfl)) (ty := (.array .byte)) (by rfl) rfl rfl (by simp) d21_35 38 rfl ?_
  intro T31 h32 X33 W34 F35 E36
  refine g_goto X33 d21_38 97 (by decide) (by decide) ?_
  exact g_ret X33 rfl d21_97 (by decide) (by decide) ⟨rfl, ⟨((((Keep.refl h [r]).wr W18 (Or.inl (by simp))).ext E28).wr W34 (Or.inl (by simp))), t26, _, E36, ((F19.ext E28).other W34 (Or.inr (slot_ne (Or.inr (hw _ (List.mem_of_getElem? (i := 30) rfl))) (Or.inr (hw _ (List.mem_of_getElem? (i := 29) rfl))) (by decide) (by rfl) (by rfl)))), F35, (A30.other W34 (Ne.symm ne_r_t26)), hcs, (by omega), le_t26⟩⟩
theorem d20_0 : decode jdk_42_method_53_code 0 = .ok (.aload_n 0, 1) := by decide +kernel
theorem d20_1 : decode jdk_42_method_53_code 1 = .ok (.aload_n 1, 1) := by decide +kernel
theorem d20_2 : decode jdk_42_method_53_code 2 = .ok (.aconst_null, 1) := by decide +kernel
theorem d20_3 : decode jdk_42_method_53_code 3 = .ok (.invokespecial 489, 3) := by decide +kernel
theorem d20_6 : decode jdk_42_method_53_code 6 = .ok (.return_, 1) := by decide +kernel
set_option maxRecDepth 65536 in
set_option maxHeartbeats 40000000 in
theorem c_s53 (l : Launch) (Z : State) (a0 : Array Value) (G : Gl Z a0) (r a b : Addr) (kb : ClassId) (cap : Nat) (cs : List Int32) (h : Heap) (S : Sb Z h a b kb cap cs) (Er : Exa Z h r "java/lang/String") (Vr : Fld Z h r "java/lang/String" "value" "[B" .null) (Cr : Fld Z h r "java/lang/String" "coder" "B" (.int (0 : Int32))) (hra : r ≠ a) (hrb : r ≠ b) (hlt : cs.length < cap) (hB : cs.length ≤ 7) :
    Ctr l Z EL nw (⟨"java/lang/String", "<init>", "(Ljava/lang/StringBuilder;)V"⟩ : MethodName) jdk_42_method_53_code 2 (Option.none : Option Jvm.ClassFile.FieldType) ({ frames := 4, cells := 1, slots := 7, locals := 65 } : Room) #[.ref r, .ref a] h [r] (VoidQ fun h' => Keep h h' [r] ∧ ∃ (t : Addr) (kt : ClassId), Exa Z h' r "java/lang/String" ∧ Fld Z h' r "java/lang/String" "coder" "B" (.int (0 : Int32)) ∧ Fld Z h' r "java/lang/String" "value" "[B" (.ref t) ∧ Arv Z h' t kt .byte (Int32.ofNat cs.length) (bys cs) (.int (0 : Int32)) ∧ (∀ c ∈ cs, ¬ c < 0 ∧ ¬ (255 : Int32) < c) ∧ cs.length ≤ 4000 ∧ h.size ≤ t) := by
  obtain ⟨hw, hEL, hSA, ⟨zc, SC, hz⟩, ⟨fm, SF, hfm⟩, ⟨d1, kd1, SD1, AD1⟩, ⟨d2, kd2, SD2, AD2⟩⟩ := id G
  refine Ctr.enter (own := "java/lang/String") (nm := "<init>") rfl rfl hEL (plainFor_of_name pn_0) #[.val (.ref r), .val (.ref a)] (fun m => by first | rfl | (simp [entryFrame, mkF, argsToLocals, Value.category, maxLocals]; done)) ?_
  intro p e s m below meth c T X
  refine g_aloadN X d20_0 rfl rfl 1 rfl ?_
  refine g_aloadN X d20_1 rfl rfl 2 rfl ?_
  refine g_aconstNull X d20_2 3 rfl ?_
  refine g_callIn X rfl (hw _ (List.mem_of_getElem? (i := 120) rfl)) (hw _ (List.mem_of_getElem? (i := 121) rfl)) (hw _ (List.mem_of_getElem? (i := 21) rfl)) (hw _ (List.mem_of_getElem? (i := 122) rfl)) (by decide) (c_s150 l Z a0 G r a b kb cap cs h S Er Vr Cr hra hrb hlt hB) (by simp) (argsL := [.ref a, .null]) (rest := []) pd_23 rfl rfl rfl rfl 0 (Nat.le_of_eq rfl) (by decide) (by decide) (ck := 1) rfl (cs := 7) rfl (by decide) (by decide) d20_3 6 rfl ?_
  intro T1 h4 X2 hq3
  exact g_ret X2 rfl d20_6 (by decide) (by decide) ⟨rfl, hq3⟩
theorem d19_0 : decode jdk_67_method_42_code 0 = .ok (.new 18, 3) := by decide +kernel
theorem d19_3 : decode jdk_67_method_42_code 3 = .ok (.dup, 1) := by decide +kernel
theorem d19_4 : decode jdk_67_method_42_code 4 = .ok (.aload_n 0, 1) := by decide +kernel
theorem d19_5 : decode jdk_67_method_42_code 5 = .ok (.invokespecial 137, 3) := by decide +kernel
theorem d19_8 : decode jdk_67_method_42_code 8 = .ok (.areturn, 1) := by decide +kernel
set_option maxRecDepth 65536 in
set_option maxHeartbeats 40000000 in
theorem c_sts (l : Launch) (Z : State) (a0 : Array Value) (G : Gl Z a0) (a b : Addr) (kb : ClassId) (cap : Nat) (cs : List Int32) (h : Heap) (S : Sb Z h a b kb cap cs) (hlt : cs.length < cap) (hB : cs.length ≤ 7) :
    Ctr l Z EL nw (⟨"java/lang/StringBuilder", "toString", "()Ljava/lang/String;"⟩ : MethodName) jdk_67_method_42_code 1 (Option.some (Jvm.ClassFile.FieldType.object "java/lang/String")) ({ frames := 5, cells := 2, slots := 11, locals := 79 } : Room) #[.ref a] h [] (ValQ fun w h' => ∃ r, w = .ref r ∧ Ext h h' ∧ StrN Z h h' r cs) := by
  obtain ⟨hw, hEL, hSA, ⟨zc, SC, hz⟩, ⟨fm, SF, hfm⟩, ⟨d1, kd1, SD1, AD1⟩, ⟨d2, kd2, SD2, AD2⟩⟩ := id G
  refine Ctr.enter (own := "java/lang/StringBuilder") (nm := "toString") rfl rfl hEL (plainFor_of_name pn_4) #[.val (.ref a)] (fun m => by first | rfl | (simp [entryFrame, mkF, argsToLocals, Value.category, maxLocals]; done)) ?_
  intro p e s m below meth c T X
  refine g_new X (hw _ (List.mem_of_getElem? (i := 116) rfl)) (hw _ (List.mem_of_getElem? (i := 28) rfl)) (hw _ (List.mem_of_getElem? (i := 21) rfl)) d19_0 (ck := 1) rfl (cs := 4) rfl (by decide) (by decide) 3 rfl ?_
  intro a1 T2 h3 ea4 X5 E6 A7 D8
  have le_a1 : h.size ≤ a1 := by rw [ea4]; exact (Ext.refl h).1
  have ne_a_a1 : a ≠ a1 := by rw [ea4]; exact Nat.ne_of_lt S.lt
  have ne_b_a1 : b ≠ a1 := by rw [ea4]; exact Nat.ne_of_lt S.arv.lt
  have F9 : Fld Z h3 a1 "java/lang/String" "value" "[B" (.null) := D8 (Or.inr (hw _ (List.mem_of_getElem? (i := 29) rfl))) (ty := (.array .byte)) (by rfl)
  have F10 : Fld Z h3 a1 "java/lang/String" "coder" "B" (.int (0 : Int32)) := D8 (Or.inr (hw _ (List.mem_of_getElem? (i := 30) rfl))) (ty := .byte) (by rfl)
  refine g_dup X5 d19_3 rfl 4 rfl ?_
  refine g_aloadN X5 d19_4 rfl rfl 5 rfl ?_
  refine g_callIn X5 rfl (hw _ (List.mem_of_getElem? (i := 117) rfl)) (hw _ (List.mem_of_getElem? (i := 118) rfl)) (hw _ (List.mem_of_getElem? (i := 21) rfl)) (hw _ (List.mem_of_getElem? (i := 119) rfl)) (by decide) (c_s53 l Z a0 G a1 a b kb cap cs h3 (S.ext E6) A7 F9 F10 (Ne.symm ne_a_a1) (Ne.symm ne_b_a1) hlt hB) (by simp) (argsL := [.ref a]) (rest := [.ref a1]) pd_22 rfl rfl rfl rfl 1 (Nat.le_of_eq rfl) (by decide) (by decide) (ck := 2) rfl (cs := 11) rfl (by decide) (by decide) d19_5 8 rfl ?_
  intro T11 h14 X12 hq13
  obtain ⟨K15, Q16⟩ := hq13
  exact g_retA X12 rfl rfl rfl d19_8 (by decide) (by decide) ⟨_, rfl, ⟨a1, rfl, (ext_keep ((Ext.refl h).trans E6) K15 (fun x hx => by cases List.mem_singleton.mp hx; exact le_a1)), strN_of Q16 le_a1 ((Ext.refl h).trans E6).1⟩⟩
theorem d15_0 : decode jdk_33_method_13_code 0 = .ok (.iconst 1, 1) := by decide +kernel
theorem d15_1 : decode jdk_33_method_13_code 1 = .ok (.istore_n 1, 1) := by decide +kernel
theorem d15_2 : decode jdk_33_method_13_code 2 = .ok (.iload_n 0, 1) := by decide +kernel
theorem d15_3 : decode jdk_33_method_13_code 3 = .ok (.ifCond .lt 8, 3) := by decide +kernel
theorem d15_6 : decode jdk_33_method_13_code 6 = .ok (.iconst 0, 1) := by decide +kernel
theorem d15_7 : decode jdk_33_method_13_code 7 = .ok (.istore_n 1, 1) := by decide +kernel
theorem d15_8 : decode jdk_33_method_13_code 8 = .ok (.iload_n 0, 1) := by decide +kernel
theorem d15_9 : decode jdk_33_method_13_code 9 = .ok (.ineg, 1) := by decide +kernel
theorem d15_10 : decode jdk_33_method_13_code 10 = .ok (.istore_n 0, 1) := by decide +kernel
theorem d15_11 : decode jdk_33_method_13_code 11 = .ok (.bipush (-10), 2) := by decide +kernel
theorem d15_13 : decode jdk_33_method_13_code 13 = .ok (.istore_n 2, 1) := by decide +kernel
theorem d15_14 : decode jdk_33_method_13_code 14 = .ok (.iconst 1, 1) := by decide +kernel
theorem d15_15 : decode jdk_33_method_13_code 15 = .ok (.istore_n 3, 1) := by decide +kernel
theorem d15_16 : decode jdk_33_method_13_code 16 = .ok (.iload_n 3, 1) := by decide +kernel
theorem d15_17 : decode jdk_33_method_13_code 17 = .ok (.bipush 10, 2) := by decide +kernel
theorem d15_19 : decode jdk_33_method_13_code 19 = .ok (.if_icmp .ge 23, 3) := by decide +kernel
theorem d15_22 : decode jdk_33_method_13_code 22 = .ok (.iload_n 0, 1) := by decide +kernel
theorem d15_23 : decode jdk_33_method_13_code 23 = .ok (.iload_n 2, 1) := by decide +kernel
theorem d15_24 : decode jdk_33_method_13_code 24 = .ok (.if_icmp .le 7, 3) := by decide +kernel
theorem d15_27 : decode jdk_33_method_13_code 27 = .ok (.iload_n 3, 1) := by decide +kernel
theorem d15_28 : decode jdk_33_method_13_code 28 = .ok (.iload_n 1, 1) := by decide +kernel
theorem d15_29 : decode jdk_33_method_13_code 29 = .ok (.iadd, 1) := by decide +kernel
theorem d15_30 : decode jdk_33_method_13_code 30 = .ok (.ireturn, 1) := by decide +kernel
theorem d15_31 : decode jdk_33_method_13_code 31 = .ok (.bipush 10, 2) := by decide +kernel
theorem d15_33 : decode jdk_33_method_13_code 33 = .ok (.iload_n 2, 1) := by decide +kernel
theorem d15_34 : decode jdk_33_method_13_code 34 = .ok (.imul, 1) := by decide +kernel
theorem d15_35 : decode jdk_33_method_13_code 35 = .ok (.istore_n 2, 1) := by decide +kernel
theorem d15_36 : decode jdk_33_method_13_code 36 = .ok (.iinc 3 1, 3) := by decide +kernel
theorem d15_39 : decode jdk_33_method_13_code 39 = .ok (.goto (-23), 3) := by decide +kernel
theorem d15_42 : decode jdk_33_method_13_code 42 = .ok (.bipush 10, 2) := by decide +kernel
theorem d15_44 : decode jdk_33_method_13_code 44 = .ok (.iload_n 1, 1) := by decide +kernel
theorem d15_45 : decode jdk_33_method_13_code 45 = .ok (.iadd, 1) := by decide +kernel
theorem d15_46 : decode jdk_33_method_13_code 46 = .ok (.ireturn, 1) := by decide +kernel
theorem pn_6 : plainName "java/lang/Integer" = true := by first | (simp [plainName, overriddenIn]; done) | decide +kernel
set_option maxRecDepth 65536 in
set_option maxHeartbeats 40000000 in
theorem c_ss1 (l : Launch) (Z : State) (a0 : Array Value) (G : Gl Z a0) (k : Nat) (h : Heap) (hk : k < 10) :
    Ctr l Z EL nw (⟨"java/lang/Integer", "stringSize", "(I)I"⟩ : MethodName) jdk_33_method_13_code 4 (Option.some Jvm.ClassFile.FieldType.int) ({ frames := 0, cells := 0, slots := 0, locals := 0 } : Room) #[.int (Int32.ofNat k)] h [] (PureQ h fun w => w = .int (1 : Int32)) := by
  obtain ⟨hw, hEL, hSA, ⟨zc, SC, hz⟩, ⟨fm, SF, hfm⟩, ⟨d1, kd1, SD1, AD1⟩, ⟨d2, kd2, SD2, AD2⟩⟩ := id G
  refine Ctr.enter (own := "java/lang/Integer") (nm := "stringSize") rfl rfl hEL (plainFor_of_name pn_6) #[.val (.int (Int32.ofNat k)), .unset, .unset, .unset] (fun m => by first | rfl | (simp [entryFrame, mkF, argsToLocals, Value.category, maxLocals]; done)) ?_
  intro p e s m below meth c T X
  refine g_iconst X (1 : Int32) d15_0 (by decide) 1 rfl ?_
  refine g_istoreN X d15_1 (Ls' := #[.val (.int (Int32.ofNat k)), .val (.int (1 : Int32)), .unset, .unset]) rfl 2 rfl ?_
  refine g_iloadN X d15_2 rfl 3 rfl ?_
  refine g_ifNo X d15_3 (XT.ii_lt_f (of_nn (by omega))) 6 rfl ?_
  refine g_iconst X (0 : Int32) d15_6 (by decide) 7 rfl ?_
  refine g_istoreN X d15_7 (Ls' := #[.val (.int (Int32.ofNat k)), .val (.int (0 : Int32)), .unset, .unset]) rfl 8 rfl ?_
  refine g_iloadN X d15_8 rfl 9 rfl ?_
  refine g_ineg X d15_9 _ rfl 10 rfl ?_
  refine g_istoreN X d15_10 (Ls' := #[.val (.int (-(Int32.ofNat k))), .val (.int (0 : Int32)), .unset, .unset]) rfl 11 rfl ?_
  refine g_bipush X (-10 : Int32) d15_11 (by decide) 13 rfl ?_
  refine g_istoreN X d15_13 (Ls' := #[.val (.int (-(Int32.ofNat k))), .val (.int (0 : Int32)), .val (.int (-10 : Int32)), .unset]) rfl 14 rfl ?_
  refine g_iconst X (1 : Int32) d15_14 (by decide) 15 rfl ?_
  refine g_istoreN X d15_15 (Ls' := #[.val (.int (-(Int32.ofNat k))), .val (.int (0 : Int32)), .val (.int (-10 : Int32)), .val (.int (1 : Int32))]) rfl 16 rfl ?_
  refine g_iloadN X d15_16 rfl 17 rfl ?_
  refine g_bipush X (10 : Int32) d15_17 (by decide) 19 rfl ?_
  refine g_icmpNo X d15_19 (XT.ii_ge_f (by decide)) 22 rfl ?_
  refine g_iloadN X d15_22 rfl 23 rfl ?_
  refine g_iloadN X d15_23 rfl 24 rfl ?_
  refine g_icmpNo X d15_24 (XT.ii_le_f (n_gt (z := -10) (by omega) (by decide) (by omega))) 27 rfl ?_
  refine g_iloadN X d15_27 rfl 28 rfl ?_
  refine g_iloadN X d15_28 rfl 29 rfl ?_
  refine g_iadd X d15_29 (1 : Int32) (by decide) 30 rfl ?_
  exact g_retI X rfl d15_30 (by decide) (by decide) ⟨rfl, _, rfl, rfl⟩
set_option maxRecDepth 65536 in
set_option maxHeartbeats 40000000 in
theorem c_ss2 (l : Launch) (Z : State) (a0 : Array Value) (G : Gl Z a0) (k : Nat) (h : Heap) (hk0 : 10 ≤ k) (hk : k < 100) :
    Ctr l Z EL nw (⟨"java/lang/Integer", "stringSize", "(I)I"⟩ : MethodName) jdk_33_method_13_code 4 (Option.some Jvm.ClassFile.FieldType.int) ({ frames := 0, cells := 0, slots := 0, locals := 0 } : Room) #[.int (Int32.ofNat k)] h [] (PureQ h fun w => w = .int (2 : Int32)) := by
  obtain ⟨hw, hEL, hSA, ⟨zc, SC, hz⟩, ⟨fm, SF, hfm⟩, ⟨d1, kd1, SD1, AD1⟩, ⟨d2, kd2, SD2, AD2⟩⟩ := id G
  refine Ctr.enter (own := "java/lang/Integer") (nm := "stringSize") rfl rfl hEL (plainFor_of_name pn_6) #[.val (.int (Int32.ofNat k)), .unset, .unset, .unset] (fun m => by first | rfl | (simp [entryFrame, mkF, argsToLocals, Value.category, maxLocals]; done)) ?_
  intro p e s m below meth c T X
  refine g_iconst X (1 : Int32) d15_0 (by decide) 1 rfl ?_
  refine g_istoreN X d15_1 (Ls' := #[.val (.int (Int32.ofNat k)), .val (.int (1 : Int32)), .unset, .unset]) rfl 2 rfl ?_
  refine g_iloadN X d15_2 rfl 3 rfl ?_
  refine g_ifNo X d15_3 (XT.ii_lt_f (of_nn (by omega))) 6 rfl ?_
  refine g_iconst X (0 : Int32) d15_6 (by decide) 7 rfl ?_
  refine g_istoreN X d15_7 (Ls' := #[.val (.int (Int32.ofNat k)), .val (.int (0 : Int32)), .unset, .unset]) rfl 8 rfl ?_
  refine g_iloadN X d15_8 rfl 9 rfl ?_
  refine g_ineg X d15_9 _ rfl 10 rfl ?_
  refine g_istoreN X d15_10 (Ls' := #[.val (.int (-(Int32.ofNat k))), .val (.int (0 : Int32)), .unset, .unset]) rfl 11 rfl ?_
  refine g_bipush X (-10 : Int32) d15_11 (by decide) 13 rfl ?_
  refine g_istoreN X d15_13 (Ls' := #[.val (.int (-(Int32.ofNat k))), .val (.int (0 : Int32)), .val (.int (-10 : Int32)), .unset]) rfl 14 rfl ?_
  refine g_iconst X (1 : Int32) d15_14 (by decide) 15 rfl ?_
  refine g_istoreN X d15_15 (Ls' := #[.val (.int (-(Int32.ofNat k))), .val (.int (0 : Int32)), .val (.int (-10 : Int32)), .val (.int (1 : Int32))]) rfl 16 rfl ?_
  refine g_iloadN X d15_16 rfl 17 rfl ?_
  refine g_bipush X (10 : Int32) d15_17 (by decide) 19 rfl ?_
  refine g_icmpNo X d15_19 (XT.ii_ge_f (by decide)) 22 rfl ?_
  refine g_iloadN X d15_22 rfl 23 rfl ?_
  refine g_iloadN X d15_23 rfl 24 rfl ?_
  refine g_icmpYes X d15_24 (XT.ii_le_t (n_ngt (z := -10) (by omega) (by decide) (by omega))) 31 (by decide) (by decide) ?_
  refine g_bipush X (10 : Int32) d15_31 (by decide) 33 rfl ?_
  refine g_iloadN X d15_33 rfl 34 rfl ?_
  refine g_imul X d15_34 (-100 : Int32) (by decide) 35 rfl ?_
  refine g_istoreN X d15_35 (Ls' := #[.val (.int (-(Int32.ofNat k))), .val (.int (0 : Int32)), .val (.int (-100 : Int32)), .val (.int (1 : Int32))]) rfl 36 rfl ?_
  refine g_iinc X d15_36 rfl (2 : Int32) (by decide) (Ls' := #[.val (.int (-(Int32.ofNat k))), .val (.int (0 : Int32)), .val (.int (-100 : Int32)), .val (.int (2 : Int32))]) rfl 39 rfl ?_
  refine g_goto X d15_39 16 (by decide) (by decide) ?_
  refine g_iloadN X d15_16 rfl 17 rfl ?_
  refine g_bipush X (10 : Int32) d15_17 (by decide) 19 rfl ?_
  refine g_icmpNo X d15_19 (XT.ii_ge_f (by decide)) 22 rfl ?_
  refine g_iloadN X d15_22 rfl 23 rfl ?_
  refine g_iloadN X d15_23 rfl 24 rfl ?_
  refine g_icmpNo X d15_24 (XT.ii_le_f (n_gt (z := -100) (by omega) (by decide) (by omega))) 27 rfl ?_
  refine g_iloadN X d15_27 rfl 28 rfl ?_
  refine g_iloadN X d15_28 rfl 29 rfl ?_
  refine g_iadd X d15_29 (2 : Int32) (by decide) 30 rfl ?_
  exact g_retI X rfl d15_30 (by decide) (by decide) ⟨rfl, _, rfl, rfl⟩
set_option maxRecDepth 65536 in
set_option maxHeartbeats 40000000 in
theorem c_ss3 (l : Launch) (Z : State) (a0 : Array Value) (G : Gl Z a0) (k : Nat) (h : Heap) (hk0 : 100 ≤ k) (hk : k < 1000) :
    Ctr l Z EL nw (⟨"java/lang/Integer", "stringSize", "(I)I"⟩ : MethodName) jdk_33_method_13_code 4 (Option.some Jvm.ClassFile.FieldType.int) ({ frames := 0, cells := 0, slots := 0, locals := 0 } : Room) #[.int (Int32.ofNat k)] h [] (PureQ h fun w => w = .int (3 : Int32)) := by
  obtain ⟨hw, hEL, hSA, ⟨zc, SC, hz⟩, ⟨fm, SF, hfm⟩, ⟨d1, kd1, SD1, AD1⟩, ⟨d2, kd2, SD2, AD2⟩⟩ := id G
  refine Ctr.enter (own := "java/lang/Integer") (nm := "stringSize") rfl rfl hEL (plainFor_of_name pn_6) #[.val (.int (Int32.ofNat k)), .unset, .unset, .unset] (fun m => by first | rfl | (simp [entryFrame, mkF, argsToLocals, Value.category, maxLocals]; done)) ?_
  intro p e s m below meth c T X
  refine g_iconst X (1 : Int32) d15_0 (by decide) 1 rfl ?_
  refine g_istoreN X d15_1 (Ls' := #[.val (.int (Int32.ofNat k)), .val (.int (1 : Int32)), .unset, .unset]) rfl 2 rfl ?_
  refine g_iloadN X d15_2 rfl 3 rfl ?_
  refine g_ifNo X d15_3 (XT.ii_lt_f (of_nn (by omega))) 6 rfl ?_
  refine g_iconst X (0 : Int32) d15_6 (by decide) 7 rfl ?_
  refine g_istoreN X d15_7 (Ls' := #[.val (.int (Int32.ofNat k)), .val (.int (0 : Int32)), .unset, .unset]) rfl 8 rfl ?_
  refine g_iloadN X d15_8 rfl 9 rfl ?_
  refine g_ineg X d15_9 _ rfl 10 rfl ?_
  refine g_istoreN X d15_10 (Ls' := #[.val (.int (-(Int32.ofNat k))), .val (.int (0 : Int32)), .unset, .unset]) rfl 11 rfl ?_
  refine g_bipush X (-10 : Int32) d15_11 (by decide) 13 rfl ?_
  refine g_istoreN X d15_13 (Ls' := #[.val (.int (-(Int32.ofNat k))), .val (.int (0 : Int32)), .val (.int (-10 : Int32)), .unset]) rfl 14 rfl ?_
  refine g_iconst X (1 : Int32) d15_14 (by decide) 15 rfl ?_
  refine g_istoreN X d15_15 (Ls' := #[.val (.int (-(Int32.ofNat k))), .val (.int (0 : Int32)), .val (.int (-10 : Int32)), .val (.int (1 : Int32))]) rfl 16 rfl ?_
  refine g_iloadN X d15_16 rfl 17 rfl ?_
  refine g_bipush X (10 : Int32) d15_17 (by decide) 19 rfl ?_
  refine g_icmpNo X d15_19 (XT.ii_ge_f (by decide)) 22 rfl ?_
  refine g_iloadN X d15_22 rfl 23 rfl ?_
  refine g_iloadN X d15_23 rfl 24 rfl ?_
  refine g_icmpYes X d15_24 (XT.ii_le_t (n_ngt (z := -10) (by omega) (by decide) (by omega))) 31 (by decide) (by decide) ?_
  refine g_bipush X (10 : Int32) d15_31 (by decide) 33 rfl ?_
  refine g_iloadN X d15_33 rfl 34 rfl ?_
  refine g_imul X d15_34 (-100 : Int32) (by decide) 35 rfl ?_
  refine g_istoreN X d15_35 (Ls' := #[.val (.int (-(Int32.ofNat k))), .val (.int (0 : Int32)), .val (.int (-100 : Int32)), .val (.int (1 : Int32))]) rfl 36 rfl ?_
  refine g_iinc X d15_36 rfl (2 : Int32) (by decide) (Ls' := #[.val (.int (-(Int32.ofNat k))), .val (.int (0 : Int32)), .val (.int (-100 : Int32)), .val (.int (2 : Int32))]) rfl 39 rfl ?_
  refine g_goto X d15_39 16 (by decide) (by decide) ?_
  refine g_iloadN X d15_16 rfl 17 rfl ?_
  refine g_bipush X (10 : Int32) d15_17 (by decide) 19 rfl ?_
  refine g_icmpNo X d15_19 (XT.ii_ge_f (by decide)) 22 rfl ?_
  refine g_iloadN X d15_22 rfl 23 rfl ?_
  refine g_iloadN X d15_23 rfl 24 rfl ?_
  refine g_icmpYes X d15_24 (XT.ii_le_t (n_ngt (z := -100) (by omega) (by decide) (by omega))) 31 (by decide) (by decide) ?_
  refine g_bipush X (10 : Int32) d15_31 (by decide) 33 rfl ?_
  refine g_iloadN X d15_33 rfl 34 rfl ?_
  refine g_imul X d15_34 (-1000 : Int32) (by decide) 35 rfl ?_
  refine g_istoreN X d15_35 (Ls' := #[.val (.int (-(Int32.ofNat k))), .val (.int (0 : Int32)), .val (.int (-1000 : Int32)), .val (.int (2 : Int32))]) rfl 36 rfl ?_
  refine g_iinc X d15_36 rfl (3 : Int32) (by decide) (Ls' := #[.val (.int (-(Int32.ofNat k))), .val (.int (0 : Int32)), .val (.int (-1000 : Int32)), .val (.int (3 : Int32))]) rfl 39 rfl ?_
  refine g_goto X d15_39 16 (by decide) (by decide) ?_
  refine g_iloadN X d15_16 rfl 17 rfl ?_
  refine g_bipush X (10 : Int32) d15_17 (by decide) 19 rfl ?_
  refine g_icmpNo X d15_19 (XT.ii_ge_f (by decide)) 22 rfl ?_
  refine g_iloadN X d15_22 rfl 23 rfl ?_
  refine g_iloadN X d15_23 rfl 24 rfl ?_
  refine g_icmpNo X d15_24 (XT.ii_le_f (n_gt (z := -1000) (by omega) (by decide) (by omega))) 27 rfl ?_
  refine g_iloadN X d15_27 rfl 28 rfl ?_
  refine g_iloadN X d15_28 rfl 29 rfl ?_
  refine g_iadd X d15_29 (3 : Int32) (by decide) 30 rfl ?_
  exact g_retI X rfl d15_30 (by decide) (by decide) ⟨rfl, _, rfl, rfl⟩
theorem d16_0 : decode jdk_33_method_12_code 0 = .ok (.iload_n 1, 1) := by decide +kernel
theorem d16_1 : decode jdk_33_method_12_code 1 = .ok (.istore 5, 2) := by decide +kernel
theorem d16_3 : decode jdk_33_method_12_code 3 = .ok (.iload_n 0, 1) := by decide +kernel
theorem d16_4 : decode jdk_33_method_12_code 4 = .ok (.ifCond .ge 7, 3) := by decide +kernel
theorem d16_7 : decode jdk_33_method_12_code 7 = .ok (.iconst 1, 1) := by decide +kernel
theorem d16_8 : decode jdk_33_method_12_code 8 = .ok (.goto 4, 3) := by decide +kernel
theorem d16_11 : decode jdk_33_method_12_code 11 = .ok (.iconst 0, 1) := by decide +kernel
theorem d16_12 : decode jdk_33_method_12_code 12 = .ok (.istore 6, 2) := by decide +kernel
theorem d16_14 : decode jdk_33_method_12_code 14 = .ok (.iload 6, 2) := by decide +kernel
theorem d16_16 : decode jdk_33_method_12_code 16 = .ok (.ifCond .ne 6, 3) := by decide +kernel
theorem d16_19 : decode jdk_33_method_12_code 19 = .ok (.iload_n 0, 1) := by decide +kernel
theorem d16_20 : decode jdk_33_method_12_code 20 = .ok (.ineg, 1) := by decide +kernel
theorem d16_21 : decode jdk_33_method_12_code 21 = .ok (.istore_n 0, 1) := by decide +kernel
theorem d16_22 : decode jdk_33_method_12_code 22 = .ok (.iload_n 0, 1) := by decide +kernel
theorem d16_23 : decode jdk_33_method_12_code 23 = .ok (.bipush (-100), 2) := by decide +kernel
theorem d16_25 : decode jdk_33_method_12_code 25 = .ok (.if_icmp .gt 47, 3) := by decide +kernel
theorem d16_28 : decode jdk_33_method_12_code 28 = .ok (.iload_n 0, 1) := by decide +kernel
theorem d16_29 : decode jdk_33_method_12_code 29 = .ok (.bipush 100, 2) := by decide +kernel
theorem d16_31 : decode jdk_33_method_12_code 31 = .ok (.idiv, 1) := by decide +kernel
theorem d16_32 : decode jdk_33_method_12_code 32 = .ok (.istore_n 3, 1) := by decide +kernel
theorem d16_33 : decode jdk_33_method_12_code 33 = .ok (.iload_n 3, 1) := by decide +kernel
theorem d16_34 : decode jdk_33_method_12_code 34 = .ok (.bipush 100, 2) := by decide +kernel
theorem d16_36 : decode jdk_33_method_12_code 36 = .ok (.imul, 1) := by decide +kernel
theorem d16_37 : decode jdk_33_method_12_code 37 = .ok (.iload_n 0, 1) := by decide +kernel
theorem d16_38 : decode jdk_33_method_12_code 38 = .ok (.isub, 1) := by decide +kernel
theorem d16_39 : decode jdk_33_method_12_code 39 = .ok (.istore 4, 2) := by decide +kernel
theorem d16_41 : decode jdk_33_method_12_code 41 = .ok (.iload_n 3, 1) := by decide +kernel
theorem d16_42 : decode jdk_33_method_12_code 42 = .ok (.istore_n 0, 1) := by decide +kernel
theorem d16_43 : decode jdk_33_method_12_code 43 = .ok (.aload_n 2, 1) := by decide +kernel
theorem d16_44 : decode jdk_33_method_12_code 44 = .ok (.iinc 5 (-1), 3) := by decide +kernel
theorem d16_47 : decode jdk_33_method_12_code 47 = .ok (.iload 5, 2) := by decide +kernel
theorem d16_49 : decode jdk_33_method_12_code 49 = .ok (.getstatic 83, 3) := by decide +kernel
theorem d16_52 : decode jdk_33_method_12_code 52 = .ok (.iload 4, 2) := by decide +kernel
theorem d16_54 : decode jdk_33_method_12_code 54 = .ok (.baload, 1) := by decide +kernel
theorem d16_55 : decode jdk_33_method_12_code 55 = .ok (.bastore, 1) := by decide +kernel
theorem d16_56 : decode jdk_33_method_12_code 56 = .ok (.aload_n 2, 1) := by decide +kernel
theorem d16_57 : decode jdk_33_method_12_code 57 = .ok (.iinc 5 (-1), 3) := by decide +kernel
theorem d16_60 : decode jdk_33_method_12_code 60 = .ok (.iload 5, 2) := by decide +kernel
theorem d16_62 : decode jdk_33_method_12_code 62 = .ok (.getstatic 87, 3) := by decide +kernel
theorem d16_65 : decode jdk_33_method_12_code 65 = .ok (.iload 4, 2) := by decide +kernel
theorem d16_67 : decode jdk_33_method_12_code 67 = .ok (.baload, 1) := by decide +kernel
theorem d16_68 : decode jdk_33_method_12_code 68 = .ok (.bastore, 1) := by decide +kernel
theorem d16_69 : decode jdk_33_method_12_code 69 = .ok (.goto (-47), 3) := by decide +kernel
theorem d16_72 : decode jdk_33_method_12_code 72 = .ok (.aload_n 2, 1) := by decide +kernel
theorem d16_73 : decode jdk_33_method_12_code 73 = .ok (.iinc 5 (-1), 3) := by decide +kernel
theorem d16_76 : decode jdk_33_method_12_code 76 = .ok (.iload 5, 2) := by decide +kernel
theorem d16_78 : decode jdk_33_method_12_code 78 = .ok (.getstatic 83, 3) := by decide +kernel
theorem d16_81 : decode jdk_33_method_12_code 81 = .ok (.iload_n 0, 1) := by decide +kernel
theorem d16_82 : decode jdk_33_method_12_code 82 = .ok (.ineg, 1) := by decide +kernel
theorem d16_83 : decode jdk_33_method_12_code 83 = .ok (.baload, 1) := by decide +kernel
theorem d16_84 : decode jdk_33_method_12_code 84 = .ok (.bastore, 1) := by decide +kernel
theorem d16_85 : decode jdk_33_method_12_code 85 = .ok (.iload_n 0, 1) := by decide +kernel
theorem d16_86 : decode jdk_33_method_12_code 86 = .ok (.bipush (-9), 2) := by decide +kernel
theorem d16_88 : decode jdk_33_method_12_code 88 = .ok (.if_icmp .ge 16, 3) := by decide +kernel
theorem d16_91 : decode jdk_33_method_12_code 91 = .ok (.aload_n 2, 1) := by decide +kernel
theorem d16_92 : decode jdk_33_method_12_code 92 = .ok (.iinc 5 (-1), 3) := by decide +kernel
theorem d16_95 : decode jdk_33_method_12_code 95 = .ok (.iload 5, 2) := by decide +kernel
theorem d16_97 : decode jdk_33_method_12_code 97 = .ok (.getstatic 87, 3) := by decide +kernel
theorem d16_100 : decode jdk_33_method_12_code 100 = .ok (.iload_n 0, 1) := by decide +kernel
theorem d16_101 : decode jdk_33_method_12_code 101 = .ok (.ineg, 1) := by decide +kernel
theorem d16_102 : decode jdk_33_method_12_code 102 = .ok (.baload, 1) := by decide +kernel
theorem d16_103 : decode jdk_33_method_12_code 103 = .ok (.bastore, 1) := by decide +kernel
theorem d16_104 : decode jdk_33_method_12_code 104 = .ok (.iload 6, 2) := by decide +kernel
theorem d16_106 : decode jdk_33_method_12_code 106 = .ok (.ifCond .eq 12, 3) := by decide +kernel
theorem d16_109 : decode jdk_33_method_12_code 109 = .ok (.aload_n 2, 1) := by decide +kernel
theorem d16_110 : decode jdk_33_method_12_code 110 = .ok (.iinc 5 (-1), 3) := by decide +kernel
theorem d16_113 : decode jdk_33_method_12_code 113 = .ok (.iload 5, 2) := by decide +kernel
theorem d16_115 : decode jdk_33_method_12_code 115 = .ok (.bipush 45, 2) := by decide +kernel
theorem d16_117 : decode jdk_33_method_12_code 117 = .ok (.bastore, 1) := by decide +kernel
theorem d16_118 : decode jdk_33_method_12_code 118 = .ok (.iload 5, 2) := by decide +kernel
theorem d16_120 : decode jdk_33_method_12_code 120 = .ok (.ireturn, 1) := by decide +kernel
set_option maxRecDepth 65536 in
set_option maxHeartbeats 40000000 in
theorem c_gc1 (l : Launch) (Z : State) (a0 : Array Value) (G : Gl Z a0) (k : Nat) (b : Addr) (kb : ClassId) (h : Heap) (A : Arv Z h b kb .byte (1 : Int32) [.int (0 : Int32)] (.int (0 : Int32))) (hk : k < 10) :
    Ctr l Z EL nw (⟨"java/lang/Integer", "getChars", "(II[B)I"⟩ : MethodName) jdk_33_method_12_code 7 (Option.some Jvm.ClassFile.FieldType.int) ({ frames := 0, cells := 0, slots := 0, locals := 0 } : Room) #[.int (Int32.ofNat k), .int (1 : Int32), .ref b] h [b] (ValQ fun w h' => w = .int (0 : Int32) ∧ Keep h h' [b] ∧ Arv Z h' b kb .byte (1 : Int32) [.int (Int32.ofNat (48 + k % 10))] (.int (0 : Int32))) := by
  obtain ⟨hw, hEL, hSA, ⟨zc, SC, hz⟩, ⟨fm, SF, hfm⟩, ⟨d1, kd1, SD1, AD1⟩, ⟨d2, kd2, SD2, AD2⟩⟩ := id G
  refine Ctr.enter (own := "java/lang/Integer") (nm := "getChars") rfl rfl hEL (plainFor_of_name pn_6) #[.val (.int (Int32.ofNat k)), .val (.int (1 : Int32)), .val (.ref b), .unset, .unset, .unset, .unset] (fun m => by first | rfl | (simp [entryFrame, mkF, argsToLocals, Value.category, maxLocals]; done)) ?_
  intro p e s m below meth c T X
  refine g_iloadN X d16_0 rfl 1 rfl ?_
  refine g_istore X d16_1 (Ls' := #[.val (.int (Int32.ofNat k)), .val (.int (1 : Int32)), .val (.ref b), .unset, .unset, .val (.int (1 : Int32)), .unset]) rfl 3 rfl ?_
  refine g_iloadN X d16_3 rfl 4 rfl ?_
  refine g_ifYes X d16_4 (XT.ii_ge_t (of_nn (by omega))) 11 (by decide) (by decide) ?_
  refine g_iconst X (0 : Int32) d16_11 (by decide) 12 rfl ?_
  refine g_istore X d16_12 (Ls' := #[.val (.int (Int32.ofNat k)), .val (.int (1 : Int32)), .val (.ref b), .unset, .unset, .val (.int (1 : Int32)), .val (.int (0 : Int32))]) rfl 14 rfl ?_
  refine g_iload X d16_14 rfl 16 rfl ?_
  refine g_ifNo X d16_16 (XT.ii_ne_f (by decide)) 19 rfl ?_
  refine g_iloadN X d16_19 rfl 20 rfl ?_
  refine g_ineg X d16_20 _ rfl 21 rfl ?_
  refine g_istoreN X d16_21 (Ls' := #[.val (.int (-(Int32.ofNat k))), .val (.int (1 : Int32)), .val (.ref b), .unset, .unset, .val (.int (1 : Int32)), .val (.int (0 : Int32))]) rfl 22 rfl ?_
  refine g_iloadN X d16_22 rfl 23 rfl ?_
  refine g_bipush X (-100 : Int32) d16_23 (by decide) 25 rfl ?_
  refine g_icmpYes X d16_25 (XT.ii_gt_t (n_gt (z := -100) (by omega) (by decide) (by omega))) 72 (by decide) (by decide) ?_
  refine g_aloadN X d16_72 rfl rfl 73 rfl ?_
  refine g_iinc X d16_73 rfl (0 : Int32) (by decide) (Ls' := #[.val (.int (-(Int32.ofNat k))), .val (.int (1 : Int32)), .val (.ref b), .unset, .unset, .val (.int (0 : Int32)), .val (.int (0 : Int32))]) rfl 76 rfl ?_
  refine g_iload X d16_76 rfl 78 rfl ?_
  refine g_getS X (Or.inl (hw _ (List.mem_of_getElem? (i := 97) rfl))) (host := "") Via.refl (SD1.ext X.old) d16_78 81 rfl ?_
  intro T1 X2
  refine g_iloadN X2 d16_81 rfl 82 rfl ?_
  refine g_ineg X2 d16_82 (Int32.ofNat k) Int32.neg_neg 83 rfl ?_
  refine g_baload X2 (AD1.ext X2.old) (of_nn (by omega)) (of_lt (n := 100) (by omega) (by omega)) (.int (Int32.ofNat (48 + k % 10))) (tab_at (fun r => 48 + r % 10) (by omega)) d16_83 84 rfl ?_
  refine g_bastore X2 A 0 (by decide) (by decide) (by decide) (by simp) (Int32.ofNat (48 + k % 10)) (n_nar _ (by omega)) (by simp) d16_84 85 rfl ?_
  intro T3 h4 X5 W6 B8
  have A7 : Arv Z h4 b kb .byte (1 : Int32) [.int (Int32.ofNat (48 + k % 10))] (.int (0 : Int32)) := B8
  refine g_iloadN X5 d16_85 rfl 86 rfl ?_
  refine g_bipush X5 (-9 : Int32) d16_86 (by decide) 88 rfl ?_
  refine g_icmpYes X5 d16_88 (XT.ii_ge_t (n_nlt (z := -9) (by omega) (by decide) (by omega))) 104 (by decide) (by decide) ?_
  refine g_iload X5 d16_104 rfl 106 rfl ?_
  refine g_ifYes X5 d16_106 (XT.ii_eq_t (by decide)) 118 (by decide) (by decide) ?_
  refine g_iload X5 d16_118 rfl 120 rfl ?_
  exact g_retI X5 rfl d16_120 (by decide) (by decide) ⟨_, rfl, ⟨rfl, ((Keep.refl h [b]).wr W6 (Or.inl (by simp))), A7⟩⟩
set_option maxRecDepth 65536 in
set_option maxHeartbeats 40000000 in
theorem c_gc2 (l : Launch) (Z : State) (a0 : Array Value) (G : Gl Z a0) (k : Nat) (b : Addr) (kb : ClassId) (h : Heap) (A : Arv Z h b kb .byte (2 : Int32) [.int (0 : Int32), .int (0 : Int32)] (.int (0 : Int32))) (hk0 : 10 ≤ k) (hk : k < 100) :
    Ctr l Z EL nw (⟨"java/lang/Integer", "getChars", "(II[B)I"⟩ : MethodName) jdk_33_method_12_code 7 (Option.some Jvm.ClassFile.FieldType.int) ({ frames := 0, cells := 0, slots := 0, locals := 0 } : Room) #[.int (Int32.ofNat k), .int (2 : Int32), .ref b] h [b] (ValQ fun w h' => w = .int (0 : Int32) ∧ Keep h h' [b] ∧ Arv Z h' b kb .byte (2 : Int32) [.int (Int32.ofNat (48 + k / 10)), .int (Int32.ofNat (48 + k % 10))] (.int (0 : Int32))) := by
  obtain ⟨hw, hEL, hSA, ⟨zc, SC, hz⟩, ⟨fm, SF, hfm⟩, ⟨d1, kd1, SD1, AD1⟩, ⟨d2, kd2, SD2, AD2⟩⟩ := id G
  refine Ctr.enter (own := "java/lang/Integer") (nm := "getChars") rfl rfl hEL (plainFor_of_name pn_6) #[.val (.int (Int32.ofNat k)), .val (.int (2 : Int32)), .val (.ref b), .unset, .unset, .unset, .unset] (fun m => by first | rfl | (simp [entryFrame, mkF, argsToLocals, Value.category, maxLocals]; done)) ?_
  intro p e s m below meth c T X
  refine g_iloadN X d16_0 rfl 1 rfl ?_
  refine g_istore X d16_1 (Ls' := #[.val (.int (Int32.ofNat k)), .val (.int (2 : Int32)), .val (.ref b), .unset, .unset, .val (.int (2 : Int32)), .unset]) rfl 3 rfl ?_
  refine g_iloadN X d16_3 rfl 4 rfl ?_
  refine g_ifYes X d16_4 (XT.ii_ge_t (of_nn (by omega))) 11 (by decide) (by decide) ?_
  refine g_iconst X (0 : Int32) d16_11 (by decide) 12 rfl ?_
  refine g_istore X d16_12 (Ls' := #[.val (.int (Int32.ofNat k)), .val (.int (2 : Int32)), .val (.ref b), .unset, .unset, .val (.int (2 : Int32)), .val (.int (0 : Int32))]) rfl 14 rfl ?_
  refine g_iload X d16_14 rfl 16 rfl ?_
  refine g_ifNo X d16_16 (XT.ii_ne_f (by decide)) 19 rfl ?_
  refine g_iloadN X d16_19 rfl 20 rfl ?_
  refine g_ineg X d16_20 _ rfl 21 rfl ?_
  refine g_istoreN X d16_21 (Ls' := #[.val (.int (-(Int32.ofNat k))), .val (.int (2 : Int32)), .val (.ref b), .unset, .unset, .val (.int (2 : Int32)), .val (.int (0 : Int32))]) rfl 22 rfl ?_
  refine g_iloadN X d16_22 rfl 23 rfl ?_
  refine g_bipush X (-100 : Int32) d16_23 (by decide) 25 rfl ?_
  refine g_icmpYes X d16_25 (XT.ii_gt_t (n_gt (z := -100) (by omega) (by decide) (by omega))) 72 (by decide) (by decide) ?_
  refine g_aloadN X d16_72 rfl rfl 73 rfl ?_
  refine g_iinc X d16_73 rfl (1 : Int32) (by decide) (Ls' := #[.val (.int (-(Int32.ofNat k))), .val (.int (2 : Int32)), .val (.ref b), .unset, .unset, .val (.int (1 : Int32)), .val (.int (0 : Int32))]) rfl 76 rfl ?_
  refine g_iload X d16_76 rfl 78 rfl ?_
  refine g_getS X (Or.inl (hw _ (List.mem_of_getElem? (i := 97) rfl))) (host := "") Via.refl (SD1.ext X.old) d16_78 81 rfl ?_
  intro T1 X2
  refine g_iloadN X2 d16_81 rfl 82 rfl ?_
  refine g_ineg X2 d16_82 (Int32.ofNat k) Int32.neg_neg 83 rfl ?_
  refine g_baload X2 (AD1.ext X2.old) (of_nn (by omega)) (of_lt (n := 100) (by omega) (by omega)) (.int (Int32.ofNat (48 + k % 10))) (tab_at (fun r => 48 + r % 10) (by omega)) d16_83 84 rfl ?_
  refine g_bastore X2 A 1 (by decide) (by decide) (by decide) (by simp) (Int32.ofNat (48 + k % 10)) (n_nar _ (by omega)) (by simp) d16_84 85 rfl ?_
  intro T3 h4 X5 W6 B8
  have A7 : Arv Z h4 b kb .byte (2 : Int32) [.int (0 : Int32), .int (Int32.ofNat (48 + k % 10))] (.int (0 : Int32)) := B8
  refine g_iloadN X5 d16_85 rfl 86 rfl ?_
  refine g_bipush X5 (-9 : Int32) d16_86 (by decide) 88 rfl ?_
  refine g_icmpNo X5 d16_88 (XT.ii_ge_f (n_nlt' (z := -9) (by omega) (by decide) (by omega))) 91 rfl ?_
  refine g_aloadN X5 d16_91 rfl rfl 92 rfl ?_
  refine g_iinc X5 d16_92 rfl (0 : Int32) (by decide) (Ls' := #[.val (.int (-(Int32.ofNat k))), .val (.int (2 : Int32)), .val (.ref b), .unset, .unset, .val (.int (0 : Int32)), .val (.int (0 : Int32))]) rfl 95 rfl ?_
  refine g_iload X5 d16_95 rfl 97 rfl ?_
  refine g_getS X5 (Or.inl (hw _ (List.mem_of_getElem? (i := 190) rfl))) (host := "") Via.refl (SD2.ext X5.old) d16_97 100 rfl ?_
  intro T9 X10
  refine g_iloadN X10 d16_100 rfl 101 rfl ?_
  refine g_ineg X10 d16_101 (Int32.ofNat k) Int32.neg_neg 102 rfl ?_
  refine g_baload X10 (AD2.ext X10.old) (of_nn (by omega)) (of_lt (n := 100) (by omega) (by omega)) (.int (Int32.ofNat (48 + k / 10))) (tab_at (fun r => 48 + r / 10) (by omega)) d16_102 103 rfl ?_
  refine g_bastore X10 A7 0 (by decide) (by decide) (by decide) (by simp) (Int32.ofNat (48 + k / 10)) (n_nar _ (by omega)) (by simp) d16_103 104 rfl ?_
  intro T11 h12 X13 W14 B16
  have A15 : Arv Z h12 b kb .byte (2 : Int32) [.int (Int32.ofNat (48 + k / 10)), .int (Int32.ofNat (48 + k % 10))] (.int (0 : Int32)) := B16
  refine g_iload X13 d16_104 rfl 106 rfl ?_
  refine g_ifYes X13 d16_106 (XT.ii_eq_t (by decide)) 118 (by decide) (by decide) ?_
  refine g_iload X13 d16_118 rfl 120 rfl ?_
  exact g_retI X13 rfl d16_120 (by decide) (by decide) ⟨_, rfl, ⟨rfl, (((Keep.refl h [b]).wr W6 (Or.inl (by simp))).wr W14 (Or.inl (by simp))), A15⟩⟩
set_option maxRecDepth 65536 in
set_option maxHeartbeats 40000000 in
theorem c_gc3 (l : Launch) (Z : State) (a0 : Array Value) (G : Gl Z a0) (k : Nat) (b : Addr) (kb : ClassId) (h : Heap) (A : Arv Z h b kb .byte (3 : Int32) [.int (0 : Int32), .int (0 : Int32), .int (0 : Int32)] (.int (0 : Int32))) (hk0 : 100 ≤ k) (hk : k < 1000) :
    Ctr l Z EL nw (⟨"java/lang/Integer", "getChars", "(II[B)I"⟩ : MethodName) jdk_33_method_12_code 7 (Option.some Jvm.ClassFile.FieldType.int) ({ frames := 0, cells := 0, slots := 0, locals := 0 } : Room) #[.int (Int32.ofNat k), .int (3 : Int32), .ref b] h [b] (ValQ fun w h' => w = .int (0 : Int32) ∧ Keep h h' [b] ∧ Arv Z h' b kb .byte (3 : Int32) [.int (Int32.ofNat (48 + (k / 100) % 10)), .int (Int32.ofNat (48 + (k % 100) / 10)), .int (Int32.ofNat (48 + (k % 100) % 10))] (.int (0 : Int32))) := by
  obtain ⟨hw, hEL, hSA, ⟨zc, SC, hz⟩, ⟨fm, SF, hfm⟩, ⟨d1, kd1, SD1, AD1⟩, ⟨d2, kd2, SD2, AD2⟩⟩ := id G
  refine Ctr.enter (own := "java/lang/Integer") (nm := "getChars") rfl rfl hEL (plainFor_of_name pn_6) #[.val (.int (Int32.ofNat k)), .val (.int (3 : Int32)), .val (.ref b), .unset, .unset, .unset, .unset] (fun m => by first | rfl | (simp [entryFrame, mkF, argsToLocals, Value.category, maxLocals]; done)) ?_
  intro p e s m below meth c T X
  refine g_iloadN X d16_0 rfl 1 rfl ?_
  refine g_istore X d16_1 (Ls' := #[.val (.int (Int32.ofNat k)), .val (.int (3 : Int32)), .val (.ref b), .unset, .unset, .val (.int (3 : Int32)), .unset]) rfl 3 rfl ?_
  refine g_iloadN X d16_3 rfl 4 rfl ?_
  refine g_ifYes X d16_4 (XT.ii_ge_t (of_nn (by omega))) 11 (by decide) (by decide) ?_
  refine g_iconst X (0 : Int32) d16_11 (by decide) 12 rfl ?_
  refine g_istore X d16_12 (Ls' := #[.val (.int (Int32.ofNat k)), .val (.int (3 : Int32)), .val (.ref b), .unset, .unset, .val (.int (3 : Int32)), .val (.int (0 : Int32))]) rfl 14 rfl ?_
  refine g_iload X d16_14 rfl 16 rfl ?_
  refine g_ifNo X d16_16 (XT.ii_ne_f (by decide)) 19 rfl ?_
  refine g_iloadN X d16_19 rfl 20 rfl ?_
  refine g_ineg X d16_20 _ rfl 21 rfl ?_
  refine g_istoreN X d16_21 (Ls' := #[.val (.int (-(Int32.ofNat k))), .val (.int (3 : Int32)), .val (.ref b), .unset, .unset, .val (.int (3 : Int32)), .val (.int (0 : Int32))]) rfl 22 rfl ?_
  refine g_iloadN X d16_22 rfl 23 rfl ?_
  refine g_bipush X (-100 : Int32) d16_23 (by decide) 25 rfl ?_
  refine g_icmpNo X d16_25 (XT.ii_gt_f (n_ngt (z := -100) (by omega) (by decide) (by omega))) 28 rfl ?_
  refine g_iloadN X d16_28 rfl 29 rfl ?_
  refine g_bipush X (100 : Int32) d16_29 (by decide) 31 rfl ?_
  refine g_idiv X d16_31 (by decide) (-(Int32.ofNat (k / 100))) (n_ndiv _ (by omega)) 32 rfl ?_
  refine g_istoreN X d16_32 (Ls' := #[.val (.int (-(Int32.ofNat k))), .val (.int (3 : Int32)), .val (.ref b), .val (.int (-(Int32.ofNat (k / 100)))), .unset, .val (.int (3 : Int32)), .val (.int (0 : Int32))]) rfl 33 rfl ?_
  refine g_iloadN X d16_33 rfl 34 rfl ?_
  refine g_bipush X (100 : Int32) d16_34 (by decide) 36 rfl ?_
  refine g_imul X d16_36 _ rfl 37 rfl ?_
  refine g_iloadN X d16_37 rfl 38 rfl ?_
  refine g_isub X d16_38 (Int32.ofNat (k % 100)) (n_q _ (by omega)) 39 rfl ?_
  refine g_istore X d16_39 (Ls' := #[.val (.int (-(Int32.ofNat k))), .val (.int (3 : Int32)), .val (.ref b), .val (.int (-(Int32.ofNat (k / 100)))), .val (.int (Int32.ofNat (k % 100))), .val (.int (3 : Int32)), .val (.int (0 : Int32))]) rfl 41 rfl ?_
  refine g_iloadN X d16_41 rfl 42 rfl ?_
  refine g_istoreN X d16_42 (Ls' := #[.val (.int (-(Int32.ofNat (k / 100)))), .val (.int (3 : Int32)), .val (.ref b), .val (.int (-(Int32.ofNat (k / 100)))), .val (.int (Int32.ofNat (k % 100))), .val (.int (3 : Int32)), .val (.int (0 : Int32))]) rfl 43 rfl ?_
  refine g_aloadN X d16_43 rfl rfl 44 rfl ?_
  refine g_iinc X d16_44 rfl (2 : Int32) (by decide) (Ls' := #[.val (.int (-(Int32.ofNat (k / 100)))), .val (.int (3 : Int32)), .val (.ref b), .val (.int (-(Int32.ofNat (k / 100)))), .val (.int (Int32.ofNat (k % 100))), .val (.int (2 : Int32)), .val (.int (0 : Int32))]) rfl 47 rfl ?_
  refine g_iload X d16_47 rfl 49 rfl ?_
  refine g_getS X (Or.inl (hw _ (List.mem_of_getElem? (i := 97) rfl))) (host := "") Via.refl (SD1.ext X.old) d16_49 52 rfl ?_
  intro T1 X2
  refine g_iload X2 d16_52 rfl 54 rfl ?_
  refine g_baload X2 (AD1.ext X2.old) (of_nn (by omega)) (of_lt (n := 100) (by omega) (by omega)) (.int (Int32.ofNat (48 + (k % 100) % 10))) (tab_at (fun r => 48 + r % 10) (by omega)) d16_54 55 rfl ?_
  refine g_bastore X2 A 2 (by decide) (by decide) (by decide) (by simp) (Int32.ofNat (48 + (k % 100) % 10)) (n_nar _ (by omega)) (by simp) d16_55 56 rfl ?_
  intro T3 h4 X5 W6 B8
  have A7 : Arv Z h4 b kb .byte (3 : Int32) [.int (0 : Int32), .int (0 : Int32), .int (Int32.ofNat (48 + (k % 100) % 10))] (.int (0 : Int32)) := B8
  refine g_aloadN X5 d16_56 rfl rfl 57 rfl ?_
  refine g_iinc X5 d16_57 rfl (1 : Int32) (by decide) (Ls' := #[.val (.int (-(Int32.ofNat (k / 100)))), .val (.int (3 : Int32)), .val (.ref b), .val (.int (-(Int32.ofNat (k / 100)))), .val (.int (Int32.ofNat (k % 100))), .val (.int (1 : Int32)), .val (.int (0 : Int32))]) rfl 60 rfl ?_
  refine g_iload X5 d16_60 rfl 62 rfl ?_
  refine g_getS X5 (Or.inl (hw _ (List.mem_of_getElem? (i := 190) rfl))) (host := "") Via.refl (SD2.ext X5.old) d16_62 65 rfl ?_
  intro T9 X10
  refine g_iload X10 d16_65 rfl 67 rfl ?_
  refine g_baload X10 (AD2.ext X10.old) (of_nn (by omega)) (of_lt (n := 100) (by omega) (by omega)) (.int (Int32.ofNat (48 + (k % 100) / 10))) (tab_at (fun r => 48 + r / 10) (by omega)) d16_67 68 rfl ?_
  refine g_bastore X10 A7 1 (by decide) (by decide) (by decide) (by simp) (Int32.ofNat (48 + (k % 100) / 10)) (n_nar _ (by omega)) (by simp) d16_68 69 rfl ?_
  intro T11 h12 X13 W14 B16
  have A15 : Arv Z h12 b kb .byte (3 : Int32) [.int (0 : Int32), .int (Int32.ofNat (48 + (k % 100) / 10)), .int (Int32.ofNat (48 + (k % 100) % 10))] (.int (0 : Int32)) := B16
  refine g_goto X13 d16_69 22 (by decide) (by decide) ?_
  refine g_iloadN X13 d16_22 rfl 23 rfl ?_
  refine g_bipush X13 (-100 : Int32) d16_23 (by decide) 25 rfl ?_
  refine g_icmpYes X13 d16_25 (XT.ii_gt_t (n_gt (z := -100) (by omega) (by decide) (by omega))) 72 (by decide) (by decide) ?_
  refine g_aloadN X13 d16_72 rfl rfl 73 rfl ?_
  refine g_iinc X13 d16_73 rfl (0 : Int32) (by decide) (Ls' := #[.val (.int (-(Int32.ofNat (k / 100)))), .val (.int (3 : Int32)), .val (.ref b), .val (.int (-(Int32.ofNat (k / 100)))), .val (.int (Int32.ofNat (k % 100))), .val (.int (0 : Int32)), .val (.int (0 : Int32))]) rfl 76 rfl ?_
  refine g_iload X13 d16_76 rfl 78 rfl ?_
  refine g_getS X13 (Or.inl (hw _ (List.mem_of_getElem? (i := 97) rfl))) (host := "") Via.refl (SD1.ext X13.old) d16_78 81 rfl ?_
  intro T17 X18
  refine g_iloadN X18 d16_81 rfl 82 rfl ?_
  refine g_ineg X18 d16_82 (Int32.ofNat (k / 100)) Int32.neg_neg 83 rfl ?_
  refine g_baload X18 (AD1.ext X18.old) (of_nn (by omega)) (of_lt (n := 100) (by omega) (by omega)) (.int (Int32.ofNat (48 + (k / 100) % 10))) (tab_at (fun r => 48 + r % 10) (by omega)) d16_83 84 rfl ?_
  refine g_bastore X18 A15 0 (by decide) (by decide) (by decide) (by simp) (Int32.ofNat (48 + (k / 100) % 10)) (n_nar _ (by omega)) (by simp) d16_84 85 rfl ?_
  intro T19 h20 X21 W22 B24
  have A23 : Arv Z h20 b kb .byte (3 : Int32) [.int (Int32.ofNat (48 + (k / 100) % 10)), .int (Int32.ofNat (48 + (k % 100) / 10)), .int (Int32.ofNat (48 + (k % 100) % 10))] (.int (0 : Int32)) := B24
  refine g_iloadN X21 d16_85 rfl 86 rfl ?_
  refine g_bipush X21 (-9 : Int32) d16_86 (by decide) 88 rfl ?_
  refine g_icmpYes X21 d16_88 (XT.ii_ge_t (n_nlt (z := -9) (by omega) (by decide) (by omega))) 104 (by decide) (by decide) ?_
  refine g_iload X21 d16_104 rfl 106 rfl ?_
  refine g_ifYes X21 d16_106 (XT.ii_eq_t (by decide)) 118 (by decide) (by decide) ?_
  refine g_iload X21 d16_118 rfl 120 rfl ?_
  exact g_retI X21 rfl d16_120 (by decide) (by decide) ⟨_, rfl, ⟨rfl, ((((Keep.refl h [b]).wr W6 (Or.inl (by simp))).wr W14 (Or.inl (by simp))).wr W22 (Or.inl (by simp))), A23⟩⟩
theorem d17_0 : decode jdk_42_method_151_code 0 = .ok (.aload_n 0, 1) := by decide +kernel
theorem d17_1 : decode jdk_42_method_151_code 1 = .ok (.invokespecial 1, 3) := by decide +kernel
theorem d17_4 : decode jdk_42_method_151_code 4 = .ok (.aload_n 0, 1) := by decide +kernel
theorem d17_5 : decode jdk_42_method_151_code 5 = .ok (.aload_n 1, 1) := by decide +kernel
theorem d17_6 : decode jdk_42_method_151_code 6 = .ok (.putfield 9, 3) := by decide +kernel
theorem d17_9 : decode jdk_42_method_151_code 9 = .ok (.aload_n 0, 1) := by decide +kernel
theorem d17_10 : decode jdk_42_method_151_code 10 = .ok (.iload_n 2, 1) := by decide +kernel
theorem d17_11 : decode jdk_42_method_151_code 11 = .ok (.putfield 15, 3) := by decide +kernel
theorem d17_14 : decode jdk_42_method_151_code 14 = .ok (.return_, 1) := by decide +kernel
set_option maxRecDepth 65536 in
set_option maxHeartbeats 40000000 in
theorem c_sbb (l : Launch) (Z : State) (a0 : Array Value) (G : Gl Z a0) (a b : Addr) (h : Heap) (E : Exa Z h a "java/lang/String") (V : Fld Z h a "java/lang/String" "value" "[B" .null) (C : Fld Z h a "java/lang/String" "coder" "B" (.int (0 : Int32))) :
    Ctr l Z EL nw (⟨"java/lang/String", "<init>", "([BB)V"⟩ : MethodName) jdk_42_method_151_code 3 (Option.none : Option Jvm.ClassFile.FieldType) ({ frames := 1, cells := 0, slots := 0, locals := 12 } : Room) #[.ref a, .ref b, .int (0 : Int32)] h [a] (VoidQ fun h' => Keep h h' [a] ∧ Exa Z h' a "java/lang/String" ∧ Fld Z h' a "java/lang/String" "coder" "B" (.int (0 : Int32)) ∧ Fld Z h' a "java/lang/String" "value" "[B" (.ref b)) := by
  obtain ⟨hw, hEL, hSA, ⟨zc, SC, hz⟩, ⟨fm, SF, hfm⟩, ⟨d1, kd1, SD1, AD1⟩, ⟨d2, kd2, SD2, AD2⟩⟩ := id G
  refine Ctr.enter (own := "java/lang/String") (nm := "<init>") rfl rfl hEL (plainFor_of_name pn_0) #[.val (.ref a), .val (.ref b), .val (.int (0 : Int32))] (fun m => by first | rfl | (simp [entryFrame, mkF, argsToLocals, Value.category, maxLocals]; done)) ?_
  intro p e s m below meth c T X
  refine g_aloadN X d17_0 rfl rfl 1 rfl ?_
  refine g_initO X (hw _ (List.mem_of_getElem? (i := 103) rfl)) (hw _ (List.mem_of_getElem? (i := 18) rfl)) (hw _ (List.mem_of_getElem? (i := 19) rfl)) rfl d17_1 (by decide) 0 (Nat.le_of_eq rfl) (by decide) 4 rfl ?_
  intro T1 X2
  refine g_aloadN X2 d17_4 rfl rfl 5 rfl ?_
  refine g_aloadN X2 d17_5 rfl rfl 6 rfl ?_
  refine g_putF X2 (Or.inl (hw _ (List.mem_of_getElem? (i := 48) rfl))) (host := "") Via.refl V E (Or.inr ⟨(hw _ (List.mem_of_getElem? (i := 29) rfl)), rfl, rfl⟩) (hw _ (List.mem_of_getElem? (i := 28) rfl)) (ty := (.array .byte)) (by rfl) rfl rfl (by simp) d17_6 9 rfl ?_
  intro T3 h4 X5 W6 F7 E8
  refine g_aloadN X5 d17_9 rfl rfl 10 rfl ?_
  refine g_iloadN X5 d17_10 rfl 11 rfl ?_
  refine g_putF X5 (Or.inl (hw _ (List.mem_of_getElem? (i := 55) rfl))) (host := "") Via.refl (C.other W6 (Or.inr (slot_ne (Or.inr (hw _ (List.mem_of_getElem? (i := 30) rfl))) (Or.inr (hw _ (List.mem_of_getElem? (i := 29) rfl))) (by decide) (by rfl) (by rfl)))) E8 (Or.inr ⟨(hw _ (List.mem_of_getElem? (i := 30) rfl)), rfl, rfl⟩) (hw _ (List.mem_of_getElem? (i := 28) rfl)) (ty := .byte) (by rfl) rfl rfl (by simp) d17_11 14 rfl ?_
  intro T9 h10 X11 W12 F13 E14
  exact g_ret X11 rfl d17_14 (by decide) (by decide) ⟨rfl, ⟨(((Keep.refl h [a]).wr W6 (Or.inl (by simp))).wr W12 (Or.inl (by simp))), E14, F13, (F7.other W12 (Or.inr (slot_ne (Or.inr (hw _ (List.mem_of_getElem? (i := 29) rfl))) (Or.inr (hw _ (List.mem_of_getElem? (i := 30) rfl))) (by decide) (by rfl) (by rfl))))⟩⟩
theorem d14_0 : decode jdk_33_method_10_code 0 = .ok (.iload_n 0, 1) := by decide +kernel
theorem d14_1 : decode jdk_33_method_10_code 1 = .ok (.invokestatic 72, 3) := by decide +kernel
theorem d14_4 : decode jdk_33_method_10_code 4 = .ok (.istore_n 1, 1) := by decide +kernel
theorem d14_5 : decode jdk_33_method_10_code 5 = .ok (.getstatic 13, 3) := by decide +kernel
theorem d14_8 : decode jdk_33_method_10_code 8 = .ok (.ifCond .eq 24, 3) := by decide +kernel
theorem d14_11 : decode jdk_33_method_10_code 11 = .ok (.iload_n 1, 1) := by decide +kernel
theorem d14_12 : decode jdk_33_method_10_code 12 = .ok (.newarray .byte, 2) := by decide +kernel
theorem d14_14 : decode jdk_33_method_10_code 14 = .ok (.astore_n 2, 1) := by decide +kernel
theorem d14_15 : decode jdk_33_method_10_code 15 = .ok (.iload_n 0, 1) := by decide +kernel
theorem d14_16 : decode jdk_33_method_10_code 16 = .ok (.iload_n 1, 1) := by decide +kernel
theorem d14_17 : decode jdk_33_method_10_code 17 = .ok (.aload_n 2, 1) := by decide +kernel
theorem d14_18 : decode jdk_33_method_10_code 18 = .ok (.invokestatic 75, 3) := by decide +kernel
theorem d14_21 : decode jdk_33_method_10_code 21 = .ok (.pop, 1) := by decide +kernel
theorem d14_22 : decode jdk_33_method_10_code 22 = .ok (.new 5, 3) := by decide +kernel
theorem d14_25 : decode jdk_33_method_10_code 25 = .ok (.dup, 1) := by decide +kernel
theorem d14_26 : decode jdk_33_method_10_code 26 = .ok (.aload_n 2, 1) := by decide +kernel
theorem d14_27 : decode jdk_33_method_10_code 27 = .ok (.iconst 0, 1) := by decide +kernel
theorem d14_28 : decode jdk_33_method_10_code 28 = .ok (.invokespecial 65, 3) := by decide +kernel
theorem d14_31 : decode jdk_33_method_10_code 31 = .ok (.areturn, 1) := by decide +kernel
theorem d14_32 : decode jdk_33_method_10_code 32 = .ok (.iload_n 1, 1) := by decide +kernel
theorem d14_33 : decode jdk_33_method_10_code 33 = .ok (.iconst 2, 1) := by decide +kernel
theorem d14_34 : decode jdk_33_method_10_code 34 = .ok (.imul, 1) := by decide +kernel
theorem d14_35 : decode jdk_33_method_10_code 35 = .ok (.newarray .byte, 2) := by decide +kernel
theorem d14_37 : decode jdk_33_method_10_code 37 = .ok (.astore_n 2, 1) := by decide +kernel
theorem d14_38 : decode jdk_33_method_10_code 38 = .ok (.iload_n 0, 1) := by decide +kernel
theorem d14_39 : decode jdk_33_method_10_code 39 = .ok (.iload_n 1, 1) := by decide +kernel
theorem d14_40 : decode jdk_33_method_10_code 40 = .ok (.aload_n 2, 1) := by decide +kernel
theorem d14_41 : decode jdk_33_method_10_code 41 = .ok (.invokestatic 79, 3) := by decide +kernel
theorem d14_44 : decode jdk_33_method_10_code 44 = .ok (.pop, 1) := by decide +kernel
theorem d14_45 : decode jdk_33_method_10_code 45 = .ok (.new 5, 3) := by decide +kernel
theorem d14_48 : decode jdk_33_method_10_code 48 = .ok (.dup, 1) := by decide +kernel
theorem d14_49 : decode jdk_33_method_10_code 49 = .ok (.aload_n 2, 1) := by decide +kernel
theorem d14_50 : decode jdk_33_method_10_code 50 = .ok (.iconst 1, 1) := by decide +kernel
theorem d14_51 : decode jdk_33_method_10_code 51 = .ok (.invokespecial 65, 3) := by decide +kernel
theorem d14_54 : decode jdk_33_method_10_code 54 = .ok (.areturn, 1) := by decide +kernel
set_option maxRecDepth 65536 in
set_option maxHeartbeats 40000000 in
theorem c_its1 (l : Launch) (Z : State) (a0 : Array Value) (G : Gl Z a0) (k : Nat) (h : Heap) (hk : k < 10) :
    Ctr l Z EL nw (⟨"java/lang/Integer", "toString", "(I)Ljava/lang/String;"⟩ : MethodName) jdk_33_method_10_code 3 (Option.some (Jvm.ClassFile.FieldType.object "java/lang/String")) ({ frames := 2, cells := 2, slots := 5, locals := 27 } : Room) #[.int (Int32.ofNat k)] h [] (ValQ fun w h' => ∃ r, w = .ref r ∧ Ext h h' ∧ StrN Z h h' r [Int32.ofNat (48 + k % 10)]) := by
  obtain ⟨hw, hEL, hSA, ⟨zc, SC, hz⟩, ⟨fm, SF, hfm⟩, ⟨d1, kd1, SD1, AD1⟩, ⟨d2, kd2, SD2, AD2⟩⟩ := id G
  refine Ctr.enter (own := "java/lang/Integer") (nm := "toString") rfl rfl hEL (plainFor_of_name pn_6) #[.val (.int (Int32.ofNat k)), .unset, .unset] (fun m => by first | rfl | (simp [entryFrame, mkF, argsToLocals, Value.category, maxLocals]; done)) ?_
  intro p e s m below meth c T X
  refine g_iloadN X d14_0 rfl 1 rfl ?_
  refine g_callSp X (hw _ (List.mem_of_getElem? (i := 90) rfl)) (hw _ (List.mem_of_getElem? (i := 91) rfl)) (hw _ (List.mem_of_getElem? (i := 88) rfl)) (hw _ (List.mem_of_getElem? (i := 92) rfl)) (by decide) (c_ss1 l Z a0 G k h hk) (by simp) (argsL := [.int (Int32.ofNat k)]) (rest := []) pd_2 rfl rfl rfl rfl 0 (Nat.le_of_eq rfl) (by decide) (by decide) (ck := 0) rfl (cs := 0) rfl (by decide) (by decide) d14_1 4 rfl ?_
  intro w3 T1 X2 hq4
  subst hq4
  refine g_istoreN X2 d14_4 (Ls' := #[.val (.int (Int32.ofNat k)), .val (.int (1 : Int32)), .unset]) rfl 5 rfl ?_
  refine g_getS X2 (Or.inl (hw _ (List.mem_of_getElem? (i := 93) rfl))) (host := "") Via.refl (SC.ext X2.old) d14_5 8 rfl ?_
  intro T5 X6
  refine g_ifNo X6 d14_8 (XT.ii_eq_f hz) 11 rfl ?_
  refine g_iloadN X6 d14_11 rfl 12 rfl ?_
  refine g_newP X6 (hw _ (List.mem_of_getElem? (i := 22) rfl)) d14_12 (by decide) 1 (by decide) (by decide) (ck := 1) rfl (cs := 1) rfl (by decide) (by decide) 14 rfl ?_
  intro a7 T8 h9 k10 ea11 X12 E13 A14
  have A15 : Arv Z h9 a7 k10 .byte (1 : Int32) [.int (0 : Int32)] (.int (0 : Int32)) := A14.pad (fun i => by rcases i with _ | _ | _ | _ | _ | i <;> rfl)
  have le_a7 : h.size ≤ a7 := by rw [ea11]; exact (Ext.refl h).1
  refine g_astoreN X12 d14_14 rfl (Ls' := #[.val (.int (Int32.ofNat k)), .val (.int (1 : Int32)), .val (.ref a7)]) rfl 15 rfl ?_
  refine g_iloadN X12 d14_15 rfl 16 rfl ?_
  refine g_iloadN X12 d14_16 rfl 17 rfl ?_
  refine g_aloadN X12 d14_17 rfl rfl 18 rfl ?_
  refine g_callSv X12 (hw _ (List.mem_of_getElem? (i := 94) rfl)) (hw _ (List.mem_of_getElem? (i := 95) rfl)) (hw _ (List.mem_of_getElem? (i := 88) rfl)) (hw _ (List.mem_of_getElem? (i := 96) rfl)) (by decide) (c_gc1 l Z a0 G k a7 k10 h9 A15 hk) (by simp) (argsL := [.int (Int32.ofNat k), .int (1 : Int32), .ref a7]) (rest := []) pd_3 rfl rfl rfl rfl 0 (Nat.le_of_eq rfl) (by decide) (by decide) (ck := 1) rfl (cs := 1) rfl (by decide) (by decide) d14_18 21 rfl ?_
  intro w18 T16 h20 X17 hq19
  obtain ⟨rfl, K21, A22⟩ := hq19
  refine g_pop X17 d14_21 rfl 22 rfl ?_
  refine g_new X17 (hw _ (List.mem_of_getElem? (i := 98) rfl)) (hw _ (List.mem_of_getElem? (i := 28) rfl)) (hw _ (List.mem_of_getElem? (i := 21) rfl)) d14_22 (ck := 2) rfl (cs := 5) rfl (by decide) (by decide) 25 rfl ?_
  intro a23 T24 h25 ea26 X27 E28 A29 D30
  have le_a23 : h.size ≤ a23 := by rw [ea26]; exact (ext_keep ((Ext.refl h).trans E13) K21 (fun x hx => by cases List.mem_singleton.mp hx; exact le_a7)).1
  have ne_a7_a23 : a7 ≠ a23 := by rw [ea26]; exact Nat.ne_of_lt A22.lt
  have F31 : Fld Z h25 a23 "java/lang/String" "value" "[B" (.null) := D30 (Or.inr (hw _ (List.mem_of_getElem? (i := 29) rfl))) (ty := (.array .byte)) (by rfl)
  have F32 : Fld Z h25 a23 "java/lang/String" "coder" "B" (.int (0 : Int32)) := D30 (Or.inr (hw _ (List.mem_of_getElem? (i := 30) rfl))) (ty := .byte) (by rfl)
  refine g_dup X27 d14_25 rfl 26 rfl ?_
  refine g_aloadN X27 d14_26 rfl rfl 27 rfl ?_
  refine g_iconst X27 (0 : Int32) d14_27 (by decide) 28 rfl ?_
  refine g_callIn X27 rfl (hw _ (List.mem_of_getElem? (i := 99) rfl)) (hw _ (List.mem_of_getElem? (i := 100) rfl)) (hw _ (List.mem_of_getElem? (i := 21) rfl)) (hw _ (List.mem_of_getElem? (i := 102) rfl)) (by decide) (c_sbb l Z a0 G a23 a7 h25 A29 F31 F32) (by simp) (argsL := [.ref a7, .int (0 : Int32)]) (rest := [.ref a23]) pd_4 rfl rfl rfl rfl 1 (Nat.le_of_eq rfl) (by decide) (by decide) (ck := 2) rfl (cs := 5) rfl (by decide) (by decide) d14_28 31 rfl ?_
  intro T33 h36 X34 hq35
  obtain ⟨K37, E38, C39, V40⟩ := hq35
  exact g_retA X34 rfl rfl rfl d14_31 (by decide) (by decide) ⟨_, rfl, ⟨a23, rfl, (ext_keep ((ext_keep ((Ext.refl h).trans E13) K21 (fun x hx => by cases List.mem_singleton.mp hx; exact le_a7)).trans E28) K37 (fun x hx => by cases List.mem_singleton.mp hx; exact le_a23)), ⟨a7, k10, E38, C39, V40, (show Arv Z h36 a7 k10 .byte (1 : Int32) (bys [Int32.ofNat (48 + k % 10)]) (.int (0 : Int32)) from by rw [bys1 (by omega)]; exact ((A22.ext E28).keep K37 (ninS ne_a7_a23 nin0))), (by intro c hc; simp only [List.mem_cons, List.not_mem_nil, or_false] at hc; rcases hc with rfl <;> exact n_ok _ (by omega)), (by simp), le_a23, le_a7⟩⟩⟩
set_option maxRecDepth 65536 in
set_option maxHeartbeats 40000000 in
theorem c_its2 (l : Launch) (Z : State) (a0 : Array Value) (G : Gl Z a0) (k : Nat) (h : Heap) (hk0 : 10 ≤ k) (hk : k < 100) :
    Ctr l Z EL nw (⟨"java/lang/Integer", "toString", "(I)Ljava/lang/String;"⟩ : MethodName) jdk_33_method_10_code 3 (Option.some (Jvm.ClassFile.FieldType.object "java/lang/String")) ({ frames := 2, cells := 2, slots := 6, locals := 27 } : Room) #[.int (Int32.ofNat k)] h [] (ValQ fun w h' => ∃ r, w = .ref r ∧ Ext h h' ∧ StrN Z h h' r [Int32.ofNat (48 + k / 10), Int32.ofNat (48 + k % 10)]) := by
  obtain ⟨hw, hEL, hSA, ⟨zc, SC, hz⟩, ⟨fm, SF, hfm⟩, ⟨d1, kd1, SD1, AD1⟩, ⟨d2, kd2, SD2, AD2⟩⟩ := id G
  refine Ctr.enter (own := "java/lang/Integer") (nm := "toString") rfl rfl hEL (plainFor_of_name pn_6) #[.val (.int (Int32.ofNat k)), .unset, .unset] (fun m => by first | rfl | (simp [entryFrame, mkF, argsToLocals, Value.category, maxLocals]; done)) ?_
  intro p e s m below meth c T X
  refine g_iloadN X d14_0 rfl 1 rfl ?_
  refine g_callSp X (hw _ (List.mem_of_getElem? (i := 90) rfl)) (hw _ (List.mem_of_getElem? (i := 91) rfl)) (hw _ (List.mem_of_getElem? (i := 88) rfl)) (hw _ (List.mem_of_getElem? (i := 92) rfl)) (by decide) (c_ss2 l Z a0 G k h hk0 hk) (by simp) (argsL := [.int (Int32.ofNat k)]) (rest := []) pd_2 rfl rfl rfl rfl 0 (Nat.le_of_eq rfl) (by decide) (by decide) (ck := 0) rfl (cs := 0) rfl (by decide) (by decide) d14_1 4 rfl ?_
  intro w3 T1 X2 hq4
  subst hq4
  refine g_istoreN X2 d14_4 (Ls' := #[.val (.int (Int32.ofNat k)), .val (.int (2 : Int32)), .unset]) rfl 5 rfl ?_
  refine g_getS X2 (Or.inl (hw _ (List.mem_of_getElem? (i := 93) rfl))) (host := "") Via.refl (SC.ext X2.old) d14_5 8 rfl ?_
  intro T5 X6
  refine g_ifNo X6 d14_8 (XT.ii_eq_f hz) 11 rfl ?_
  refine g_iloadN X6 d14_11 rfl 12 rfl ?_
  refine g_newP X6 (hw _ (List.mem_of_getElem? (i := 22) rfl)) d14_12 (by decide) 2 (by decide) (by decide) (ck := 1) rfl (cs := 2) rfl (by decide) (by decide) 14 rfl ?_
  intro a7 T8 h9 k10 ea11 X12 E13 A14
  have A15 : Arv Z h9 a7 k10 .byte (2 : Int32) [.int (0 : Int32), .int (0 : Int32)] (.int (0 : Int32)) := A14.pad (fun i => by rcases i with _ | _ | _ | _ | _ | i <;> rfl)
  have le_a7 : h.size ≤ a7 := by rw [ea11]; exact (Ext.refl h).1
  refine g_astoreN X12 d14_14 rfl (Ls' := #[.val (.int (Int32.ofNat k)), .val (.int (2 : Int32)), .val (.ref a7)]) rfl 15 rfl ?_
  refine g_iloadN X12 d14_15 rfl 16 rfl ?_
  refine g_iloadN X12 d14_16 rfl 17 rfl ?_
  refine g_aloadN X12 d14_17 rfl rfl 18 rfl ?_
  refine g_callSv X12 (hw _ (List.mem_of_getElem? (i := 94) rfl)) (hw _ (List.mem_of_getElem? (i := 95) rfl)) (hw _ (List.mem_of_getElem? (i := 88) rfl)) (hw _ (List.mem_of_getElem? (i := 96) rfl)) (by decide) (c_gc2 l Z a0 G k a7 k10 h9 A15 hk0 hk) (by simp) (argsL := [.int (Int32.ofNat k), .int (2 : Int32), .ref a7]) (rest := []) pd_3 rfl rfl rfl rfl 0 (Nat.le_of_eq rfl) (by decide) (by decide) (ck := 1) rfl (cs := 2) rfl (by decide) (by decide) d14_18 21 rfl ?_
  intro w18 T16 h20 X17 hq19
  obtain ⟨rfl, K21, A22⟩ := hq19
  refine g_pop X17 d14_21 rfl 22 rfl ?_
  refine g_new X17 (hw _ (List.mem_of_getElem? (i := 98) rfl)) (hw _ (List.mem_of_getElem? (i := 28) rfl)) (hw _ (List.mem_of_getElem? (i := 21) rfl)) d14_22 (ck := 2) rfl (cs := 6) rfl (by decide) (by decide) 25 rfl ?_
  intro a23 T24 h25 ea26 X27 E28 A29 D30
  have le_a23 : h.size ≤ a23 := by rw [ea26]; exact (ext_keep ((Ext.refl h).trans E13) K21 (fun x hx => by cases List.mem_singleton.mp hx; exact le_a7)).1
  have ne_a7_a23 : a7 ≠ a23 := by rw [ea26]; exact Nat.ne_of_lt A22.lt
  have F31 : Fld Z h25 a23 "java/lang/String" "value" "[B" (.null) := D30 (Or.inr (hw _ (List.mem_of_getElem? (i := 29) rfl))) (ty := (.array .byte)) (by rfl)
  have F32 : Fld Z h25 a23 "java/lang/String" "coder" "B" (.int (0 : Int32)) := D30 (Or.inr (hw _ (List.mem_of_getElem? (i := 30) rfl))) (ty := .byte) (by rfl)
  refine g_dup X27 d14_25 rfl 26 rfl ?_
  refine g_aloadN X27 d14_26 rfl rfl 27 rfl ?_
  refine g_iconst X27 (0 : Int32) d14_27 (by decide) 28 rfl ?_
  refine g_callIn X27 rfl (hw _ (List.mem_of_getElem? (i := 99) rfl)) (hw _ (List.mem_of_getElem? (i := 100) rfl)) (hw _ (List.mem_of_getElem? (i := 21) rfl)) (hw _ (List.mem_of_getElem? (i := 102) rfl)) (by decide) (c_sbb l Z a0 G a23 a7 h25 A29 F31 F32) (by simp) (argsL := [.ref a7, .int (0 : Int32)]) (rest := [.ref a23]) pd_4 rfl rfl rfl rfl 1 (Nat.le_of_eq rfl) (by decide) (by decide) (ck := 2) rfl (cs := 6) rfl (by decide) (by decide) d14_28 31 rfl ?_
  intro T33 h36 X34 hq35
  obtain ⟨K37, E38, C39, V40⟩ := hq35
  exact g_retA X34 rfl rfl rfl d14_31 (by decide) (by decide) ⟨_, rfl, ⟨a23, rfl, (ext_keep ((ext_keep ((Ext.refl h).trans E13) K21 (fun x hx => by cases List.mem_singleton.mp hx; exact le_a7)).trans E28) K37 (fun x hx => by cases List.mem_singleton.mp hx; exact le_a23)), ⟨a7, k10, E38, C39, V40, (show Arv Z h36 a7 k10 .byte (2 : Int32) (bys [Int32.ofNat (48 + k / 10), Int32.ofNat (48 + k % 10)]) (.int (0 : Int32)) from by rw [bys2 (by omega) (by omega)]; exact ((A22.ext E28).keep K37 (ninS ne_a7_a23 nin0))), (by intro c hc; simp only [List.mem_cons, List.not_mem_nil, or_false] at hc; rcases hc with rfl | rfl <;> exact n_ok _ (by omega)), (by simp), le_a23, le_a7⟩⟩⟩
set_option maxRecDepth 65536 in
set_option maxHeartbeats 40000000 in
theorem c_its3 (l : Launch) (Z : State) (a0 : Array Value) (G : Gl Z a0) (k : Nat) (h : Heap) (hk0 : 100 ≤ k) (hk : k < 1000) :
    Ctr l Z EL nw (⟨"java/lang/Integer", "toString", "(I)Ljava/lang/String;"⟩ : MethodName) jdk_33_method_10_code 3 (Option.some (Jvm.ClassFile.FieldType.object "java/lang/String")) ({ frames := 2, cells := 2, slots := 7, locals := 27 } : Room) #[.int (Int32.ofNat k)] h [] (ValQ fun w h' => ∃ r, w = .ref r ∧ Ext h h' ∧ StrN Z h h' r [Int32.ofNat (48 + (k / 100) % 10), Int32.ofNat (48 + (k % 100) / 10), Int32.ofNat (48 + (k % 100) % 10)]) := by
  obtain ⟨hw, hEL, hSA, ⟨zc, SC, hz⟩, ⟨fm, SF, hfm⟩, ⟨d1, kd1, SD1, AD1⟩, ⟨d2, kd2, SD2, AD2⟩⟩ := id G
  refine Ctr.enter (own := "java/lang/Integer") (nm := "toString") rfl rfl hEL (plainFor_of_name pn_6) #[.val (.int (Int32.ofNat k)), .unset, .unset] (fun m => by first | rfl | (simp [entryFrame, mkF, argsToLocals, Value.category, maxLocals]; done)) ?_
  intro p e s m below meth c T X
  refine g_iloadN X d14_0 rfl 1 rfl ?_
  refine g_callSp X (hw _ (List.mem_of_getElem? (i := 90) rfl)) (hw _ (List.mem_of_getElem? (i := 91) rfl)) (hw _ (List.mem_of_getElem? (i := 88) rfl)) (hw _ (List.mem_of_getElem? (i := 92) rfl)) (by decide) (c_ss3 l Z a0 G k h hk0 hk) (by simp) (argsL := [.int (Int32.ofNat k)]) (rest := []) pd_2 rfl rfl rfl rfl 0 (Nat.le_of_eq rfl) (by decide) (by decide) (ck := 0) rfl (cs := 0) rfl (by decide) (by decide) d14_1 4 rfl ?_
  intro w3 T1 X2 hq4
  subst hq4
  refine g_istoreN X2 d14_4 (Ls' := #[.val (.int (Int32.ofNat k)), .val (.int (3 : Int32)), .unset]) rfl 5 rfl ?_
  refine g_getS X2 (Or.inl (hw _ (List.mem_of_getElem? (i := 93) rfl))) (host := "") Via.refl (SC.ext X2.old) d14_5 8 rfl ?_
  intro T5 X6
  refine g_ifNo X6 d14_8 (XT.ii_eq_f hz) 11 rfl ?_
  refine g_iloadN X6 d14_11 rfl 12 rfl ?_
  refine g_newP X6 (hw _ (List.mem_of_getElem? (i := 22) rfl)) d14_12 (by decide) 3 (by decide) (by decide) (ck := 1) rfl (cs := 3) rfl (by decide) (by decide) 14 rfl ?_
  intro a7 T8 h9 k10 ea11 X12 E13 A14
  have A15 : Arv Z h9 a7 k10 .byte (3 : Int32) [.int (0 : Int32), .int (0 : Int32), .int (0 : Int32)] (.int (0 : Int32)) := A14.pad (fun i => by rcases i with _ | _ | _ | _ | _ | i <;> rfl)
  have le_a7 : h.size ≤ a7 := by rw [ea11]; exact (Ext.refl h).1
  refine g_astoreN X12 d14_14 rfl (Ls' := #[.val (.int (Int32.ofNat k)), .val (.int (3 : Int32)), .val (.ref a7)]) rfl 15 rfl ?_
  refine g_iloadN X12 d14_15 rfl 16 rfl ?_
  refine g_iloadN X12 d14_16 rfl 17 rfl ?_
  refine g_aloadN X12 d14_17 rfl rfl 18 rfl ?_
  refine g_callSv X12 (hw _ (List.mem_of_getElem? (i := 94) rfl)) (hw _ (List.mem_of_getElem? (i := 95) rfl)) (hw _ (List.mem_of_getElem? (i := 88) rfl)) (hw _ (List.mem_of_getElem? (i := 96) rfl)) (by decide) (c_gc3 l Z a0 G k a7 k10 h9 A15 hk0 hk) (by simp) (argsL := [.int (Int32.ofNat k), .int (3 : Int32), .ref a7]) (rest := []) pd_3 rfl rfl rfl rfl 0 (Nat.le_of_eq rfl) (by decide) (by decide) (ck := 1) rfl (cs := 3) rfl (by decide) (by decide) d14_18 21 rfl ?_
  intro w18 T16 h20 X17 hq19
  obtain ⟨rfl, K21, A22⟩ := hq19
  refine g_pop X17 d14_21 rfl 22 rfl ?_
  refine g_new X17 (hw _ (List.mem_of_getElem? (i := 98) rfl)) (hw _ (List.mem_of_getElem? (i := 28) rfl)) (hw _ (List.mem_of_getElem? (i := 21) rfl)) d14_22 (ck := 2) rfl (cs := 7) rfl (by decide) (by decide) 25 rfl ?_
  intro a23 T24 h25 ea26 X27 E28 A29 D30
  have le_a23 : h.size ≤ a23 := by rw [ea26]; exact (ext_keep ((Ext.refl h).trans E13) K21 (fun x hx => by cases List.mem_singleton.mp hx; exact le_a7)).1
  have ne_a7_a23 : a7 ≠ a23 := by rw [ea26]; exact Nat.ne_of_lt A22.lt
  have F31 : Fld Z h25 a23 "java/lang/String" "value" "[B" (.null) := D30 (Or.inr (hw _ (List.mem_of_getElem? (i := 29) rfl))) (ty := (.array .byte)) (by rfl)
  have F32 : Fld Z h25 a23 "java/lang/String" "coder" "B" (.int (0 : Int32)) := D30 (Or.inr (hw _ (List.mem_of_getElem? (i := 30) rfl))) (ty := .byte) (by rfl)
  refine g_dup X27 d14_25 rfl 26 rfl ?_
  refine g_aloadN X27 d14_26 rfl rfl 27 rfl ?_
  refine g_iconst X27 (0 : Int32) d14_27 (by decide) 28 rfl ?_
  refine g_callIn X27 rfl (hw _ (List.mem_of_getElem? (i := 99) rfl)) (hw _ (List.mem_of_getElem? (i := 100) rfl)) (hw _ (List.mem_of_getElem? (i := 21) rfl)) (hw _ (List.mem_of_getElem? (i := 102) rfl)) (by decide) (c_sbb l Z a0 G a23 a7 h25 A29 F31 F32) (by simp) (argsL := [.ref a7, .int (0 : Int32)]) (rest := [.ref a23]) pd_4 rfl rfl rfl rfl 1 (Nat.le_of_eq rfl) (by decide) (by decide) (ck := 2) rfl (cs := 7) rfl (by decide) (by decide) d14_28 31 rfl ?_
  intro T33 h36 X34 hq35
  obtain ⟨K37, E38, C39, V40⟩ := hq35
  exact g_retA X34 rfl rfl rfl d14_31 (by decide) (by decide) ⟨_, rfl, ⟨a23, rfl, (ext_keep ((ext_keep ((Ext.refl h).trans E13) K21 (fun x hx => by cases List.mem_singleton.mp hx; exact le_a7)).trans E28) K37 (fun x hx => by cases List.mem_singleton.mp hx; exact le_a23)), ⟨a7, k10, E38, C39, V40, (show Arv Z h36 a7 k10 .byte (3 : Int32) (bys [Int32.ofNat (48 + (k / 100) % 10), Int32.ofNat (48 + (k % 100) / 10), Int32.ofNat (48 + (k % 100) % 10)]) (.int (0 : Int32)) from by rw [bys3 (by omega) (by omega) (by omega)]; exact ((A22.ext E28).keep K37 (ninS ne_a7_a23 nin0))), (by intro c hc; simp only [List.mem_cons, List.not_mem_nil, or_false] at hc; rcases hc with rfl | rfl | rfl <;> exact n_ok _ (by omega)), (by simp), le_a23, le_a7⟩⟩⟩
theorem d30_0 : decode jdk_65_method_109_code 0 = .ok (.iconst 0, 1) := by decide +kernel
theorem d30_1 : decode jdk_65_method_109_code 1 = .ok (.istore_n 2, 1) := by decide +kernel
theorem d30_2 : decode jdk_65_method_109_code 2 = .ok (.aload_n 0, 1) := by decide +kernel
theorem d30_3 : decode jdk_65_method_109_code 3 = .ok (.arraylength, 1) := by decide +kernel
theorem d30_4 : decode jdk_65_method_109_code 4 = .ok (.istore_n 3, 1) := by decide +kernel
theorem d30_5 : decode jdk_65_method_109_code 5 = .ok (.iload_n 2, 1) := by decide +kernel
theorem d30_6 : decode jdk_65_method_109_code 6 = .ok (.iload_n 3, 1) := by decide +kernel
theorem d30_7 : decode jdk_65_method_109_code 7 = .ok (.if_icmp .ge 13, 3) := by decide +kernel
theorem d30_10 : decode jdk_65_method_109_code 10 = .ok (.aload_n 0, 1) := by decide +kernel
theorem d30_11 : decode jdk_65_method_109_code 11 = .ok (.iload_n 2, 1) := by decide +kernel
theorem d30_12 : decode jdk_65_method_109_code 12 = .ok (.iload_n 1, 1) := by decide +kernel
theorem d30_13 : decode jdk_65_method_109_code 13 = .ok (.bastore, 1) := by decide +kernel
theorem d30_14 : decode jdk_65_method_109_code 14 = .ok (.iinc 2 1, 3) := by decide +kernel
theorem d30_17 : decode jdk_65_method_109_code 17 = .ok (.goto (-12), 3) := by decide +kernel
theorem d30_20 : decode jdk_65_method_109_code 20 = .ok (.return_, 1) := by decide +kernel
set_option maxRecDepth 65536 in
set_option maxHeartbeats 40000000 in
theorem c_fill (l : Launch) (Z : State) (a0 : Array Value) (G : Gl Z a0) (b : Addr) (kb : ClassId) (h : Heap) (A : Arv Z h b kb .byte (2 : Int32) [.int (0 : Int32), .int (0 : Int32)] (.int (0 : Int32))) :
    Ctr l Z EL nw (⟨"java/util/Arrays", "fill", "([BB)V"⟩ : MethodName) jdk_65_method_109_code 4 (Option.none : Option Jvm.ClassFile.FieldType) ({ frames := 0, cells := 0, slots := 0, locals := 0 } : Room) #[.ref b, .int (48 : Int32)] h [b] (VoidQ fun h' => Keep h h' [b] ∧ Arv Z h' b kb .byte (2 : Int32) [.int (48 : Int32), .int (48 : Int32)] (.int (0 : Int32))) := by
  obtain ⟨hw, hEL, hSA, ⟨zc, SC, hz⟩, ⟨fm, SF, hfm⟩, ⟨d1, kd1, SD1, AD1⟩, ⟨d2, kd2, SD2, AD2⟩⟩ := id G
  refine Ctr.enter (own := "java/util/Arrays") (nm := "fill") rfl rfl hEL (plainFor_of_name pn_5) #[.val (.ref b), .val (.int (48 : Int32)), .unset, .unset] (fun m => by first | rfl | (simp [entryFrame, mkF, argsToLocals, Value.category, maxLocals]; done)) ?_
  intro p e s m below meth c T X
  refine g_iconst X (0 : Int32) d30_0 (by decide) 1 rfl ?_
  refine g_istoreN X d30_1 (Ls' := #[.val (.ref b), .val (.int (48 : Int32)), .val (.int (0 : Int32)), .unset]) rfl 2 rfl ?_
  refine g_aloadN X d30_2 rfl rfl 3 rfl ?_
  refine g_arrlen X A d30_3 4 rfl ?_
  refine g_istoreN X d30_4 (Ls' := #[.val (.ref b), .val (.int (48 : Int32)), .val (.int (0 : Int32)), .val (.int (2 : Int32))]) rfl 5 rfl ?_
  refine g_iloadN X d30_5 rfl 6 rfl ?_
  refine g_iloadN X d30_6 rfl 7 rfl ?_
  refine g_icmpNo X d30_7 (XT.ii_ge_f (by decide)) 10 rfl ?_
  refine g_aloadN X d30_10 rfl rfl 11 rfl ?_
  refine g_iloadN X d30_11 rfl 12 rfl ?_
  refine g_iloadN X d30_12 rfl 13 rfl ?_
  refine g_bastore X A 0 (by decide) (by decide) (by decide) (by simp) (48 : Int32) (by decide) (by simp) d30_13 14 rfl ?_
  intro T1 h2 X3 W4 B6
  have A5 : Arv Z h2 b kb .byte (2 : Int32) [.int (48 : Int32), .int (0 : Int32)] (.int (0 : Int32)) := B6
  refine g_iinc X3 d30_14 rfl (1 : Int32) (by decide) (Ls' := #[.val (.ref b), .val (.int (48 : Int32)), .val (.int (1 : Int32)), .val (.int (2 : Int32))]) rfl 17 rfl ?_
  refine g_goto X3 d30_17 5 (by decide) (by decide) ?_
  refine g_iloadN X3 d30_5 rfl 6 rfl ?_
  refine g_iloadN X3 d30_6 rfl 7 rfl ?_
  refine g_icmpNo X3 d30_7 (XT.ii_ge_f (by decide)) 10 rfl ?_
  refine g_aloadN X3 d30_10 rfl rfl 11 rfl ?_
  refine g_iloadN X3 d30_11 rfl 12 rfl ?_
  refine g_iloadN X3 d30_12 rfl 13 rfl ?_
  refine g_bastore X3 A5 1 (by decide) (by decide) (by decide) (by simp) (48 : Int32) (by decide) (by simp) d30_13 14 rfl ?_
  intro T7 h8 X9 W10 B12
  have A11 : Arv Z h8 b kb .byte (2 : Int32) [.int (48 : Int32), .int (48 : Int32)] (.int (0 : Int32)) := B12
  refine g_iinc X9 d30_14 rfl (2 : Int32) (by decide) (Ls' := #[.val (.ref b), .val (.int (48 : Int32)), .val (.int (2 : Int32)), .val (.int (2 : Int32))]) rfl 17 rfl ?_
  refine g_goto X9 d30_17 5 (by decide) (by decide) ?_
  refine g_iloadN X9 d30_5 rfl 6 rfl ?_
  refine g_iloadN X9 d30_6 rfl 7 rfl ?_
  refine g_icmpYes X9 d30_7 (XT.ii_ge_t (by decide)) 20 (by decide) (by decide) ?_
  exact g_ret X9 rfl d30_20 (by decide) (by decide) ⟨rfl, ⟨(((Keep.refl h [b]).wr W4 (Or.inl (by simp))).wr W10 (Or.inl (by simp))), A11⟩⟩
theorem d18_0 : decode jdk_42_method_145_code 0 = .ok (.iload_n 1, 1) := by decide +kernel
theorem d18_1 : decode jdk_42_method_145_code 1 = .ok (.ifCond .ge 31, 3) := by decide +kernel
theorem d18_4 : decode jdk_42_method_145_code 4 = .ok (.new 220, 3) := by decide +kernel
theorem d18_7 : decode jdk_42_method_145_code 7 = .ok (.dup, 1) := by decide +kernel
theorem d18_8 : decode jdk_42_method_145_code 8 = .ok (.new 447, 3) := by decide +kernel
theorem d18_11 : decode jdk_42_method_145_code 11 = .ok (.dup, 1) := by decide +kernel
theorem d18_12 : decode jdk_42_method_145_code 12 = .ok (.invokespecial 449, 3) := by decide +kernel
theorem d18_15 : decode jdk_42_method_145_code 15 = .ok (.ldc_w 1039, 3) := by decide +kernel
theorem d18_18 : decode jdk_42_method_145_code 18 = .ok (.invokevirtual 452, 3) := by decide +kernel
theorem d18_21 : decode jdk_42_method_145_code 21 = .ok (.iload_n 1, 1) := by decide +kernel
theorem d18_22 : decode jdk_42_method_145_code 22 = .ok (.invokevirtual 456, 3) := by decide +kernel
theorem d18_25 : decode jdk_42_method_145_code 25 = .ok (.invokevirtual 461, 3) := by decide +kernel
theorem d18_28 : decode jdk_42_method_145_code 28 = .ok (.invokespecial 969, 3) := by decide +kernel
theorem d18_31 : decode jdk_42_method_145_code 31 = .ok (.athrow, 1) := by decide +kernel
theorem d18_32 : decode jdk_42_method_145_code 32 = .ok (.iload_n 1, 1) := by decide +kernel
theorem d18_33 : decode jdk_42_method_145_code 33 = .ok (.iconst 1, 1) := by decide +kernel
theorem d18_34 : decode jdk_42_method_145_code 34 = .ok (.if_icmp .ne 5, 3) := by decide +kernel
theorem d18_37 : decode jdk_42_method_145_code 37 = .ok (.aload_n 0, 1) := by decide +kernel
theorem d18_38 : decode jdk_42_method_145_code 38 = .ok (.areturn, 1) := by decide +kernel
theorem d18_39 : decode jdk_42_method_145_code 39 = .ok (.aload_n 0, 1) := by decide +kernel
theorem d18_40 : decode jdk_42_method_145_code 40 = .ok (.getfield 9, 3) := by decide +kernel
theorem d18_43 : decode jdk_42_method_145_code 43 = .ok (.arraylength, 1) := by decide +kernel
theorem d18_44 : decode jdk_42_method_145_code 44 = .ok (.istore_n 2, 1) := by decide +kernel
theorem d18_45 : decode jdk_42_method_145_code 45 = .ok (.iload_n 2, 1) := by decide +kernel
theorem d18_46 : decode jdk_42_method_145_code 46 = .ok (.ifCond .eq 7, 3) := by decide +kernel
theorem d18_49 : decode jdk_42_method_145_code 49 = .ok (.iload_n 1, 1) := by decide +kernel
theorem d18_50 : decode jdk_42_method_145_code 50 = .ok (.ifCond .ne 6, 3) := by decide +kernel
theorem d18_53 : decode jdk_42_method_145_code 53 = .ok (.ldc 7, 2) := by decide +kernel
theorem d18_55 : decode jdk_42_method_145_code 55 = .ok (.areturn, 1) := by decide +kernel
theorem d18_56 : decode jdk_42_method_145_code 56 = .ok (.ldc_w 943, 3) := by decide +kernel
theorem d18_59 : decode jdk_42_method_145_code 59 = .ok (.iload_n 1, 1) := by decide +kernel
theorem d18_60 : decode jdk_42_method_145_code 60 = .ok (.idiv, 1) := by decide +kernel
theorem d18_61 : decode jdk_42_method_145_code 61 = .ok (.iload_n 2, 1) := by decide +kernel
theorem d18_62 : decode jdk_42_method_145_code 62 = .ok (.if_icmp .ge 14, 3) := by decide +kernel
theorem d18_65 : decode jdk_42_method_145_code 65 = .ok (.new 748, 3) := by decide +kernel
theorem d18_68 : decode jdk_42_method_145_code 68 = .ok (.dup, 1) := by decide +kernel
theorem d18_69 : decode jdk_42_method_145_code 69 = .ok (.ldc_w 750, 3) := by decide +kernel
theorem d18_72 : decode jdk_42_method_145_code 72 = .ok (.invokespecial 752, 3) := by decide +kernel
theorem d18_75 : decode jdk_42_method_145_code 75 = .ok (.athrow, 1) := by decide +kernel
theorem d18_76 : decode jdk_42_method_145_code 76 = .ok (.iload_n 2, 1) := by decide +kernel
theorem d18_77 : decode jdk_42_method_145_code 77 = .ok (.iconst 1, 1) := by decide +kernel
theorem d18_78 : decode jdk_42_method_145_code 78 = .ok (.if_icmp .ne 30, 3) := by decide +kernel
theorem d18_81 : decode jdk_42_method_145_code 81 = .ok (.iload_n 1, 1) := by decide +kernel
theorem d18_82 : decode jdk_42_method_145_code 82 = .ok (.newarray .byte, 2) := by decide +kernel
theorem d18_84 : decode jdk_42_method_145_code 84 = .ok (.astore_n 3, 1) := by decide +kernel
theorem d18_85 : decode jdk_42_method_145_code 85 = .ok (.aload_n 3, 1) := by decide +kernel
theorem d18_86 : decode jdk_42_method_145_code 86 = .ok (.aload_n 0, 1) := by decide +kernel
theorem d18_87 : decode jdk_42_method_145_code 87 = .ok (.getfield 9, 3) := by decide +kernel
theorem d18_90 : decode jdk_42_method_145_code 90 = .ok (.iconst 0, 1) := by decide +kernel
theorem d18_91 : decode jdk_42_method_145_code 91 = .ok (.baload, 1) := by decide +kernel
theorem d18_92 : decode jdk_42_method_145_code 92 = .ok (.invokestatic 1041, 3) := by decide +kernel
theorem d18_95 : decode jdk_42_method_145_code 95 = .ok (.new 10, 3) := by decide +kernel
theorem d18_98 : decode jdk_42_method_145_code 98 = .ok (.dup, 1) := by decide +kernel
theorem d18_99 : decode jdk_42_method_145_code 99 = .ok (.aload_n 3, 1) := by decide +kernel
theorem d18_100 : decode jdk_42_method_145_code 100 = .ok (.aload_n 0, 1) := by decide +kernel
theorem d18_101 : decode jdk_42_method_145_code 101 = .ok (.getfield 15, 3) := by decide +kernel
theorem d18_104 : decode jdk_42_method_145_code 104 = .ok (.invokespecial 209, 3) := by decide +kernel
theorem d18_107 : decode jdk_42_method_145_code 107 = .ok (.areturn, 1) := by decide +kernel
theorem d18_108 : decode jdk_42_method_145_code 108 = .ok (.iload_n 2, 1) := by decide +kernel
theorem d18_109 : decode jdk_42_method_145_code 109 = .ok (.iload_n 1, 1) := by decide +kernel
theorem d18_110 : decode jdk_42_method_145_code 110 = .ok (.imul, 1) := by decide +kernel
theorem d18_111 : decode jdk_42_method_145_code 111 = .ok (.istore_n 3, 1) := by decide +kernel
theorem d18_112 : decode jdk_42_method_145_code 112 = .ok (.iload_n 3, 1) := by decide +kernel
theorem d18_113 : decode jdk_42_method_145_code 113 = .ok (.newarray .byte, 2) := by decide +kernel
theorem d18_115 : decode jdk_42_method_145_code 115 = .ok (.astore 4, 2) := by decide +kernel
theorem d18_117 : decode jdk_42_method_145_code 117 = .ok (.aload_n 0, 1) := by decide +kernel
theorem d18_118 : decode jdk_42_method_145_code 118 = .ok (.getfield 9, 3) := by decide +kernel
theorem d18_121 : decode jdk_42_method_145_code 121 = .ok (.iconst 0, 1) := by decide +kernel
theorem d18_122 : decode jdk_42_method_145_code 122 = .ok (.aload 4, 2) := by decide +kernel
theorem d18_124 : decode jdk_42_method_145_code 124 = .ok (.iconst 0, 1) := by decide +kernel
theorem d18_125 : decode jdk_42_method_145_code 125 = .ok (.iload_n 2, 1) := by decide +kernel
theorem d18_126 : decode jdk_42_method_145_code 126 = .ok (.invokestatic 212, 3) := by decide +kernel
theorem d18_129 : decode jdk_42_method_145_code 129 = .ok (.aload 4, 2) := by decide +kernel
theorem d18_131 : decode jdk_42_method_145_code 131 = .ok (.iconst 0, 1) := by decide +kernel
theorem d18_132 : decode jdk_42_method_145_code 132 = .ok (.iload_n 3, 1) := by decide +kernel
theorem d18_133 : decode jdk_42_method_145_code 133 = .ok (.iload_n 2, 1) := by decide +kernel
theorem d18_134 : decode jdk_42_method_145_code 134 = .ok (.invokestatic 1044, 3) := by decide +kernel
theorem d18_137 : decode jdk_42_method_145_code 137 = .ok (.new 10, 3) := by decide +kernel
theorem d18_140 : decode jdk_42_method_145_code 140 = .ok (.dup, 1) := by decide +kernel
theorem d18_141 : decode jdk_42_method_145_code 141 = .ok (.aload 4, 2) := by decide +kernel
theorem d18_143 : decode jdk_42_method_145_code 143 = .ok (.aload_n 0, 1) := by decide +kernel
theorem d18_144 : decode jdk_42_method_145_code 144 = .ok (.getfield 15, 3) := by decide +kernel
theorem d18_147 : decode jdk_42_method_145_code 147 = .ok (.invokespecial 209, 3) := by decide +kernel
theorem d18_150 : decode jdk_42_method_145_code 150 = .ok (.areturn, 1) := by decide +kernel
set_option maxRecDepth 65536 in
set_option maxHeartbeats 40000000 in
theorem c_rep0 (l : Launch) (Z : State) (a0 : Array Value) (G : Gl Z a0) (a t : Addr) (kb : ClassId) (us : List Addr) (h : Heap) (E : Exa Z h a "java/lang/String") (C : Fld Z h a "java/lang/String" "coder" "B" (.int (0 : Int32))) (V : Fld Z h a "java/lang/String" "value" "[B" (.ref t)) (A : Arv Z h t kb .byte (1 : Int32) (bys [(48 : Int32)]) (.int (0 : Int32))) :
    Ctr l Z EL nw (⟨"java/lang/String", "repeat", "(I)Ljava/lang/String;"⟩ : MethodName) jdk_42_method_145_code 5 (Option.some (Jvm.ClassFile.FieldType.object "java/lang/String")) ({ frames := 0, cells := 2, slots := 4, locals := 0 } : Room) #[.ref a, .int (0 : Int32)] h us (ValQ fun w h' => ∃ r, w = .ref r ∧ Ext h h' ∧ Str Z h' us r []) := by
  obtain ⟨hw, hEL, hSA, ⟨zc, SC, hz⟩, ⟨fm, SF, hfm⟩, ⟨d1, kd1, SD1, AD1⟩, ⟨d2, kd2, SD2, AD2⟩⟩ := id G
  refine Ctr.enter (own := "java/lang/String") (nm := "repeat") rfl rfl hEL (plainFor_of_name pn_0) #[.val (.ref a), .val (.int (0 : Int32)), .unset, .unset, .unset] (fun m => by first | rfl | (simp [entryFrame, mkF, argsToLocals, Value.category, maxLocals]; done)) ?_
  intro p e s m below meth c T X
  refine g_iloadN X d18_0 rfl 1 rfl ?_
  refine g_ifYes X d18_1 (XT.ii_ge_t (by decide)) 32 (by decide) (by decide) ?_
  refine g_iloadN X d18_32 rfl 33 rfl ?_
  refine g_iconst X (1 : Int32) d18_33 (by decide) 34 rfl ?_
  refine g_icmpYes X d18_34 (XT.ii_ne_t (by decide)) 39 (by decide) (by decide) ?_
  refine g_aloadN X d18_39 rfl rfl 40 rfl ?_
  refine g_getF X (Or.inl (hw _ (List.mem_of_getElem? (i := 48) rfl))) (host := "") Via.refl V d18_40 43 rfl ?_
  intro T1 X2
  refine g_arrlen X2 A d18_43 44 rfl ?_
  refine g_istoreN X2 d18_44 (Ls' := #[.val (.ref a), .val (.int (0 : Int32)), .val (.int (1 : Int32)), .unset, .unset]) rfl 45 rfl ?_
  refine g_iloadN X2 d18_45 rfl 46 rfl ?_
  refine g_ifNo X2 d18_46 (XT.ii_eq_f (by decide)) 49 rfl ?_
  refine g_iloadN X2 d18_49 rfl 50 rfl ?_
  refine g_ifNo X2 d18_50 (XT.ii_ne_f (by decide)) 53 rfl ?_
  refine g_ldcS X2 (cs := []) rfl (hw _ (List.mem_of_getElem? (i := 191) rfl)) hSA (by simp [EL, consts_1]) ⟨by decide, by decide⟩ (by decide) (by decide) d18_53 0 (by decide) (by decide) (ck := 2) rfl (cs' := 4) rfl (by decide) (by decide) 55 rfl ?_
  intro s3 T4 h5 X6 E7 S8
  exact g_retA X6 rfl rfl rfl d18_55 (by decide) (by decide) ⟨_, rfl, ⟨s3, rfl, ((Ext.refl h).trans E7), S8⟩⟩
set_option maxRecDepth 65536 in
set_option maxHeartbeats 40000000 in
theorem c_rep1 (l : Launch) (Z : State) (a0 : Array Value) (G : Gl Z a0) (a t : Addr) (kb : ClassId) (h : Heap) (E : Exa Z h a "java/lang/String") (C : Fld Z h a "java/lang/String" "coder" "B" (.int (0 : Int32))) (V : Fld Z h a "java/lang/String" "value" "[B" (.ref t)) (A : Arv Z h t kb .byte (1 : Int32) (bys [(48 : Int32)]) (.int (0 : Int32))) :
    Ctr l Z EL nw (⟨"java/lang/String", "repeat", "(I)Ljava/lang/String;"⟩ : MethodName) jdk_42_method_145_code 5 (Option.some (Jvm.ClassFile.FieldType.object "java/lang/String")) ({ frames := 0, cells := 0, slots := 0, locals := 0 } : Room) #[.ref a, .int (1 : Int32)] h [] (PureQ h fun w => w = .ref a) := by
  obtain ⟨hw, hEL, hSA, ⟨zc, SC, hz⟩, ⟨fm, SF, hfm⟩, ⟨d1, kd1, SD1, AD1⟩, ⟨d2, kd2, SD2, AD2⟩⟩ := id G
  refine Ctr.enter (own := "java/lang/String") (nm := "repeat") rfl rfl hEL (plainFor_of_name pn_0) #[.val (.ref a), .val (.int (1 : Int32)), .unset, .unset, .unset] (fun m => by first | rfl | (simp [entryFrame, mkF, argsToLocals, Value.category, maxLocals]; done)) ?_
  intro p e s m below meth c T X
  refine g_iloadN X d18_0 rfl 1 rfl ?_
  refine g_ifYes X d18_1 (XT.ii_ge_t (by decide)) 32 (by decide) (by decide) ?_
  refine g_iloadN X d18_32 rfl 33 rfl ?_
  refine g_iconst X (1 : Int32) d18_33 (by decide) 34 rfl ?_
  refine g_icmpNo X d18_34 (XT.ii_ne_f (by decide)) 37 rfl ?_
  refine g_aloadN X d18_37 rfl rfl 38 rfl ?_
  exact g_retA X rfl rfl rfl d18_38 (by decide) (by decide) ⟨rfl, _, rfl, rfl⟩
set_option maxRecDepth 65536 in
set_option maxHeartbeats 40000000 in
theorem c_rep2 (l : Launch) (Z : State) (a0 : Array Value) (G : Gl Z a0) (a t : Addr) (kb : ClassId) (h : Heap) (E : Exa Z h a "java/lang/String") (C : Fld Z h a "java/lang/String" "coder" "B" (.int (0 : Int32))) (V : Fld Z h a "java/lang/String" "value" "[B" (.ref t)) (A : Arv Z h t kb .byte (1 : Int32) (bys [(48 : Int32)]) (.int (0 : Int32))) :
    Ctr l Z EL nw (⟨"java/lang/String", "repeat", "(I)Ljava/lang/String;"⟩ : MethodName) jdk_42_method_145_code 5 (Option.some (Jvm.ClassFile.FieldType.object "java/lang/String")) ({ frames := 2, cells := 2, slots := 6, locals := 27 } : Room) #[.ref a, .int (2 : Int32)] h [] (ValQ fun w h' => ∃ r, w = .ref r ∧ Ext h h' ∧ StrN Z h h' r [(48 : Int32), (48 : Int32)]) := by
  obtain ⟨hw, hEL, hSA, ⟨zc, SC, hz⟩, ⟨fm, SF, hfm⟩, ⟨d1, kd1, SD1, AD1⟩, ⟨d2, kd2, SD2, AD2⟩⟩ := id G
  refine Ctr.enter (own := "java/lang/String") (nm := "repeat") rfl rfl hEL (plainFor_of_name pn_0) #[.val (.ref a), .val (.int (2 : Int32)), .unset, .unset, .unset] (fun m => by first | rfl | (simp [entryFrame, mkF, argsToLocals, Value.category, maxLocals]; done)) ?_
  intro p e s m below meth c T X
  refine g_iloadN X d18_0 rfl 1 rfl ?_
  refine g_ifYes X d18_1 (XT.ii_ge_t (by decide)) 32 (by decide) (by decide) ?_
  refine g_iloadN X d18_32 rfl 33 rfl ?_
  refine g_iconst X (1 : Int32) d18_33 (by decide) 34 rfl ?_
  refine g_icmpYes X d18_34 (XT.ii_ne_t (by decide)) 39 (by decide) (by decide) ?_
  refine g_aloadN X d18_39 rfl rfl 40 rfl ?_
  refine g_getF X (Or.inl (hw _ (List.mem_of_getElem? (i := 48) rfl))) (host := "") Via.refl V d18_40 43 rfl ?_
  intro T1 X2
  refine g_arrlen X2 A d18_43 44 rfl ?_
  refine g_istoreN X2 d18_44 (Ls' := #[.val (.ref a), .val (.int (2 : Int32)), .val (.int (1 : Int32)), .unset, .unset]) rfl 45 rfl ?_
  refine g_iloadN X2 d18_45 rfl 46 rfl ?_
  refine g_ifNo X2 d18_46 (XT.ii_eq_f (by decide)) 49 rfl ?_
  refine g_iloadN X2 d18_49 rfl 50 rfl ?_
  refine g_ifYes X2 d18_50 (XT.ii_ne_t (by decide)) 56 (by decide) (by decide) ?_
  refine g_ldcWI X2 (hw _ (List.mem_of_getElem? (i := 157) rfl)) d18_56 59 rfl ?_
  refine g_iloadN X2 d18_59 rfl 60 rfl ?_
  refine g_idiv X2 d18_60 (by decide) (1073741823 : Int32) (by decide) 61 rfl ?_
  refine g_iloadN X2 d18_61 rfl 62 rfl ?_
  refine g_icmpYes X2 d18_62 (XT.ii_ge_t (by decide)) 76 (by decide) (by decide) ?_
  refine g_iloadN X2 d18_76 rfl 77 rfl ?_
  refine g_iconst X2 (1 : Int32) d18_77 (by decide) 78 rfl ?_
  refine g_icmpNo X2 d18_78 (XT.ii_ne_f (by decide)) 81 rfl ?_
  refine g_iloadN X2 d18_81 rfl 82 rfl ?_
  refine g_newP X2 (hw _ (List.mem_of_getElem? (i := 22) rfl)) d18_82 (by decide) 2 (by decide) (by decide) (ck := 1) rfl (cs := 2) rfl (by decide) (by decide) 84 rfl ?_
  intro a3 T4 h5 k6 ea7 X8 E9 A10
  have A11 : Arv Z h5 a3 k6 .byte (2 : Int32) [.int (0 : Int32), .int (0 : Int32)] (.int (0 : Int32)) := A10.pad (fun i => by rcases i with _ | _ | _ | _ | _ | i <;> rfl)
  have le_a3 : h.size ≤ a3 := by rw [ea7]; exact (Ext.refl h).1
  have ne_a_a3 : a ≠ a3 := by rw [ea7]; exact Nat.ne_of_lt E.lt
  have ne_t_a3 : t ≠ a3 := by rw [ea7]; exact Nat.ne_of_lt A.lt
  refine g_astoreN X8 d18_84 rfl (Ls' := #[.val (.ref a), .val (.int (2 : Int32)), .val (.int (1 : Int32)), .val (.ref a3), .unset]) rfl 85 rfl ?_
  refine g_aloadN X8 d18_85 rfl rfl 86 rfl ?_
  refine g_aloadN X8 d18_86 rfl rfl 87 rfl ?_
  refine g_getF X8 (Or.inl (hw _ (List.mem_of_getElem? (i := 48) rfl))) (host := "") Via.refl (V.ext E9) d18_87 90 rfl ?_
  intro T12 X13
  refine g_iconst X13 (0 : Int32) d18_90 (by decide) 91 rfl ?_
  refine g_baload X13 (A.ext E9) (by decide) (by decide) (.int (48 : Int32)) (by decide) d18_91 92 rfl ?_
  refine g_callSn X13 (hw _ (List.mem_of_getElem? (i := 158) rfl)) (hw _ (List.mem_of_getElem? (i := 159) rfl)) (hw _ (List.mem_of_getElem? (i := 143) rfl)) (hw _ (List.mem_of_getElem? (i := 160) rfl)) (by decide) (c_fill l Z a0 G a3 k6 h5 A11) (by simp) (argsL := [.ref a3, .int (48 : Int32)]) (rest := []) pd_4 rfl rfl rfl rfl 0 (Nat.le_of_eq rfl) (by decide) (by decide) (ck := 1) rfl (cs := 2) rfl (by decide) (by decide) d18_92 95 rfl ?_
  intro T14 h17 X15 hq16
  obtain ⟨K18, A19⟩ := hq16
  refine g_new X15 (hw _ (List.mem_of_getElem? (i := 161) rfl)) (hw _ (List.mem_of_getElem? (i := 28) rfl)) (hw _ (List.mem_of_getElem? (i := 21) rfl)) d18_95 (ck := 2) rfl (cs := 6) rfl (by decide) (by decide) 98 rfl ?_
  intro a20 T21 h22 ea23 X24 E25 A26 D27
  have le_a20 : h.size ≤ a20 := by rw [ea23]; exact (ext_keep ((Ext.refl h).trans E9) K18 (fun x hx => by cases List.mem_singleton.mp hx; exact le_a3)).1
  have ne_a_a20 : a ≠ a20 := by rw [ea23]; exact Nat.ne_of_lt ((E.ext E9).keep K18).lt
  have ne_t_a20 : t ≠ a20 := by rw [ea23]; exact Nat.ne_of_lt ((A.ext E9).keep K18 (ninS ne_t_a3 nin0)).lt
  have ne_a3_a20 : a3 ≠ a20 := by rw [ea23]; exact Nat.ne_of_lt A19.lt
  have F28 : Fld Z h22 a20 "java/lang/String" "value" "[B" (.null) := D27 (Or.inr (hw _ (List.mem_of_getElem? (i := 29) rfl))) (ty := (.array .byte)) (by rfl)
  have F29 : Fld Z h22 a20 "java/lang/String" "coder" "B" (.int (0 : Int32)) := D27 (Or.inr (hw _ (List.mem_of_getElem? (i := 30) rfl))) (ty := .byte) (by rfl)
  refine g_dup X24 d18_98 rfl 99 rfl ?_
  refine g_aloadN X24 d18_99 rfl rfl 100 rfl ?_
  refine g_aloadN X24 d18_100 rfl rfl 101 rfl ?_
  refine g_getF X24 (Or.inl (hw _ (List.mem_of_getElem? (i := 55) rfl))) (host := "") Via.refl (((C.ext E9).keep K18 (ninS ne_a_a3 nin0)).ext E25) d18_101 104 rfl ?_
  intro T30 X31
  refine g_callIn X31 rfl (hw _ (List.mem_of_getElem? (i := 162) rfl)) (hw _ (List.mem_of_getElem? (i := 100) rfl)) (hw _ (List.mem_of_getElem? (i := 21) rfl)) (hw _ (List.mem_of_getElem? (i := 102) rfl)) (by decide) (c_sbb l Z a0 G a20 a3 h22 A26 F28 F29) (by simp) (argsL := [.ref a3, .int (0 : Int32)]) (rest := [.ref a20]) pd_4 rfl rfl rfl rfl 1 (Nat.le_of_eq rfl) (by decide) (by decide) (ck := 2) rfl (cs := 6) rfl (by decide) (by decide) d18_104 107 rfl ?_
  intro T32 h35 X33 hq34
  obtain ⟨K36, E37, C38, V39⟩ := hq34
  exact g_retA X33 rfl rfl rfl d18_107 (by decide) (by decide) ⟨_, rfl, ⟨a20, rfl, (ext_keep ((ext_keep ((Ext.refl h).trans E9) K18 (fun x hx => by cases List.mem_singleton.mp hx; exact le_a3)).trans E25) K36 (fun x hx => by cases List.mem_singleton.mp hx; exact le_a20)), ⟨a3, k6, E37, C38, V39, (((A19.ext E25).keep K36 (ninS ne_a3_a20 nin0)).pad (vs' := bys [(48 : Int32), (48 : Int32)]) (fun i => by rcases i with _ | _ | i <;> first | decide | rfl)), (by decide), (by simp), le_a20, le_a3⟩⟩⟩
theorem d13_0 : decode prog_39_method_6_code 0 = .ok (.iload_n 0, 1) := by decide +kernel
theorem d13_1 : decode prog_39_method_6_code 1 = .ok (.invokestatic 80, 3) := by decide +kernel
theorem d13_4 : decode prog_39_method_6_code 4 = .ok (.astore_n 2, 1) := by decide +kernel
theorem d13_5 : decode prog_39_method_6_code 5 = .ok (.new 12, 3) := by decide +kernel
theorem d13_8 : decode prog_39_method_6_code 8 = .ok (.dup, 1) := by decide +kernel
theorem d13_9 : decode prog_39_method_6_code 9 = .ok (.invokespecial 14, 3) := by decide +kernel
theorem d13_12 : decode prog_39_method_6_code 12 = .ok (.ldc 85, 2) := by decide +kernel
theorem d13_14 : decode prog_39_method_6_code 14 = .ok (.iload_n 1, 1) := by decide +kernel
theorem d13_15 : decode prog_39_method_6_code 15 = .ok (.aload_n 2, 1) := by decide +kernel
theorem d13_16 : decode prog_39_method_6_code 16 = .ok (.invokevirtual 87, 3) := by decide +kernel
theorem d13_19 : decode prog_39_method_6_code 19 = .ok (.isub, 1) := by decide +kernel
theorem d13_20 : decode prog_39_method_6_code 20 = .ok (.invokevirtual 91, 3) := by decide +kernel
theorem d13_23 : decode prog_39_method_6_code 23 = .ok (.invokevirtual 17, 3) := by decide +kernel
theorem d13_26 : decode prog_39_method_6_code 26 = .ok (.aload_n 2, 1) := by decide +kernel
theorem d13_27 : decode prog_39_method_6_code 27 = .ok (.invokevirtual 17, 3) := by decide +kernel
theorem d13_30 : decode prog_39_method_6_code 30 = .ok (.invokevirtual 25, 3) := by decide +kernel
theorem d13_33 : decode prog_39_method_6_code 33 = .ok (.areturn, 1) := by decide +kernel
theorem pn_7 : plainName "com/example/capsa/capsa/benchmark/InputClasses" = true := by first | (simp [plainName, overriddenIn]; done) | decide +kernel
set_option maxRecDepth 65536 in
set_option maxHeartbeats 40000000 in
theorem c_dig2 (l : Launch) (Z : State) (a0 : Array Value) (G : Gl Z a0) (k : Nat) (h : Heap) (hk : k < 100) :
    Ctr l Z EL nw (⟨"com/example/capsa/capsa/benchmark/InputClasses", "digits", "(II)Ljava/lang/String;"⟩ : MethodName) prog_39_method_6_code 3 (Option.some (Jvm.ClassFile.FieldType.object "java/lang/String")) ({ frames := 6, cells := 10, slots := 49, locals := 91 } : Room) #[.int (Int32.ofNat k), .int (2 : Int32)] h [] (ValQ fun w h' => ∃ r, w = .ref r ∧ Ext h h' ∧ StrN Z h h' r [Int32.ofNat (48 + k / 10), Int32.ofNat (48 + k % 10)]) := by
  obtain ⟨hw, hEL, hSA, ⟨zc, SC, hz⟩, ⟨fm, SF, hfm⟩, ⟨d1, kd1, SD1, AD1⟩, ⟨d2, kd2, SD2, AD2⟩⟩ := id G
  refine Ctr.enter (own := "com/example/capsa/capsa/benchmark/InputClasses") (nm := "digits") rfl rfl hEL (plainFor_of_name pn_7) #[.val (.int (Int32.ofNat k)), .val (.int (2 : Int32)), .unset] (fun m => by first | rfl | (simp [entryFrame, mkF, argsToLocals, Value.category, maxLocals]; done)) ?_
  intro p e s m below meth c T X
  rcases Nat.lt_or_ge k 10 with hk1 | hk1
  · skip
    refine g_iloadN X d13_0 rfl 1 rfl ?_
    refine g_callSv X (hw _ (List.mem_of_getElem? (i := 86) rfl)) (hw _ (List.mem_of_getElem? (i := 87) rfl)) (hw _ (List.mem_of_getElem? (i := 88) rfl)) (hw _ (List.mem_of_getElem? (i := 89) rfl)) (by decide) (c_its1 l Z a0 G k h hk1) (by simp) (argsL := [.int (Int32.ofNat k)]) (rest := []) pd_0 rfl rfl rfl rfl 0 (Nat.le_of_eq rfl) (by decide) (by decide) (ck := 2) rfl (cs := 5) rfl (by decide) (by decide) d13_1 4 rfl ?_
    intro w3 T1 h5 X2 hq4
    obtain ⟨r6, rfl, E7, SN8⟩ := hq4
    have S9 : Str Z h5 ([]) r6 [Int32.ofNat (48 + k % 10)] := SN8.str X.news
    refine g_astoreN X2 d13_4 rfl (Ls' := #[.val (.int (Int32.ofNat k)), .val (.int (2 : Int32)), .val (.ref r6)]) rfl 5 rfl ?_
    refine g_new X2 (hw _ (List.mem_of_getElem? (i := 5) rfl)) (hw _ (List.mem_of_getElem? (i := 6) rfl)) (hw _ (List.mem_of_getElem? (i := 7) rfl)) d13_5 (ck := 3) rfl (cs := 9) rfl (by decide) (by decide) 8 rfl ?_
    intro a10 T11 h12 ea13 X14 E15 A16 D17
    have le_a10 : h.size ≤ a10 := by rw [ea13]; exact ((Ext.refl h).trans E7).1
    have ne_r6_a10 : r6 ≠ a10 := by rw [ea13]; exact Nat.ne_of_lt S9.lt
    have F18 : Fld Z h12 a10 "java/lang/AbstractStringBuilder" "value" "[B" (.null) := D17 (Or.inl (hw _ (List.mem_of_getElem? (i := 24) rfl))) (ty := (.array .byte)) (by rfl)
    have F19 : Fld Z h12 a10 "java/lang/AbstractStringBuilder" "coder" "B" (.int (0 : Int32)) := D17 (Or.inl (hw _ (List.mem_of_getElem? (i := 26) rfl))) (ty := .byte) (by rfl)
    have F20 : Fld Z h12 a10 "java/lang/AbstractStringBuilder" "count" "I" (.int (0 : Int32)) := D17 (Or.inl (hw _ (List.mem_of_getElem? (i := 57) rfl))) (ty := .int) (by rfl)
    refine g_dup X14 d13_8 rfl 9 rfl ?_
    refine g_callIn X14 rfl (hw _ (List.mem_of_getElem? (i := 8) rfl)) (hw _ (List.mem_of_getElem? (i := 9) rfl)) (hw _ (List.mem_of_getElem? (i := 7) rfl)) (hw _ (List.mem_of_getElem? (i := 10) rfl)) (by decide) (c_sbi l Z a0 G a10 h12 A16 F18 F19 F20) (by simp) (argsL := []) (rest := [.ref a10]) pd_14 rfl rfl rfl rfl 1 (Nat.le_of_eq rfl) (by decide) (by decide) (ck := 4) rfl (cs := 25) rfl (by decide) (by decide) d13_9 12 rfl ?_
    intro T21 h24 X22 hq23
    obtain ⟨b25, kb26, K27, le28, S29⟩ := hq23
    have X30 := X22.add (elL hw 16 (by decide)) S29.arv (Nat.le_trans X14.old.1 le28)
    have le_b25 : h.size ≤ b25 := Nat.le_trans (((Ext.refl h).trans E7).trans E15).1 le28
    have ne_a10_b25 : a10 ≠ b25 := Nat.ne_of_lt (Nat.lt_of_lt_of_le A16.lt le28)
    have x31 : Ext h h24 := (ext_keep (((Ext.refl h).trans E7).trans E15) K27 (fun x hx => by simp only [List.mem_cons, List.not_mem_nil, or_false] at hx; rcases hx with rfl <;> first | exact le_a10))
    refine g_ldcS X30 (cs := [(48 : Int32)]) rfl (hw _ (List.mem_of_getElem? (i := 104) rfl)) hSA (by simp [EL, consts_1]) ⟨by decide, by decide⟩ (by decide) (by decide) d13_12 4 (by decide) (by decide) (ck := 6) rfl (cs' := 33) rfl (by decide) (by decide) 14 rfl ?_
    intro s32 T33 h34 X35 E36 S37
    refine g_iloadN X35 d13_14 rfl 15 rfl ?_
    refine g_aloadN X35 d13_15 rfl rfl 16 rfl ?_
    obtain ⟨t38, kb39, e40, f41, f42, k43, b44, l45, n46⟩ := id (((S9.grow E15 ea13).growK K27 (by simp) le28).ext E36)
    refine g_callVp X35 (hw _ (List.mem_of_getElem? (i := 105) rfl)) (hw _ (List.mem_of_getElem? (i := 44) rfl)) (hw _ (List.mem_of_getElem? (i := 46) rfl)) (hw _ (List.mem_of_getElem? (i := 45) rfl)) (hw _ (List.mem_of_getElem? (i := 21) rfl)) (hw _ (List.mem_of_getElem? (i := 47) rfl)) (nfSel (hw _ (List.mem_of_getElem? (i := 46) rfl))) (by decide) e40 (c_len l Z a0 G r6 t38 kb39 ([Int32.ofNat (48 + k % 10)]) h34 e40 f41 f42 k43 b44 l45) (by simp) (argsL := []) (rest := [.int (2 : Int32), .ref s32, .ref a10]) pd_6 rfl rfl rfl rfl 3 (Nat.le_of_eq rfl) (by decide) (by decide) (ck := 6) rfl (cs := 33) rfl (by decide) (by decide) d13_16 19 rfl ?_
    intro w49 T47 X48 hq50
    obtain rfl : w49 = .int (1 : Int32) := hq50
    refine g_isub X48 d13_19 (1 : Int32) (by decide) 20 rfl ?_
    obtain ⟨t51, kb52, e53, f54, f55, k56, b57, l58, n59⟩ := id S37
    refine g_callVp X48 (hw _ (List.mem_of_getElem? (i := 106) rfl)) (hw _ (List.mem_of_getElem? (i := 107) rfl)) (hw _ (List.mem_of_getElem? (i := 109) rfl)) (hw _ (List.mem_of_getElem? (i := 108) rfl)) (hw _ (List.mem_of_getElem? (i := 21) rfl)) (hw _ (List.mem_of_getElem? (i := 110) rfl)) (nfSel (hw _ (List.mem_of_getElem? (i := 109) rfl))) (by decide) e53 (c_rep1 l Z a0 G s32 t51 kb52 h34 e53 f54 f55 k56) (by simp) (argsL := [.int (1 : Int32)]) (rest := [.ref a10]) pd_0 rfl rfl rfl rfl 1 (Nat.le_of_eq rfl) (by decide) (by decide) (ck := 6) rfl (cs := 33) rfl (by decide) (by decide) d13_20 23 rfl ?_
    intro w62 T60 X61 hq63
    subst hq63
    refine g_callVv X61 (hw _ (List.mem_of_getElem? (i := 33) rfl)) (hw _ (List.mem_of_getElem? (i := 34) rfl)) (hw _ (List.mem_of_getElem? (i := 36) rfl)) (hw _ (List.mem_of_getElem? (i := 35) rfl)) (hw _ (List.mem_of_getElem? (i := 7) rfl)) (hw _ (List.mem_of_getElem? (i := 37) rfl)) (nfSel (hw _ (List.mem_of_getElem? (i := 36) rfl))) (by decide) (S29.ext E36).1 (c_sba l Z a0 G a10 s32 t51 b25 kb52 kb26 16 ([] : List Int32) ([(48 : Int32)]) h34 (S29.ext E36) e53 f54 f55 k56 b57 l58 (by first | (simp; done) | exact Nat.le_of_ble_eq_true rfl)) (by simp) (argsL := [.ref s32]) (rest := []) pd_16 rfl rfl rfl rfl 0 (Nat.le_of_eq rfl) (by decide) (by decide) (ck := 6) rfl (cs := 33) rfl (by decide) (by decide) d13_23 26 rfl ?_
    intro w66 T64 h68 X65 hq67
    obtain ⟨rfl, K69, S70⟩ := hq67
    have x71 : Ext h h68 := (ext_keep (x31.trans E36) K69 (fun x hx => by simp only [List.mem_cons, List.not_mem_nil, or_false] at hx; rcases hx with rfl | rfl <;> first | exact le_a10 | exact le_b25))
    refine g_aloadN X65 d13_26 rfl rfl 27 rfl ?_
    refine g_callVv X65 (hw _ (List.mem_of_getElem? (i := 33) rfl)) (hw _ (List.mem_of_getElem? (i := 34) rfl)) (hw _ (List.mem_of_getElem? (i := 36) rfl)) (hw _ (List.mem_of_getElem? (i := 35) rfl)) (hw _ (List.mem_of_getElem? (i := 7) rfl)) (hw _ (List.mem_of_getElem? (i := 37) rfl)) (nfSel (hw _ (List.mem_of_getElem? (i := 36) rfl))) (by decide) S70.1 (c_sba l Z a0 G a10 r6 t38 b25 kb39 kb26 16 (([] : List Int32) ++ [(48 : Int32)]) ([Int32.ofNat (48 + k % 10)]) h68 S70 (e40.keep K69) (f41.keep K69 (ninS ne_r6_a10 (ninS (Ne.symm (n46 b25 (by simp)).1) nin0))) (f42.keep K69 (ninS ne_r6_a10 (ninS (Ne.symm (n46 b25 (by simp)).1) nin0))) (k43.keep K69 (ninS (Ne.symm (n46 a10 (by simp)).2) (ninS (Ne.symm (n46 b25 (by simp)).2) nin0))) b44 l45 (by first | (simp; done) | exact Nat.le_of_ble_eq_true rfl)) (by simp) (argsL := [.ref r6]) (rest := []) pd_16 rfl rfl rfl rfl 0 (Nat.le_of_eq rfl) (by decide) (by decide) (ck := 6) rfl (cs := 33) rfl (by decide) (by decide) d13_27 30 rfl ?_
    intro w74 T72 h76 X73 hq75
    obtain ⟨rfl, K77, S78⟩ := hq75
    have x79 : Ext h h76 := (ext_keep x71 K77 (fun x hx => by simp only [List.mem_cons, List.not_mem_nil, or_false] at hx; rcases hx with rfl | rfl <;> first | exact le_a10 | exact le_b25))
    refine g_callVv X73 (hw _ (List.mem_of_getElem? (i := 111) rfl)) (hw _ (List.mem_of_getElem? (i := 112) rfl)) (hw _ (List.mem_of_getElem? (i := 114) rfl)) (hw _ (List.mem_of_getElem? (i := 113) rfl)) (hw _ (List.mem_of_getElem? (i := 7) rfl)) (hw _ (List.mem_of_getElem? (i := 115) rfl)) (nfSel (hw _ (List.mem_of_getElem? (i := 114) rfl))) (by decide) S78.1 (c_sts l Z a0 G a10 b25 kb26 16 ((([] : List Int32) ++ [(48 : Int32)]) ++ [Int32.ofNat (48 + k % 10)]) h76 S78 (by first | (simp; done) | exact Nat.le_of_ble_eq_true rfl) (by first | (simp; done) | exact Nat.le_of_ble_eq_true rfl)) (by simp) (argsL := []) (rest := []) pd_21 rfl rfl rfl rfl 0 (Nat.le_of_eq rfl) (by decide) (by decide) (ck := 8) rfl (cs := 44) rfl (by decide) (by decide) d13_30 33 rfl ?_
    intro w82 T80 h84 X81 hq83
    obtain ⟨r85, rfl, E86, SN87⟩ := hq83
    have S88 : Str Z h84 ([b25, a10]) r85 ((([] : List Int32) ++ [(48 : Int32)]) ++ [Int32.ofNat (48 + k % 10)]) := SN87.str X73.news
    have sn_r85 : StrN Z h h84 r85 ((([] : List Int32) ++ [(48 : Int32)]) ++ [Int32.ofNat (48 + k % 10)]) := SN87.mono x79.1
    exact g_retA X81 rfl rfl rfl d13_33 (by decide) (by decide) ⟨_, rfl, ⟨r85, rfl, (x79.trans E86), (by rw [show ([Int32.ofNat (48 + k / 10), Int32.ofNat (48 + k % 10)] : List Int32) = ((([] : List Int32) ++ [(48 : Int32)]) ++ [Int32.ofNat (48 + k % 10)]) from by (rw [show k / 10 = 0 from by omega]; rfl)]; exact sn_r85)⟩⟩
  · have hk2 := hk
    refine g_iloadN X d13_0 rfl 1 rfl ?_
    refine g_callSv X (hw _ (List.mem_of_getElem? (i := 86) rfl)) (hw _ (List.mem_of_getElem? (i := 87) rfl)) (hw _ (List.mem_of_getElem? (i := 88) rfl)) (hw _ (List.mem_of_getElem? (i := 89) rfl)) (by decide) (c_its2 l Z a0 G k h hk1 hk2) (by simp) (argsL := [.int (Int32.ofNat k)]) (rest := []) pd_0 rfl rfl rfl rfl 0 (Nat.le_of_eq rfl) (by decide) (by decide) (ck := 2) rfl (cs := 6) rfl (by decide) (by decide) d13_1 4 rfl ?_
    intro w91 T89 h93 X90 hq92
    obtain ⟨r94, rfl, E95, SN96⟩ := hq92
    have S97 : Str Z h93 ([]) r94 [Int32.ofNat (48 + k / 10), Int32.ofNat (48 + k % 10)] := SN96.str X.news
    refine g_astoreN X90 d13_4 rfl (Ls' := #[.val (.int (Int32.ofNat k)), .val (.int (2 : Int32)), .val (.ref r94)]) rfl 5 rfl ?_
    refine g_new X90 (hw _ (List.mem_of_getElem? (i := 5) rfl)) (hw _ (List.mem_of_getElem? (i := 6) rfl)) (hw _ (List.mem_of_getElem? (i := 7) rfl)) d13_5 (ck := 3) rfl (cs := 10) rfl (by decide) (by decide) 8 rfl ?_
    intro a98 T99 h100 ea101 X102 E103 A104 D105
    have le_a98 : h.size ≤ a98 := by rw [ea101]; exact ((Ext.refl h).trans E95).1
    have ne_r94_a98 : r94 ≠ a98 := by rw [ea101]; exact Nat.ne_of_lt S97.lt
    have F106 : Fld Z h100 a98 "java/lang/AbstractStringBuilder" "value" "[B" (.null) := D105 (Or.inl (hw _ (List.mem_of_getElem? (i := 24) rfl))) (ty := (.array .byte)) (by rfl)
    have F107 : Fld Z h100 a98 "java/lang/AbstractStringBuilder" "coder" "B" (.int (0 : Int32)) := D105 (Or.inl (hw _ (List.mem_of_getElem? (i := 26) rfl))) (ty := .byte) (by rfl)
    have F108 : Fld Z h100 a98 "java/lang/AbstractStringBuilder" "count" "I" (.int (0 : Int32)) := D105 (Or.inl (hw _ (List.mem_of_getElem? (i := 57) rfl))) (ty := .int) (by rfl)
    refine g_dup X102 d13_8 rfl 9 rfl ?_
    refine g_callIn X102 rfl (hw _ (List.mem_of_getElem? (i := 8) rfl)) (hw _ (List.mem_of_getElem? (i := 9) rfl)) (hw _ (List.mem_of_getElem? (i := 7) rfl)) (hw _ (List.mem_of_getElem? (i := 10) rfl)) (by decide) (c_sbi l Z a0 G a98 h100 A104 F106 F107 F108) (by simp) (argsL := []) (rest := [.ref a98]) pd_14 rfl rfl rfl rfl 1 (Nat.le_of_eq rfl) (by decide) (by decide) (ck := 4) rfl (cs := 26) rfl (by decide) (by decide) d13_9 12 rfl ?_
    intro T109 h112 X110 hq111
    obtain ⟨b113, kb114, K115, le116, S117⟩ := hq111
    have X118 := X110.add (elL hw 16 (by decide)) S117.arv (Nat.le_trans X102.old.1 le116)
    have le_b113 : h.size ≤ b113 := Nat.le_trans (((Ext.refl h).trans E95).trans E103).1 le116
    have ne_a98_b113 : a98 ≠ b113 := Nat.ne_of_lt (Nat.lt_of_lt_of_le A104.lt le116)
    have x119 : Ext h h112 := (ext_keep (((Ext.refl h).trans E95).trans E103) K115 (fun x hx => by simp only [List.mem_cons, List.not_mem_nil, or_false] at hx; rcases hx with rfl <;> first | exact le_a98))
    refine g_ldcS X118 (cs := [(48 : Int32)]) rfl (hw _ (List.mem_of_getElem? (i := 104) rfl)) hSA (by simp [EL, consts_1]) ⟨by decide, by decide⟩ (by decide) (by decide) d13_12 4 (by decide) (by decide) (ck := 6) rfl (cs' := 34) rfl (by decide) (by decide) 14 rfl ?_
    intro s120 T121 h122 X123 E124 S125
    refine g_iloadN X123 d13_14 rfl 15 rfl ?_
    refine g_aloadN X123 d13_15 rfl rfl 16 rfl ?_
    obtain ⟨t126, kb127, e128, f129, f130, k131, b132, l133, n134⟩ := id (((S97.grow E103 ea101).growK K115 (by simp) le116).ext E124)
    refine g_callVp X123 (hw _ (List.mem_of_getElem? (i := 105) rfl)) (hw _ (List.mem_of_getElem? (i := 44) rfl)) (hw _ (List.mem_of_getElem? (i := 46) rfl)) (hw _ (List.mem_of_getElem? (i := 45) rfl)) (hw _ (List.mem_of_getElem? (i := 21) rfl)) (hw _ (List.mem_of_getElem? (i := 47) rfl)) (nfSel (hw _ (List.mem_of_getElem? (i := 46) rfl))) (by decide) e128 (c_len l Z a0 G r94 t126 kb127 ([Int32.ofNat (48 + k / 10), Int32.ofNat (48 + k % 10)]) h122 e128 f129 f130 k131 b132 l133) (by simp) (argsL := []) (rest := [.int (2 : Int32), .ref s120, .ref a98]) pd_6 rfl rfl rfl rfl 3 (Nat.le_of_eq rfl) (by decide) (by decide) (ck := 6) rfl (cs := 34) rfl (by decide) (by decide) d13_16 19 rfl ?_
    intro w137 T135 X136 hq138
    obtain rfl : w137 = .int (2 : Int32) := hq138
    refine g_isub X136 d13_19 (0 : Int32) (by decide) 20 rfl ?_
    obtain ⟨t139, kb140, e141, f142, f143, k144, b145, l146, n147⟩ := id S125
    refine g_callVv X136 (hw _ (List.mem_of_getElem? (i := 106) rfl)) (hw _ (List.mem_of_getElem? (i := 107) rfl)) (hw _ (List.mem_of_getElem? (i := 109) rfl)) (hw _ (List.mem_of_getElem? (i := 108) rfl)) (hw _ (List.mem_of_getElem? (i := 21) rfl)) (hw _ (List.mem_of_getElem? (i := 110) rfl)) (nfSel (hw _ (List.mem_of_getElem? (i := 109) rfl))) (by decide) e141 (c_rep0 l Z a0 G s120 t139 kb140 ([b113, a98]) h122 e141 f142 f143 k144) (fun _ q => q) (argsL := [.int (0 : Int32)]) (rest := [.ref a98]) pd_0 rfl rfl rfl rfl 1 (Nat.le_of_eq rfl) (by decide) (by decide) (ck := 8) rfl (cs := 38) rfl (by decide) (by decide) d13_20 23 rfl ?_
    intro w150 T148 h152 X149 hq151
    obtain ⟨r153, rfl, E154, S155⟩ := hq151
    obtain ⟨t156, kb157, e158, f159, f160, k161, b162, l163, n164⟩ := id S155
    refine g_callVv X149 (hw _ (List.mem_of_getElem? (i := 33) rfl)) (hw _ (List.mem_of_getElem? (i := 34) rfl)) (hw _ (List.mem_of_getElem? (i := 36) rfl)) (hw _ (List.mem_of_getElem? (i := 35) rfl)) (hw _ (List.mem_of_getElem? (i := 7) rfl)) (hw _ (List.mem_of_getElem? (i := 37) rfl)) (nfSel (hw _ (List.mem_of_getElem? (i := 36) rfl))) (by decide) ((S117.ext E124).ext E154).1 (c_sba l Z a0 G a98 r153 t156 b113 kb157 kb114 16 ([] : List Int32) ([] : List Int32) h152 ((S117.ext E124).ext E154) e158 f159 f160 k161 b162 l163 (by first | (simp; done) | exact Nat.le_of_ble_eq_true rfl)) (by simp) (argsL := [.ref r153]) (rest := []) pd_16 rfl rfl rfl rfl 0 (Nat.le_of_eq rfl) (by decide) (by decide) (ck := 8) rfl (cs := 38) rfl (by decide) (by decide) d13_23 26 rfl ?_
    intro w167 T165 h169 X166 hq168
    obtain ⟨rfl, K170, S171⟩ := hq168
    have x172 : Ext h h169 := (ext_keep ((x119.trans E124).trans E154) K170 (fun x hx => by simp only [List.mem_cons, List.not_mem_nil, or_false] at hx; rcases hx with rfl | rfl <;> first | exact le_a98 | exact le_b113))
    refine g_aloadN X166 d13_26 rfl rfl 27 rfl ?_
    refine g_callVv X166 (hw _ (List.mem_of_getElem? (i := 33) rfl)) (hw _ (List.mem_of_getElem? (i := 34) rfl)) (hw _ (List.mem_of_getElem? (i := 36) rfl)) (hw _ (List.mem_of_getElem? (i := 35) rfl)) (hw _ (List.mem_of_getElem? (i := 7) rfl)) (hw _ (List.mem_of_getElem? (i := 37) rfl)) (nfSel (hw _ (List.mem_of_getElem? (i := 36) rfl))) (by decide) S171.1 (c_sba l Z a0 G a98 r94 t126 b113 kb127 kb114 16 (([] : List Int32) ++ ([] : List Int32)) ([Int32.ofNat (48 + k / 10), Int32.ofNat (48 + k % 10)]) h169 S171 ((e128.ext E154).keep K170) ((f129.ext E154).keep K170 (ninS ne_r94_a98 (ninS (Ne.symm (n134 b113 (by simp)).1) nin0))) ((f130.ext E154).keep K170 (ninS ne_r94_a98 (ninS (Ne.symm (n134 b113 (by simp)).1) nin0))) ((k131.ext E154).keep K170 (ninS (Ne.symm (n134 a98 (by simp)).2) (ninS (Ne.symm (n134 b113 (by simp)).2) nin0))) b132 l133 (by first | (simp; done) | exact Nat.le_of_ble_eq_true rfl)) (by simp) (argsL := [.ref r94]) (rest := []) pd_16 rfl rfl rfl rfl 0 (Nat.le_of_eq rfl) (by decide) (by decide) (ck := 8) rfl (cs := 38) rfl (by decide) (by decide) d13_27 30 rfl ?_
    intro w175 T173 h177 X174 hq176
    obtain ⟨rfl, K178, S179⟩ := hq176
    have x180 : Ext h h177 := (ext_keep x172 K178 (fun x hx => by simp only [List.mem_cons, List.not_mem_nil, or_false] at hx; rcases hx with rfl | rfl <;> first | exact le_a98 | exact le_b113))
    refine g_callVv X174 (hw _ (List.mem_of_getElem? (i := 111) rfl)) (hw _ (List.mem_of_getElem? (i := 112) rfl)) (hw _ (List.mem_of_getElem? (i := 114) rfl)) (hw _ (List.mem_of_getElem? (i := 113) rfl)) (hw _ (List.mem_of_getElem? (i := 7) rfl)) (hw _ (List.mem_of_getElem? (i := 115) rfl)) (nfSel (hw _ (List.mem_of_getElem? (i := 114) rfl))) (by decide) S179.1 (c_sts l Z a0 G a98 b113 kb114 16 ((([] : List Int32) ++ ([] : List Int32)) ++ [Int32.ofNat (48 + k / 10), Int32.ofNat (48 + k % 10)]) h177 S179 (by first | (simp; done) | exact Nat.le_of_ble_eq_true rfl) (by first | (simp; done) | exact Nat.le_of_ble_eq_true rfl)) (by simp) (argsL := []) (rest := []) pd_21 rfl rfl rfl rfl 0 (Nat.le_of_eq rfl) (by decide) (by decide) (ck := 10) rfl (cs := 49) rfl (by decide) (by decide) d13_30 33 rfl ?_
    intro w183 T181 h185 X182 hq184
    obtain ⟨r186, rfl, E187, SN188⟩ := hq184
    have S189 : Str Z h185 ([b113, a98]) r186 ((([] : List Int32) ++ ([] : List Int32)) ++ [Int32.ofNat (48 + k / 10), Int32.ofNat (48 + k % 10)]) := SN188.str X174.news
    have sn_r186 : StrN Z h h185 r186 ((([] : List Int32) ++ ([] : List Int32)) ++ [Int32.ofNat (48 + k / 10), Int32.ofNat (48 + k % 10)]) := SN188.mono x180.1
    exact g_retA X182 rfl rfl rfl d13_33 (by decide) (by decide) ⟨_, rfl, ⟨r186, rfl, (x180.trans E187), (by rw [show ([Int32.ofNat (48 + k / 10), Int32.ofNat (48 + k % 10)] : List Int32) = ((([] : List Int32) ++ ([] : List Int32)) ++ [Int32.ofNat (48 + k / 10), Int32.ofNat (48 + k % 10)]) from by (rfl)]; exact sn_r186)⟩⟩
set_option maxRecDepth 65536 in
set_option maxHeartbeats 40000000 in
theorem c_dig3 (l : Launch) (Z : State) (a0 : Array Value) (G : Gl Z a0) (k : Nat) (h : Heap) (hk : k < 1000) :
    Ctr l Z EL nw (⟨"com/example/capsa/capsa/benchmark/InputClasses", "digits", "(II)Ljava/lang/String;"⟩ : MethodName) prog_39_method_6_code 3 (Option.some (Jvm.ClassFile.FieldType.object "java/lang/String")) ({ frames := 6, cells := 10, slots := 50, locals := 91 } : Room) #[.int (Int32.ofNat k), .int (3 : Int32)] h [] (ValQ fun w h' => ∃ r, w = .ref r ∧ Ext h h' ∧ StrN Z h h' r [Int32.ofNat (48 + k / 100), Int32.ofNat (48 + k / 10 % 10), Int32.ofNat (48 + k % 10)]) := by
  obtain ⟨hw, hEL, hSA, ⟨zc, SC, hz⟩, ⟨fm, SF, hfm⟩, ⟨d1, kd1, SD1, AD1⟩, ⟨d2, kd2, SD2, AD2⟩⟩ := id G
  refine Ctr.enter (own := "com/example/capsa/capsa/benchmark/InputClasses") (nm := "digits") rfl rfl hEL (plainFor_of_name pn_7) #[.val (.int (Int32.ofNat k)), .val (.int (3 : Int32)), .unset] (fun m => by first | rfl | (simp [entryFrame, mkF, argsToLocals, Value.category, maxLocals]; done)) ?_
  intro p e s m below meth c T X
  rcases Nat.lt_or_ge k 10 with hk1 | hk1
  · skip
    refine g_iloadN X d13_0 rfl 1 rfl ?_
    refine g_callSv X (hw _ (List.mem_of_getElem? (i := 86) rfl)) (hw _ (List.mem_of_getElem? (i := 87) rfl)) (hw _ (List.mem_of_getElem? (i := 88) rfl)) (hw _ (List.mem_of_getElem? (i := 89) rfl)) (by decide) (c_its1 l Z a0 G k h hk1) (by simp) (argsL := [.int (Int32.ofNat k)]) (rest := []) pd_0 rfl rfl rfl rfl 0 (Nat.le_of_eq rfl) (by decide) (by decide) (ck := 2) rfl (cs := 5) rfl (by decide) (by decide) d13_1 4 rfl ?_
    intro w3 T1 h5 X2 hq4
    obtain ⟨r6, rfl, E7, SN8⟩ := hq4
    have S9 : Str Z h5 ([]) r6 [Int32.ofNat (48 + k % 10)] := SN8.str X.news
    refine g_astoreN X2 d13_4 rfl (Ls' := #[.val (.int (Int32.ofNat k)), .val (.int (3 : Int32)), .val (.ref r6)]) rfl 5 rfl ?_
    refine g_new X2 (hw _ (List.mem_of_getElem? (i := 5) rfl)) (hw _ (List.mem_of_getElem? (i := 6) rfl)) (hw _ (List.mem_of_getElem? (i := 7) rfl)) d13_5 (ck := 3) rfl (cs := 9) rfl (by decide) (by decide) 8 rfl ?_
    intro a10 T11 h12 ea13 X14 E15 A16 D17
    have le_a10 : h.size ≤ a10 := by rw [ea13]; exact ((Ext.refl h).trans E7).1
    have ne_r6_a10 : r6 ≠ a10 := by rw [ea13]; exact Nat.ne_of_lt S9.lt
    have F18 : Fld Z h12 a10 "java/lang/AbstractStringBuilder" "value" "[B" (.null) := D17 (Or.inl (hw _ (List.mem_of_getElem? (i := 24) rfl))) (ty := (.array .byte)) (by rfl)
    have F19 : Fld Z h12 a10 "java/lang/AbstractStringBuilder" "coder" "B" (.int (0 : Int32)) := D17 (Or.inl (hw _ (List.mem_of_getElem? (i := 26) rfl))) (ty := .byte) (by rfl)
    have F20 : Fld Z h12 a10 "java/lang/AbstractStringBuilder" "count" "I" (.int (0 : Int32)) := D17 (Or.inl (hw _ (List.mem_of_getElem? (i := 57) rfl))) (ty := .int) (by rfl)
    refine g_dup X14 d13_8 rfl 9 rfl ?_
    refine g_callIn X14 rfl (hw _ (List.mem_of_getElem? (i := 8) rfl)) (hw _ (List.mem_of_getElem? (i := 9) rfl)) (hw _ (List.mem_of_getElem? (i := 7) rfl)) (hw _ (List.mem_of_getElem? (i := 10) rfl)) (by decide) (c_sbi l Z a0 G a10 h12 A16 F18 F19 F20) (by simp) (argsL := []) (rest := [.ref a10]) pd_14 rfl rfl rfl rfl 1 (Nat.le_of_eq rfl) (by decide) (by decide) (ck := 4) rfl (cs := 25) rfl (by decide) (by decide) d13_9 12 rfl ?_
    intro T21 h24 X22 hq23
    obtain ⟨b25, kb26, K27, le28, S29⟩ := hq23
    have X30 := X22.add (elL hw 16 (by decide)) S29.arv (Nat.le_trans X14.old.1 le28)
    have le_b25 : h.size ≤ b25 := Nat.le_trans (((Ext.refl h).trans E7).trans E15).1 le28
    have ne_a10_b25 : a10 ≠ b25 := Nat.ne_of_lt (Nat.lt_of_lt_of_le A16.lt le28)
    have x31 : Ext h h24 := (ext_keep (((Ext.refl h).trans E7).trans E15) K27 (fun x hx => by simp only [List.mem_cons, List.not_mem_nil, or_false] at hx; rcases hx with rfl <;> first | exact le_a10))
    refine g_ldcS X30 (cs := [(48 : Int32)]) rfl (hw _ (List.mem_of_getElem? (i := 104) rfl)) hSA (by simp [EL, consts_1]) ⟨by decide, by decide⟩ (by decide) (by decide) d13_12 4 (by decide) (by decide) (ck := 6) rfl (cs' := 33) rfl (by decide) (by decide) 14 rfl ?_
    intro s32 T33 h34 X35 E36 S37
    refine g_iloadN X35 d13_14 rfl 15 rfl ?_
    refine g_aloadN X35 d13_15 rfl rfl 16 rfl ?_
    obtain ⟨t38, kb39, e40, f41, f42, k43, b44, l45, n46⟩ := id (((S9.grow E15 ea13).growK K27 (by simp) le28).ext E36)
    refine g_callVp X35 (hw _ (List.mem_of_getElem? (i := 105) rfl)) (hw _ (List.mem_of_getElem? (i := 44) rfl)) (hw _ (List.mem_of_getElem? (i := 46) rfl)) (hw _ (List.mem_of_getElem? (i := 45) rfl)) (hw _ (List.mem_of_getElem? (i := 21) rfl)) (hw _ (List.mem_of_getElem? (i := 47) rfl)) (nfSel (hw _ (List.mem_of_getElem? (i := 46) rfl))) (by decide) e40 (c_len l Z a0 G r6 t38 kb39 ([Int32.ofNat (48 + k % 10)]) h34 e40 f41 f42 k43 b44 l45) (by simp) (argsL := []) (rest := [.int (3 : Int32), .ref s32, .ref a10]) pd_6 rfl rfl rfl rfl 3 (Nat.le_of_eq rfl) (by decide) (by decide) (ck := 6) rfl (cs := 33) rfl (by decide) (by decide) d13_16 19 rfl ?_
    intro w49 T47 X48 hq50
    obtain rfl : w49 = .int (1 : Int32) := hq50
    refine g_isub X48 d13_19 (2 : Int32) (by decide) 20 rfl ?_
    obtain ⟨t51, kb52, e53, f54, f55, k56, b57, l58, n59⟩ := id S37
    refine g_callVv X48 (hw _ (List.mem_of_getElem? (i := 106) rfl)) (hw _ (List.mem_of_getElem? (i := 107) rfl)) (hw _ (List.mem_of_getElem? (i := 109) rfl)) (hw _ (List.mem_of_getElem? (i := 108) rfl)) (hw _ (List.mem_of_getElem? (i := 21) rfl)) (hw _ (List.mem_of_getElem? (i := 110) rfl)) (nfSel (hw _ (List.mem_of_getElem? (i := 109) rfl))) (by decide) e53 (c_rep2 l Z a0 G s32 t51 kb52 h34 e53 f54 f55 k56) (by simp) (argsL := [.int (2 : Int32)]) (rest := [.ref a10]) pd_0 rfl rfl rfl rfl 1 (Nat.le_of_eq rfl) (by decide) (by decide) (ck := 8) rfl (cs := 39) rfl (by decide) (by decide) d13_20 23 rfl ?_
    intro w62 T60 h64 X61 hq63
    obtain ⟨r65, rfl, E66, SN67⟩ := hq63
    have S68 : Str Z h64 ([b25, a10]) r65 [(48 : Int32), (48 : Int32)] := SN67.str X48.news
    obtain ⟨t69, kb70, e71, f72, f73, k74, b75, l76, n77⟩ := id S68
    refine g_callVv X61 (hw _ (List.mem_of_getElem? (i := 33) rfl)) (hw _ (List.mem_of_getElem? (i := 34) rfl)) (hw _ (List.mem_of_getElem? (i := 36) rfl)) (hw _ (List.mem_of_getElem? (i := 35) rfl)) (hw _ (List.mem_of_getElem? (i := 7) rfl)) (hw _ (List.mem_of_getElem? (i := 37) rfl)) (nfSel (hw _ (List.mem_of_getElem? (i := 36) rfl))) (by decide) ((S29.ext E36).ext E66).1 (c_sba l Z a0 G a10 r65 t69 b25 kb70 kb26 16 ([] : List Int32) ([(48 : Int32), (48 : Int32)]) h64 ((S29.ext E36).ext E66) e71 f72 f73 k74 b75 l76 (by first | (simp; done) | exact Nat.le_of_ble_eq_true rfl)) (by simp) (argsL := [.ref r65]) (rest := []) pd_16 rfl rfl rfl rfl 0 (Nat.le_of_eq rfl) (by decide) (by decide) (ck := 8) rfl (cs := 39) rfl (by decide) (by decide) d13_23 26 rfl ?_
    intro w80 T78 h82 X79 hq81
    obtain ⟨rfl, K83, S84⟩ := hq81
    have x85 : Ext h h82 := (ext_keep ((x31.trans E36).trans E66) K83 (fun x hx => by simp only [List.mem_cons, List.not_mem_nil, or_false] at hx; rcases hx with rfl | rfl <;> first | exact le_a10 | exact le_b25))
    refine g_aloadN X79 d13_26 rfl rfl 27 rfl ?_
    refine g_callVv X79 (hw _ (List.mem_of_getElem? (i := 33) rfl)) (hw _ (List.mem_of_getElem? (i := 34) rfl)) (hw _ (List.mem_of_getElem? (i := 36) rfl)) (hw _ (List.mem_of_getElem? (i := 35) rfl)) (hw _ (List.mem_of_getElem? (i := 7) rfl)) (hw _ (List.mem_of_getElem? (i := 37) rfl)) (nfSel (hw _ (List.mem_of_getElem? (i := 36) rfl))) (by decide) S84.1 (c_sba l Z a0 G a10 r6 t38 b25 kb39 kb26 16 (([] : List Int32) ++ [(48 : Int32), (48 : Int32)]) ([Int32.ofNat (48 + k % 10)]) h82 S84 ((e40.ext E66).keep K83) ((f41.ext E66).keep K83 (ninS ne_r6_a10 (ninS (Ne.symm (n46 b25 (by simp)).1) nin0))) ((f42.ext E66).keep K83 (ninS ne_r6_a10 (ninS (Ne.symm (n46 b25 (by simp)).1) nin0))) ((k43.ext E66).keep K83 (ninS (Ne.symm (n46 a10 (by simp)).2) (ninS (Ne.symm (n46 b25 (by simp)).2) nin0))) b44 l45 (by first | (simp; done) | exact Nat.le_of_ble_eq_true rfl)) (by simp) (argsL := [.ref r6]) (rest := []) pd_16 rfl rfl rfl rfl 0 (Nat.le_of_eq rfl) (by decide) (by decide) (ck := 8) rfl (cs := 39) rfl (by decide) (by decide) d13_27 30 rfl ?_
    intro w88 T86 h90 X87 hq89
    obtain ⟨rfl, K91, S92⟩ := hq89
    have x93 : Ext h h90 := (ext_keep x85 K91 (fun x hx => by simp only [List.mem_cons, List.not_mem_nil, or_false] at hx; rcases hx with rfl | rfl <;> first | exact le_a10 | exact le_b25))
    refine g_callVv X87 (hw _ (List.mem_of_getElem? (i := 111) rfl)) (hw _ (List.mem_of_getElem? (i := 112) rfl)) (hw _ (List.mem_of_getElem? (i := 114) rfl)) (hw _ (List.mem_of_getElem? (i := 113) rfl)) (hw _ (List.mem_of_getElem? (i := 7) rfl)) (hw _ (List.mem_of_getElem? (i := 115) rfl)) (nfSel (hw _ (List.mem_of_getElem? (i := 114) rfl))) (by decide) S92.1 (c_sts l Z a0 G a10 b25 kb26 16 ((([] : List Int32) ++ [(48 : Int32), (48 : Int32)]) ++ [Int32.ofNat (48 + k % 10)]) h90 S92 (by first | (simp; done) | exact Nat.le_of_ble_eq_true rfl) (by first | (simp; done) | exact Nat.le_of_ble_eq_true rfl)) (by simp) (argsL := []) (rest := []) pd_21 rfl rfl rfl rfl 0 (Nat.le_of_eq rfl) (by decide) (by decide) (ck := 10) rfl (cs := 50) rfl (by decide) (by decide) d13_30 33 rfl ?_
    intro w96 T94 h98 X95 hq97
    obtain ⟨r99, rfl, E100, SN101⟩ := hq97
    have S102 : Str Z h98 ([b25, a10]) r99 ((([] : List Int32) ++ [(48 : Int32), (48 : Int32)]) ++ [Int32.ofNat (48 + k % 10)]) := SN101.str X87.news
    have sn_r99 : StrN Z h h98 r99 ((([] : List Int32) ++ [(48 : Int32), (48 : Int32)]) ++ [Int32.ofNat (48 + k % 10)]) := SN101.mono x93.1
    exact g_retA X95 rfl rfl rfl d13_33 (by decide) (by decide) ⟨_, rfl, ⟨r99, rfl, (x93.trans E100), (by rw [show ([Int32.ofNat (48 + k / 100), Int32.ofNat (48 + k / 10 % 10), Int32.ofNat (48 + k % 10)] : List Int32) = ((([] : List Int32) ++ [(48 : Int32), (48 : Int32)]) ++ [Int32.ofNat (48 + k % 10)]) from by (rw [show k / 100 = 0 from by omega, show k / 10 = 0 from by omega]; rfl)]; exact sn_r99)⟩⟩
  · rcases Nat.lt_or_ge k 100 with hk2 | hk2
    · skip
      refine g_iloadN X d13_0 rfl 1 rfl ?_
      refine g_callSv X (hw _ (List.mem_of_getElem? (i := 86) rfl)) (hw _ (List.mem_of_getElem? (i := 87) rfl)) (hw _ (List.mem_of_getElem? (i := 88) rfl)) (hw _ (List.mem_of_getElem? (i := 89) rfl)) (by decide) (c_its2 l Z a0 G k h hk1 hk2) (by simp) (argsL := [.int (Int32.ofNat k)]) (rest := []) pd_0 rfl rfl rfl rfl 0 (Nat.le_of_eq rfl) (by decide) (by decide) (ck := 2) rfl (cs := 6) rfl (by decide) (by decide) d13_1 4 rfl ?_
      intro w105 T103 h107 X104 hq106
      obtain ⟨r108, rfl, E109, SN110⟩ := hq106
      have S111 : Str Z h107 ([]) r108 [Int32.ofNat (48 + k / 10), Int32.ofNat (48 + k % 10)] := SN110.str X.news
      refine g_astoreN X104 d13_4 rfl (Ls' := #[.val (.int (Int32.ofNat k)), .val (.int (3 : Int32)), .val (.ref r108)]) rfl 5 rfl ?_
      refine g_new X104 (hw _ (List.mem_of_getElem? (i := 5) rfl)) (hw _ (List.mem_of_getElem? (i := 6) rfl)) (hw _ (List.mem_of_getElem? (i := 7) rfl)) d13_5 (ck := 3) rfl (cs := 10) rfl (by decide) (by decide) 8 rfl ?_
      intro a112 T113 h114 ea115 X116 E117 A118 D119
      have le_a112 : h.size ≤ a112 := by rw [ea115]; exact ((Ext.refl h).trans E109).1
      have ne_r108_a112 : r108 ≠ a112 := by rw [ea115]; exact Nat.ne_of_lt S111.lt
      have F120 : Fld Z h114 a112 "java/lang/AbstractStringBuilder" "value" "[B" (.null) := D119 (Or.inl (hw _ (List.mem_of_getElem? (i := 24) rfl))) (ty := (.array .byte)) (by rfl)
      have F121 : Fld Z h114 a112 "java/lang/AbstractStringBuilder" "coder" "B" (.int (0 : Int32)) := D119 (Or.inl (hw _ (List.mem_of_getElem? (i := 26) rfl))) (ty := .byte) (by rfl)
      have F122 : Fld Z h114 a112 "java/lang/AbstractStringBuilder" "count" "I" (.int (0 : Int32)) := D119 (Or.inl (hw _ (List.mem_of_getElem? (i := 57) rfl))) (ty := .int) (by rfl)
      refine g_dup X116 d13_8 rfl 9 rfl ?_
      refine g_callIn X116 rfl (hw _ (List.mem_of_getElem? (i := 8) rfl)) (hw _ (List.mem_of_getElem? (i := 9) rfl)) (hw _ (List.mem_of_getElem? (i := 7) rfl)) (hw _ (List.mem_of_getElem? (i := 10) rfl)) (by decide) (c_sbi l Z a0 G a112 h114 A118 F120 F121 F122) (by simp) (argsL := []) (rest := [.ref a112]) pd_14 rfl rfl rfl rfl 1 (Nat.le_of_eq rfl) (by decide) (by decide) (ck := 4) rfl (cs := 26) rfl (by decide) (by decide) d13_9 12 rfl ?_
      intro T123 h126 X124 hq125
      obtain ⟨b127, kb128, K129, le130, S131⟩ := hq125
      have X132 := X124.add (elL hw 16 (by decide)) S131.arv (Nat.le_trans X116.old.1 le130)
      have le_b127 : h.size ≤ b127 := Nat.le_trans (((Ext.refl h).trans E109).trans E117).1 le130
      have ne_a112_b127 : a112 ≠ b127 := Nat.ne_of_lt (Nat.lt_of_lt_of_le A118.lt le130)
      have x133 : Ext h h126 := (ext_keep (((Ext.refl h).trans E109).trans E117) K129 (fun x hx => by simp only [List.mem_cons, List.not_mem_nil, or_false] at hx; rcases hx with rfl <;> first | exact le_a112))
      refine g_ldcS X132 (cs := [(48 : Int32)]) rfl (hw _ (List.mem_of_getElem? (i := 104) rfl)) hSA (by simp [EL, consts_1]) ⟨by decide, by decide⟩ (by decide) (by decide) d13_12 4 (by decide) (by decide) (ck := 6) rfl (cs' := 34) rfl (by decide) (by decide) 14 rfl ?_
      intro s134 T135 h136 X137 E138 S139
      refine g_iloadN X137 d13_14 rfl 15 rfl ?_
      refine g_aloadN X137 d13_15 rfl rfl 16 rfl ?_
      obtain ⟨t140, kb141, e142, f143, f144, k145, b146, l147, n148⟩ := id (((S111.grow E117 ea115).growK K129 (by simp) le130).ext E138)
      refine g_callVp X137 (hw _ (List.mem_of_getElem? (i := 105) rfl)) (hw _ (List.mem_of_getElem? (i := 44) rfl)) (hw _ (List.mem_of_getElem? (i := 46) rfl)) (hw _ (List.mem_of_getElem? (i := 45) rfl)) (hw _ (List.mem_of_getElem? (i := 21) rfl)) (hw _ (List.mem_of_getElem? (i := 47) rfl)) (nfSel (hw _ (List.mem_of_getElem? (i := 46) rfl))) (by decide) e142 (c_len l Z a0 G r108 t140 kb141 ([Int32.ofNat (48 + k / 10), Int32.ofNat (48 + k % 10)]) h136 e142 f143 f144 k145 b146 l147) (by simp) (argsL := []) (rest := [.int (3 : Int32), .ref s134, .ref a112]) pd_6 rfl rfl rfl rfl 3 (Nat.le_of_eq rfl) (by decide) (by decide) (ck := 6) rfl (cs := 34) rfl (by decide) (by decide) d13_16 19 rfl ?_
      intro w151 T149 X150 hq152
      obtain rfl : w151 = .int (2 : Int32) := hq152
      refine g_isub X150 d13_19 (1 : Int32) (by decide) 20 rfl ?_
      obtain ⟨t153, kb154, e155, f156, f157, k158, b159, l160, n161⟩ := id S139
      refine g_callVp X150 (hw _ (List.mem_of_getElem? (i := 106) rfl)) (hw _ (List.mem_of_getElem? (i := 107) rfl)) (hw _ (List.mem_of_getElem? (i := 109) rfl)) (hw _ (List.mem_of_getElem? (i := 108) rfl)) (hw _ (List.mem_of_getElem? (i := 21) rfl)) (hw _ (List.mem_of_getElem? (i := 110) rfl)) (nfSel (hw _ (List.mem_of_getElem? (i := 109) rfl))) (by decide) e155 (c_rep1 l Z a0 G s134 t153 kb154 h136 e155 f156 f157 k158) (by simp) (argsL := [.int (1 : Int32)]) (rest := [.ref a112]) pd_0 rfl rfl rfl rfl 1 (Nat.le_of_eq rfl) (by decide) (by decide) (ck := 6) rfl (cs := 34) rfl (by decide) (by decide) d13_20 23 rfl ?_
      intro w164 T162 X163 hq165
      subst hq165
      refine g_callVv X163 (hw _ (List.mem_of_getElem? (i := 33) rfl)) (hw _ (List.mem_of_getElem? (i := 34) rfl)) (hw _ (List.mem_of_getElem? (i := 36) rfl)) (hw _ (List.mem_of_getElem? (i := 35) rfl)) (hw _ (List.mem_of_getElem? (i := 7) rfl)) (hw _ (List.mem_of_getElem? (i := 37) rfl)) (nfSel (hw _ (List.mem_of_getElem? (i := 36) rfl))) (by decide) (S131.ext E138).1 (c_sba l Z a0 G a112 s134 t153 b127 kb154 kb128 16 ([] : List Int32) ([(48 : Int32)]) h136 (S131.ext E138) e155 f156 f157 k158 b159 l160 (by first | (simp; done) | exact Nat.le_of_ble_eq_true rfl)) (by simp) (argsL := [.ref s134]) (rest := []) pd_16 rfl rfl rfl rfl 0 (Nat.le_of_eq rfl) (by decide) (by decide) (ck := 6) rfl (cs := 34) rfl (by decide) (by decide) d13_23 26 rfl ?_
      intro w168 T166 h170 X167 hq169
      obtain ⟨rfl, K171, S172⟩ := hq169
      have x173 : Ext h h170 := (ext_keep (x133.trans E138) K171 (fun x hx => by simp only [List.mem_cons, List.not_mem_nil, or_false] at hx; rcases hx with rfl | rfl <;> first | exact le_a112 | exact le_b127))
      refine g_aloadN X167 d13_26 rfl rfl 27 rfl ?_
      refine g_callVv X167 (hw _ (List.mem_of_getElem? (i := 33) rfl)) (hw _ (List.mem_of_getElem? (i := 34) rfl)) (hw _ (List.mem_of_getElem? (i := 36) rfl)) (hw _ (List.mem_of_getElem? (i := 35) rfl)) (hw _ (List.mem_of_getElem? (i := 7) rfl)) (hw _ (List.mem_of_getElem? (i := 37) rfl)) (nfSel (hw _ (List.mem_of_getElem? (i := 36) rfl))) (by decide) S172.1 (c_sba l Z a0 G a112 r108 t140 b127 kb141 kb128 16 (([] : List Int32) ++ [(48 : Int32)]) ([Int32.ofNat (48 + k / 10), Int32.ofNat (48 + k % 10)]) h170 S172 (e142.keep K171) (f143.keep K171 (ninS ne_r108_a112 (ninS (Ne.symm (n148 b127 (by simp)).1) nin0))) (f144.keep K171 (ninS ne_r108_a112 (ninS (Ne.symm (n148 b127 (by simp)).1) nin0))) (k145.keep K171 (ninS (Ne.symm (n148 a112 (by simp)).2) (ninS (Ne.symm (n148 b127 (by simp)).2) nin0))) b146 l147 (by first | (simp; done) | exact Nat.le_of_ble_eq_true rfl)) (by simp) (argsL := [.ref r108]) (rest := []) pd_16 rfl rfl rfl rfl 0 (Nat.le_of_eq rfl) (by decide) (by decide) (ck := 6) rfl (cs := 34) rfl (by decide) (by decide) d13_27 30 rfl ?_
      intro w176 T174 h178 X175 hq177
      obtain ⟨rfl, K179, S180⟩ := hq177
      have x181 : Ext h h178 := (ext_keep x173 K179 (fun x hx => by simp only [List.mem_cons, List.not_mem_nil, or_false] at hx; rcases hx with rfl | rfl <;> first | exact le_a112 | exact le_b127))
      refine g_callVv X175 (hw _ (List.mem_of_getElem? (i := 111) rfl)) (hw _ (List.mem_of_getElem? (i := 112) rfl)) (hw _ (List.mem_of_getElem? (i := 114) rfl)) (hw _ (List.mem_of_getElem? (i := 113) rfl)) (hw _ (List.mem_of_getElem? (i := 7) rfl)) (hw _ (List.mem_of_getElem? (i := 115) rfl)) (nfSel (hw _ (List.mem_of_getElem? (i := 114) rfl))) (by decide) S180.1 (c_sts l Z a0 G a112 b127 kb128 16 ((([] : List Int32) ++ [(48 : Int32)]) ++ [Int32.ofNat (48 + k / 10), Int32.ofNat (48 + k % 10)]) h178 S180 (by first | (simp; done) | exact Nat.le_of_ble_eq_true rfl) (by first | (simp; done) | exact Nat.le_of_ble_eq_true rfl)) (by simp) (argsL := []) (rest := []) pd_21 rfl rfl rfl rfl 0 (Nat.le_of_eq rfl) (by decide) (by decide) (ck := 8) rfl (cs := 45) rfl (by decide) (by decide) d13_30 33 rfl ?_
      intro w184 T182 h186 X183 hq185
      obtain ⟨r187, rfl, E188, SN189⟩ := hq185
      have S190 : Str Z h186 ([b127, a112]) r187 ((([] : List Int32) ++ [(48 : Int32)]) ++ [Int32.ofNat (48 + k / 10), Int32.ofNat (48 + k % 10)]) := SN189.str X175.news
      have sn_r187 : StrN Z h h186 r187 ((([] : List Int32) ++ [(48 : Int32)]) ++ [Int32.ofNat (48 + k / 10), Int32.ofNat (48 + k % 10)]) := SN189.mono x181.1
      exact g_retA X183 rfl rfl rfl d13_33 (by decide) (by decide) ⟨_, rfl, ⟨r187, rfl, (x181.trans E188), (by rw [show ([Int32.ofNat (48 + k / 100), Int32.ofNat (48 + k / 10 % 10), Int32.ofNat (48 + k % 10)] : List Int32) = ((([] : List Int32) ++ [(48 : Int32)]) ++ [Int32.ofNat (48 + k / 10), Int32.ofNat (48 + k % 10)]) from by (rw [show k / 100 = 0 from by omega, show k / 10 % 10 = k / 10 from by omega]; rfl)]; exact sn_r187)⟩⟩
    · have hk3 := hk
      refine g_iloadN X d13_0 rfl 1 rfl ?_
      refine g_callSv X (hw _ (List.mem_of_getElem? (i := 86) rfl)) (hw _ (List.mem_of_getElem? (i := 87) rfl)) (hw _ (List.mem_of_getElem? (i := 88) rfl)) (hw _ (List.mem_of_getElem? (i := 89) rfl)) (by decide) (c_its3 l Z a0 G k h hk2 hk3) (by simp) (argsL := [.int (Int32.ofNat k)]) (rest := []) pd_0 rfl rfl rfl rfl 0 (Nat.le_of_eq rfl) (by decide) (by decide) (ck := 2) rfl (cs := 7) rfl (by decide) (by decide) d13_1 4 rfl ?_
      intro w193 T191 h195 X192 hq194
      obtain ⟨r196, rfl, E197, SN198⟩ := hq194
      have S199 : Str Z h195 ([]) r196 [Int32.ofNat (48 + (k / 100) % 10), Int32.ofNat (48 + (k % 100) / 10), Int32.ofNat (48 + (k % 100) % 10)] := SN198.str X.news
      refine g_astoreN X192 d13_4 rfl (Ls' := #[.val (.int (Int32.ofNat k)), .val (.int (3 : Int32)), .val (.ref r196)]) rfl 5 rfl ?_
      refine g_new X192 (hw _ (List.mem_of_getElem? (i := 5) rfl)) (hw _ (List.mem_of_getElem? (i := 6) rfl)) (hw _ (List.mem_of_getElem? (i := 7) rfl)) d13_5 (ck := 3) rfl (cs := 11) rfl (by decide) (by decide) 8 rfl ?_
      intro a200 T201 h202 ea203 X204 E205 A206 D207
      have le_a200 : h.size ≤ a200 := by rw [ea203]; exact ((Ext.refl h).trans E197).1
      have ne_r196_a200 : r196 ≠ a200 := by rw [ea203]; exact Nat.ne_of_lt S199.lt
      have F208 : Fld Z h202 a200 "java/lang/AbstractStringBuilder" "value" "[B" (.null) := D207 (Or.inl (hw _ (List.mem_of_getElem? (i := 24) rfl))) (ty := (.array .byte)) (by rfl)
      have F209 : Fld Z h202 a200 "java/lang/AbstractStringBuilder" "coder" "B" (.int (0 : Int32)) := D207 (Or.inl (hw _ (List.mem_of_getElem? (i := 26) rfl))) (ty := .byte) (by rfl)
      have F210 : Fld Z h202 a200 "java/lang/AbstractStringBuilder" "count" "I" (.int (0 : Int32)) := D207 (Or.inl (hw _ (List.mem_of_getElem? (i := 57) rfl))) (ty := .int) (by rfl)
      refine g_dup X204 d13_8 rfl 9 rfl ?_
      refine g_callIn X204 rfl (hw _ (List.mem_of_getElem? (i := 8) rfl)) (hw _ (List.mem_of_getElem? (i := 9) rfl)) (hw _ (List.mem_of_getElem? (i := 7) rfl)) (hw _ (List.mem_of_getElem? (i := 10) rfl)) (by decide) (c_sbi l Z a0 G a200 h202 A206 F208 F209 F210) (by simp) (argsL := []) (rest := [.ref a200]) pd_14 rfl rfl rfl rfl 1 (Nat.le_of_eq rfl) (by decide) (by decide) (ck := 4) rfl (cs := 27) rfl (by decide) (by decide) d13_9 12 rfl ?_
      intro T211 h214 X212 hq213
      obtain ⟨b215, kb216, K217, le218, S219⟩ := hq213
      have X220 := X212.add (elL hw 16 (by decide)) S219.arv (Nat.le_trans X204.old.1 le218)
      have le_b215 : h.size ≤ b215 := Nat.le_trans (((Ext.refl h).trans E197).trans E205).1 le218
      have ne_a200_b215 : a200 ≠ b215 := Nat.ne_of_lt (Nat.lt_of_lt_of_le A206.lt le218)
      have x221 : Ext h h214 := (ext_keep (((Ext.refl h).trans E197).trans E205) K217 (fun x hx => by simp only [List.mem_cons, List.not_mem_nil, or_false] at hx; rcases hx with rfl <;> first | exact le_a200))
      refine g_ldcS X220 (cs := [(48 : Int32)]) rfl (hw _ (List.mem_of_getElem? (i := 104) rfl)) hSA (by simp [EL, consts_1]) ⟨by decide, by decide⟩ (by decide) (by decide) d13_12 4 (by decide) (by decide) (ck := 6) rfl (cs' := 35) rfl (by decide) (by decide) 14 rfl ?_
      intro s222 T223 h224 X225 E226 S227
      refine g_iloadN X225 d13_14 rfl 15 rfl ?_
      refine g_aloadN X225 d13_15 rfl rfl 16 rfl ?_
      obtain ⟨t228, kb229, e230, f231, f232, k233, b234, l235, n236⟩ := id (((S199.grow E205 ea203).growK K217 (by simp) le218).ext E226)
      refine g_callVp X225 (hw _ (List.mem_of_getElem? (i := 105) rfl)) (hw _ (List.mem_of_getElem? (i := 44) rfl)) (hw _ (List.mem_of_getElem? (i := 46) rfl)) (hw _ (List.mem_of_getElem? (i := 45) rfl)) (hw _ (List.mem_of_getElem? (i := 21) rfl)) (hw _ (List.mem_of_getElem? (i := 47) rfl)) (nfSel (hw _ (List.mem_of_getElem? (i := 46) rfl))) (by decide) e230 (c_len l Z a0 G r196 t228 kb229 ([Int32.ofNat (48 + (k / 100) % 10), Int32.ofNat (48 + (k % 100) / 10), Int32.ofNat (48 + (k % 100) % 10)]) h224 e230 f231 f232 k233 b234 l235) (by simp) (argsL := []) (rest := [.int (3 : Int32), .ref s222, .ref a200]) pd_6 rfl rfl rfl rfl 3 (Nat.le_of_eq rfl) (by decide) (by decide) (ck := 6) rfl (cs := 35) rfl (by decide) (by decide) d13_16 19 rfl ?_
      intro w239 T237 X238 hq240
      obtain rfl : w239 = .int (3 : Int32) := hq240
      refine g_isub X238 d13_19 (0 : Int32) (by decide) 20 rfl ?_
      obtain ⟨t241, kb242, e243, f244, f245, k246, b247, l248, n249⟩ := id S227
      refine g_callVv X238 (hw _ (List.mem_of_getElem? (i := 106) rfl)) (hw _ (List.mem_of_getElem? (i := 107) rfl)) (hw _ (List.mem_of_getElem? (i := 109) rfl)) (hw _ (List.mem_of_getElem? (i := 108) rfl)) (hw _ (List.mem_of_getElem? (i := 21) rfl)) (hw _ (List.mem_of_getElem? (i := 110) rfl)) (nfSel (hw _ (List.mem_of_getElem? (i := 109) rfl))) (by decide) e243 (c_rep0 l Z a0 G s222 t241 kb242 ([b215, a200]) h224 e243 f244 f245 k246) (fun _ q => q) (argsL := [.int (0 : Int32)]) (rest := [.ref a200]) pd_0 rfl rfl rfl rfl 1 (Nat.le_of_eq rfl) (by decide) (by decide) (ck := 8) rfl (cs := 39) rfl (by decide) (by decide) d13_20 23 rfl ?_
      intro w252 T250 h254 X251 hq253
      obtain ⟨r255, rfl, E256, S257⟩ := hq253
      obtain ⟨t258, kb259, e260, f261, f262, k263, b264, l265, n266⟩ := id S257
      refine g_callVv X251 (hw _ (List.mem_of_getElem? (i := 33) rfl)) (hw _ (List.mem_of_getElem? (i := 34) rfl)) (hw _ (List.mem_of_getElem? (i := 36) rfl)) (hw _ (List.mem_of_getElem? (i := 35) rfl)) (hw _ (List.mem_of_getElem? (i := 7) rfl)) (hw _ (List.mem_of_getElem? (i := 37) rfl)) (nfSel (hw _ (List.mem_of_getElem? (i := 36) rfl))) (by decide) ((S219.ext E226).ext E256).1 (c_sba l Z a0 G a200 r255 t258 b215 kb259 kb216 16 ([] : List Int32) ([] : List Int32) h254 ((S219.ext E226).ext E256) e260 f261 f262 k263 b264 l265 (by first | (simp; done) | exact Nat.le_of_ble_eq_true rfl)) (by simp) (argsL := [.ref r255]) (rest := []) pd_16 rfl rfl rfl rfl 0 (Nat.le_of_eq rfl) (by decide) (by decide) (ck := 8) rfl (cs := 39) rfl (by decide) (by decide) d13_23 26 rfl ?_
      intro w269 T267 h271 X268 hq270
      obtain ⟨rfl, K272, S273⟩ := hq270
      have x274 : Ext h h271 := (ext_keep ((x221.trans E226).trans E256) K272 (fun x hx => by simp only [List.mem_cons, List.not_mem_nil, or_false] at hx; rcases hx with rfl | rfl <;> first | exact le_a200 | exact le_b215))
      refine g_aloadN X268 d13_26 rfl rfl 27 rfl ?_
      refine g_callVv X268 (hw _ (List.mem_of_getElem? (i := 33) rfl)) (hw _ (List.mem_of_getElem? (i := 34) rfl)) (hw _ (List.mem_of_getElem? (i := 36) rfl)) (hw _ (List.mem_of_getElem? (i := 35) rfl)) (hw _ (List.mem_of_getElem? (i := 7) rfl)) (hw _ (List.mem_of_getElem? (i := 37) rfl)) (nfSel (hw _ (List.mem_of_getElem? (i := 36) rfl))) (by decide) S273.1 (c_sba l Z a0 G a200 r196 t228 b215 kb229 kb216 16 (([] : List Int32) ++ ([] : List Int32)) ([Int32.ofNat (48 + (k / 100) % 10), Int32.ofNat (48 + (k % 100) / 10), Int32.ofNat (48 + (k % 100) % 10)]) h271 S273 ((e230.ext E256).keep K272) ((f231.ext E256).keep K272 (ninS ne_r196_a200 (ninS (Ne.symm (n236 b215 (by simp)).1) nin0))) ((f232.ext E256).keep K272 (ninS ne_r196_a200 (ninS (Ne.symm (n236 b215 (by simp)).1) nin0))) ((k233.ext E256).keep K272 (ninS (Ne.symm (n236 a200 (by simp)).2) (ninS (Ne.symm (n236 b215 (by simp)).2) nin0))) b234 l235 (by first | (simp; done) | exact Nat.le_of_ble_eq_true rfl)) (by simp) (argsL := [.ref r196]) (rest := []) pd_16 rfl rfl rfl rfl 0 (Nat.le_of_eq rfl) (by decide) (by decide) (ck := 8) rfl (cs := 39) rfl (by decide) (by decide) d13_27 30 rfl ?_
      intro w277 T275 h279 X276 hq278
      obtain ⟨rfl, K280, S281⟩ := hq278
      have x282 : Ext h h279 := (ext_keep x274 K280 (fun x hx => by simp only [List.mem_cons, List.not_mem_nil, or_false] at hx; rcases hx with rfl | rfl <;> first | exact le_a200 | exact le_b215))
      refine g_callVv X276 (hw _ (List.mem_of_getElem? (i := 111) rfl)) (hw _ (List.mem_of_getElem? (i := 112) rfl)) (hw _ (List.mem_of_getElem? (i := 114) rfl)) (hw _ (List.mem_of_getElem? (i := 113) rfl)) (hw _ (List.mem_of_getElem? (i := 7) rfl)) (hw _ (List.mem_of_getElem? (i := 115) rfl)) (nfSel (hw _ (List.mem_of_getElem? (i := 114) rfl))) (by decide) S281.1 (c_sts l Z a0 G a200 b215 kb216 16 ((([] : List Int32) ++ ([] : List Int32)) ++ [Int32.ofNat (48 + (k / 100) % 10), Int32.ofNat (48 + (k % 100) / 10), Int32.ofNat (48 + (k % 100) % 10)]) h279 S281 (by first | (simp; done) | exact Nat.le_of_ble_eq_true rfl) (by first | (simp; done) | exact Nat.le_of_ble_eq_true rfl)) (by simp) (argsL := []) (rest := []) pd_21 rfl rfl rfl rfl 0 (Nat.le_of_eq rfl) (by decide) (by decide) (ck := 10) rfl (cs := 50) rfl (by decide) (by decide) d13_30 33 rfl ?_
      intro w285 T283 h287 X284 hq286
      obtain ⟨r288, rfl, E289, SN290⟩ := hq286
      have S291 : Str Z h287 ([b215, a200]) r288 ((([] : List Int32) ++ ([] : List Int32)) ++ [Int32.ofNat (48 + (k / 100) % 10), Int32.ofNat (48 + (k % 100) / 10), Int32.ofNat (48 + (k % 100) % 10)]) := SN290.str X276.news
      have sn_r288 : StrN Z h h287 r288 ((([] : List Int32) ++ ([] : List Int32)) ++ [Int32.ofNat (48 + (k / 100) % 10), Int32.ofNat (48 + (k % 100) / 10), Int32.ofNat (48 + (k % 100) % 10)]) := SN290.mono x282.1
      exact g_retA X284 rfl rfl rfl d13_33 (by decide) (by decide) ⟨_, rfl, ⟨r288, rfl, (x282.trans E289), (by rw [show ([Int32.ofNat (48 + k / 100), Int32.ofNat (48 + k / 10 % 10), Int32.ofNat (48 + k % 10)] : List Int32) = ((([] : List Int32) ++ ([] : List Int32)) ++ [Int32.ofNat (48 + (k / 100) % 10), Int32.ofNat (48 + (k % 100) / 10), Int32.ofNat (48 + (k % 100) % 10)]) from by (show [Int32.ofNat (48 + k / 100), Int32.ofNat (48 + k / 10 % 10), Int32.ofNat (48 + k % 10)] = [Int32.ofNat (48 + (k / 100) % 10), Int32.ofNat (48 + (k % 100) / 10), Int32.ofNat (48 + (k % 100) % 10)]; rw [show k / 100 % 10 = k / 100 from by omega, show k % 100 / 10 = k / 10 % 10 from by omega, show k % 100 % 10 = k % 10 from by omega])]; exact sn_r288)⟩⟩
theorem d1_0 : decode prog_39_method_4_code 0 = .ok (.new 12, 3) := by decide +kernel
theorem d1_3 : decode prog_39_method_4_code 3 = .ok (.dup, 1) := by decide +kernel
theorem d1_4 : decode prog_39_method_4_code 4 = .ok (.invokespecial 14, 3) := by decide +kernel
theorem d1_7 : decode prog_39_method_4_code 7 = .ok (.ldc 61, 2) := by decide +kernel
theorem d1_9 : decode prog_39_method_4_code 9 = .ok (.invokevirtual 17, 3) := by decide +kernel
theorem d1_12 : decode prog_39_method_4_code 12 = .ok (.iload_n 0, 1) := by decide +kernel
theorem d1_13 : decode prog_39_method_4_code 13 = .ok (.iconst 2, 1) := by decide +kernel
theorem d1_14 : decode prog_39_method_4_code 14 = .ok (.invokestatic 63, 3) := by decide +kernel
theorem d1_17 : decode prog_39_method_4_code 17 = .ok (.invokevirtual 17, 3) := by decide +kernel
theorem d1_20 : decode prog_39_method_4_code 20 = .ok (.ldc 66, 2) := by decide +kernel
theorem d1_22 : decode prog_39_method_4_code 22 = .ok (.invokevirtual 17, 3) := by decide +kernel
theorem d1_25 : decode prog_39_method_4_code 25 = .ok (.iload_n 1, 1) := by decide +kernel
theorem d1_26 : decode prog_39_method_4_code 26 = .ok (.iconst 3, 1) := by decide +kernel
theorem d1_27 : decode prog_39_method_4_code 27 = .ok (.invokestatic 63, 3) := by decide +kernel
theorem d1_30 : decode prog_39_method_4_code 30 = .ok (.invokevirtual 17, 3) := by decide +kernel
theorem d1_33 : decode prog_39_method_4_code 33 = .ok (.invokevirtual 25, 3) := by decide +kernel
theorem d1_36 : decode prog_39_method_4_code 36 = .ok (.areturn, 1) := by decide +kernel
set_option maxRecDepth 65536 in
set_option maxHeartbeats 40000000 in
theorem c_sn (l : Launch) (Z : State) (a0 : Array Value) (G : Gl Z a0) (k n : Nat) (h : Heap) (hk : k < 100) (hn : n < 1000) :
    Ctr l Z EL nw (⟨"com/example/capsa/capsa/benchmark/InputClasses", "simpleName", "(II)Ljava/lang/String;"⟩ : MethodName) prog_39_method_4_code 2 (Option.some (Jvm.ClassFile.FieldType.object "java/lang/String")) ({ frames := 7, cells := 28, slots := 146, locals := 106 } : Room) #[.int (Int32.ofNat k), .int (Int32.ofNat n)] h [] (ValQ fun w h' => ∃ r, w = .ref r ∧ Ext h h' ∧ StrN Z h h' r [(67 : Int32), Int32.ofNat (48 + k / 10), Int32.ofNat (48 + k % 10), (120 : Int32), Int32.ofNat (48 + n / 100), Int32.ofNat (48 + n / 10 % 10), Int32.ofNat (48 + n % 10)]) := by
  obtain ⟨hw, hEL, hSA, ⟨zc, SC, hz⟩, ⟨fm, SF, hfm⟩, ⟨d1, kd1, SD1, AD1⟩, ⟨d2, kd2, SD2, AD2⟩⟩ := id G
  refine Ctr.enter (own := "com/example/capsa/capsa/benchmark/InputClasses") (nm := "simpleName") rfl rfl hEL (plainFor_of_name pn_7) #[.val (.int (Int32.ofNat k)), .val (.int (Int32.ofNat n))] (fun m => by first | rfl | (simp [entryFrame, mkF, argsToLocals, Value.category, maxLocals]; done)) ?_
  intro p e s m below meth c T X
  refine g_new X (hw _ (List.mem_of_getElem? (i := 5) rfl)) (hw _ (List.mem_of_getElem? (i := 6) rfl)) (hw _ (List.mem_of_getElem? (i := 7) rfl)) d1_0 (ck := 1) rfl (cs := 4) rfl (by decide) (by decide) 3 rfl ?_
  intro a1 T2 h3 ea4 X5 E6 A7 D8
  have le_a1 : h.size ≤ a1 := by rw [ea4]; exact (Ext.refl h).1
  have F9 : Fld Z h3 a1 "java/lang/AbstractStringBuilder" "value" "[B" (.null) := D8 (Or.inl (hw _ (List.mem_of_getElem? (i := 24) rfl))) (ty := (.array .byte)) (by rfl)
  have F10 : Fld Z h3 a1 "java/lang/AbstractStringBuilder" "coder" "B" (.int (0 : Int32)) := D8 (Or.inl (hw _ (List.mem_of_getElem? (i := 26) rfl))) (ty := .byte) (by rfl)
  have F11 : Fld Z h3 a1 "java/lang/AbstractStringBuilder" "count" "I" (.int (0 : Int32)) := D8 (Or.inl (hw _ (List.mem_of_getElem? (i := 57) rfl))) (ty := .int) (by rfl)
  refine g_dup X5 d1_3 rfl 4 rfl ?_
  refine g_callIn X5 rfl (hw _ (List.mem_of_getElem? (i := 8) rfl)) (hw _ (List.mem_of_getElem? (i := 9) rfl)) (hw _ (List.mem_of_getElem? (i := 7) rfl)) (hw _ (List.mem_of_getElem? (i := 10) rfl)) (by decide) (c_sbi l Z a0 G a1 h3 A7 F9 F10 F11) (by simp) (argsL := []) (rest := [.ref a1]) pd_14 rfl rfl rfl rfl 1 (Nat.le_of_eq rfl) (by decide) (by decide) (ck := 2) rfl (cs := 20) rfl (by decide) (by decide) d1_4 7 rfl ?_
  intro T12 h15 X13 hq14
  obtain ⟨b16, kb17, K18, le19, S20⟩ := hq14
  have X21 := X13.add (elL hw 16 (by decide)) S20.arv (Nat.le_trans X5.old.1 le19)
  have le_b16 : h.size ≤ b16 := Nat.le_trans ((Ext.refl h).trans E6).1 le19
  have ne_a1_b16 : a1 ≠ b16 := Nat.ne_of_lt (Nat.lt_of_lt_of_le A7.lt le19)
  have x22 : Ext h h15 := (ext_keep ((Ext.refl h).trans E6) K18 (fun x hx => by simp only [List.mem_cons, List.not_mem_nil, or_false] at hx; rcases hx with rfl <;> first | exact le_a1))
  refine g_ldcS X21 (cs := [(67 : Int32)]) rfl (hw _ (List.mem_of_getElem? (i := 27) rfl)) hSA (by simp [EL, consts_1]) ⟨by decide, by decide⟩ (by decide) (by decide) d1_7 4 (by decide) (by decide) (ck := 4) rfl (cs' := 28) rfl (by decide) (by decide) 9 rfl ?_
  intro s23 T24 h25 X26 E27 S28
  obtain ⟨t29, kb30, e31, f32, f33, k34, b35, l36, n37⟩ := id S28
  refine g_callVv X26 (hw _ (List.mem_of_getElem? (i := 33) rfl)) (hw _ (List.mem_of_getElem? (i := 34) rfl)) (hw _ (List.mem_of_getElem? (i := 36) rfl)) (hw _ (List.mem_of_getElem? (i := 35) rfl)) (hw _ (List.mem_of_getElem? (i := 7) rfl)) (hw _ (List.mem_of_getElem? (i := 37) rfl)) (nfSel (hw _ (List.mem_of_getElem? (i := 36) rfl))) (by decide) (S20.ext E27).1 (c_sba l Z a0 G a1 s23 t29 b16 kb30 kb17 16 ([] : List Int32) ([(67 : Int32)]) h25 (S20.ext E27) e31 f32 f33 k34 b35 l36 (by first | (simp; done) | exact Nat.le_of_ble_eq_true rfl)) (by simp) (argsL := [.ref s23]) (rest := []) pd_16 rfl rfl rfl rfl 0 (Nat.le_of_eq rfl) (by decide) (by decide) (ck := 4) rfl (cs := 28) rfl (by decide) (by decide) d1_9 12 rfl ?_
  intro w40 T38 h42 X39 hq41
  obtain ⟨rfl, K43, S44⟩ := hq41
  have x45 : Ext h h42 := (ext_keep (x22.trans E27) K43 (fun x hx => by simp only [List.mem_cons, List.not_mem_nil, or_false] at hx; rcases hx with rfl | rfl <;> first | exact le_a1 | exact le_b16))
  refine g_iloadN X39 d1_12 rfl 13 rfl ?_
  refine g_iconst X39 (2 : Int32) d1_13 (by decide) 14 rfl ?_
  refine g_callSv X39 (hw _ (List.mem_of_getElem? (i := 83) rfl)) (hw _ (List.mem_of_getElem? (i := 84) rfl)) (hw _ (List.mem_of_getElem? (i := 3) rfl)) (hw _ (List.mem_of_getElem? (i := 85) rfl)) (by decide) (c_dig2 l Z a0 G k h42 hk) (by simp) (argsL := [.int (Int32.ofNat k), .int (2 : Int32)]) (rest := [.ref a1]) pd_1 rfl rfl rfl rfl 1 (Nat.le_of_eq rfl) (by decide) (by decide) (ck := 14) rfl (cs := 77) rfl (by decide) (by decide) d1_14 17 rfl ?_
  intro w48 T46 h50 X47 hq49
  obtain ⟨r51, rfl, E52, SN53⟩ := hq49
  have S54 : Str Z h50 ([b16, a1]) r51 [Int32.ofNat (48 + k / 10), Int32.ofNat (48 + k % 10)] := SN53.str X39.news
  obtain ⟨t55, kb56, e57, f58, f59, k60, b61, l62, n63⟩ := id S54
  refine g_callVv X47 (hw _ (List.mem_of_getElem? (i := 33) rfl)) (hw _ (List.mem_of_getElem? (i := 34) rfl)) (hw _ (List.mem_of_getElem? (i := 36) rfl)) (hw _ (List.mem_of_getElem? (i := 35) rfl)) (hw _ (List.mem_of_getElem? (i := 7) rfl)) (hw _ (List.mem_of_getElem? (i := 37) rfl)) (nfSel (hw _ (List.mem_of_getElem? (i := 36) rfl))) (by decide) (S44.ext E52).1 (c_sba l Z a0 G a1 r51 t55 b16 kb56 kb17 16 (([] : List Int32) ++ [(67 : Int32)]) ([Int32.ofNat (48 + k / 10), Int32.ofNat (48 + k % 10)]) h50 (S44.ext E52) e57 f58 f59 k60 b61 l62 (by first | (simp; done) | exact Nat.le_of_ble_eq_true rfl)) (by simp) (argsL := [.ref r51]) (rest := []) pd_16 rfl rfl rfl rfl 0 (Nat.le_of_eq rfl) (by decide) (by decide) (ck := 14) rfl (cs := 77) rfl (by decide) (by decide) d1_17 20 rfl ?_
  intro w66 T64 h68 X65 hq67
  obtain ⟨rfl, K69, S70⟩ := hq67
  have x71 : Ext h h68 := (ext_keep (x45.trans E52) K69 (fun x hx => by simp only [List.mem_cons, List.not_mem_nil, or_false] at hx; rcases hx with rfl | rfl <;> first | exact le_a1 | exact le_b16))
  refine g_ldcS X65 (cs := [(120 : Int32)]) rfl (hw _ (List.mem_of_getElem? (i := 156) rfl)) hSA (by simp [EL, consts_1]) ⟨by decide, by decide⟩ (by decide) (by decide) d1_20 4 (by decide) (by decide) (ck := 16) rfl (cs' := 85) rfl (by decide) (by decide) 22 rfl ?_
  intro s72 T73 h74 X75 E76 S77
  obtain ⟨t78, kb79, e80, f81, f82, k83, b84, l85, n86⟩ := id S77
  refine g_callVv X75 (hw _ (List.mem_of_getElem? (i := 33) rfl)) (hw _ (List.mem_of_getElem? (i := 34) rfl)) (hw _ (List.mem_of_getElem? (i := 36) rfl)) (hw _ (List.mem_of_getElem? (i := 35) rfl)) (hw _ (List.mem_of_getElem? (i := 7) rfl)) (hw _ (List.mem_of_getElem? (i := 37) rfl)) (nfSel (hw _ (List.mem_of_getElem? (i := 36) rfl))) (by decide) (S70.ext E76).1 (c_sba l Z a0 G a1 s72 t78 b16 kb79 kb17 16 ((([] : List Int32) ++ [(67 : Int32)]) ++ [Int32.ofNat (48 + k / 10), Int32.ofNat (48 + k % 10)]) ([(120 : Int32)]) h74 (S70.ext E76) e80 f81 f82 k83 b84 l85 (by first | (simp; done) | exact Nat.le_of_ble_eq_true rfl)) (by simp) (argsL := [.ref s72]) (rest := []) pd_16 rfl rfl rfl rfl 0 (Nat.le_of_eq rfl) (by decide) (by decide) (ck := 16) rfl (cs := 85) rfl (by decide) (by decide) d1_22 25 rfl ?_
  intro w89 T87 h91 X88 hq90
  obtain ⟨rfl, K92, S93⟩ := hq90
  have x94 : Ext h h91 := (ext_keep (x71.trans E76) K92 (fun x hx => by simp only [List.mem_cons, List.not_mem_nil, or_false] at hx; rcases hx with rfl | rfl <;> first | exact le_a1 | exact le_b16))
  refine g_iloadN X88 d1_25 rfl 26 rfl ?_
  refine g_iconst X88 (3 : Int32) d1_26 (by decide) 27 rfl ?_
  refine g_callSv X88 (hw _ (List.mem_of_getElem? (i := 83) rfl)) (hw _ (List.mem_of_getElem? (i := 84) rfl)) (hw _ (List.mem_of_getElem? (i := 3) rfl)) (hw _ (List.mem_of_getElem? (i := 85) rfl)) (by decide) (c_dig3 l Z a0 G n h91 hn) (by simp) (argsL := [.int (Int32.ofNat n), .int (3 : Int32)]) (rest := [.ref a1]) pd_1 rfl rfl rfl rfl 1 (Nat.le_of_eq rfl) (by decide) (by decide) (ck := 26) rfl (cs := 135) rfl (by decide) (by decide) d1_27 30 rfl ?_
  intro w97 T95 h99 X96 hq98
  obtain ⟨r100, rfl, E101, SN102⟩ := hq98
  have S103 : Str Z h99 ([b16, a1]) r100 [Int32.ofNat (48 + n / 100), Int32.ofNat (48 + n / 10 % 10), Int32.ofNat (48 + n % 10)] := SN102.str X88.news
  obtain ⟨t104, kb105, e106, f107, f108, k109, b110, l111, n112⟩ := id S103
  refine g_callVv X96 (hw _ (List.mem_of_getElem? (i := 33) rfl)) (hw _ (List.mem_of_getElem? (i := 34) rfl)) (hw _ (List.mem_of_getElem? (i := 36) rfl)) (hw _ (List.mem_of_getElem? (i := 35) rfl)) (hw _ (List.mem_of_getElem? (i := 7) rfl)) (hw _ (List.mem_of_getElem? (i := 37) rfl)) (nfSel (hw _ (List.mem_of_getElem? (i := 36) rfl))) (by decide) (S93.ext E101).1 (c_sba l Z a0 G a1 r100 t104 b16 kb105 kb17 16 (((([] : List Int32) ++ [(67 : Int32)]) ++ [Int32.ofNat (48 + k / 10), Int32.ofNat (48 + k % 10)]) ++ [(120 : Int32)]) ([Int32.ofNat (48 + n / 100), Int32.ofNat (48 + n / 10 % 10), Int32.ofNat (48 + n % 10)]) h99 (S93.ext E101) e106 f107 f108 k109 b110 l111 (by first | (simp; done) | exact Nat.le_of_ble_eq_true rfl)) (by simp) (argsL := [.ref r100]) (rest := []) pd_16 rfl rfl rfl rfl 0 (Nat.le_of_eq rfl) (by decide) (by decide) (ck := 26) rfl (cs := 135) rfl (by decide) (by decide) d1_30 33 rfl ?_
  intro w115 T113 h117 X114 hq116
  obtain ⟨rfl, K118, S119⟩ := hq116
  have x120 : Ext h h117 := (ext_keep (x94.trans E101) K118 (fun x hx => by simp only [List.mem_cons, List.not_mem_nil, or_false] at hx; rcases hx with rfl | rfl <;> first | exact le_a1 | exact le_b16))
  refine g_callVv X114 (hw _ (List.mem_of_getElem? (i := 111) rfl)) (hw _ (List.mem_of_getElem? (i := 112) rfl)) (hw _ (List.mem_of_getElem? (i := 114) rfl)) (hw _ (List.mem_of_getElem? (i := 113) rfl)) (hw _ (List.mem_of_getElem? (i := 7) rfl)) (hw _ (List.mem_of_getElem? (i := 115) rfl)) (nfSel (hw _ (List.mem_of_getElem? (i := 114) rfl))) (by decide) S119.1 (c_sts l Z a0 G a1 b16 kb17 16 ((((([] : List Int32) ++ [(67 : Int32)]) ++ [Int32.ofNat (48 + k / 10), Int32.ofNat (48 + k % 10)]) ++ [(120 : Int32)]) ++ [Int32.ofNat (48 + n / 100), Int32.ofNat (48 + n / 10 % 10), Int32.ofNat (48 + n % 10)]) h117 S119 (by first | (simp; done) | exact Nat.le_of_ble_eq_true rfl) (by first | (simp; done) | exact Nat.le_of_ble_eq_true rfl)) (by simp) (argsL := []) (rest := []) pd_21 rfl rfl rfl rfl 0 (Nat.le_of_eq rfl) (by decide) (by decide) (ck := 28) rfl (cs := 146) rfl (by decide) (by decide) d1_33 36 rfl ?_
  intro w123 T121 h125 X122 hq124
  obtain ⟨r126, rfl, E127, SN128⟩ := hq124
  have S129 : Str Z h125 ([b16, a1]) r126 ((((([] : List Int32) ++ [(67 : Int32)]) ++ [Int32.ofNat (48 + k / 10), Int32.ofNat (48 + k % 10)]) ++ [(120 : Int32)]) ++ [Int32.ofNat (48 + n / 100), Int32.ofNat (48 + n / 10 % 10), Int32.ofNat (48 + n % 10)]) := SN128.str X114.news
  have sn_r126 : StrN Z h h125 r126 ((((([] : List Int32) ++ [(67 : Int32)]) ++ [Int32.ofNat (48 + k / 10), Int32.ofNat (48 + k % 10)]) ++ [(120 : Int32)]) ++ [Int32.ofNat (48 + n / 100), Int32.ofNat (48 + n / 10 % 10), Int32.ofNat (48 + n % 10)]) := SN128.mono x120.1
  exact g_retA X122 rfl rfl rfl d1_36 (by decide) (by decide) ⟨_, rfl, ⟨r126, rfl, (x120.trans E127), sn_r126⟩⟩
theorem d36_0 : decode method_2_code 0 = .ok (.bipush 48, 2) := by decide +kernel
theorem d36_2 : decode method_2_code 2 = .ok (.iload_n 0, 1) := by decide +kernel
theorem d36_3 : decode method_2_code 3 = .ok (.iadd, 1) := by decide +kernel
theorem d36_4 : decode method_2_code 4 = .ok (.i2c, 1) := by decide +kernel
theorem d36_5 : decode method_2_code 5 = .ok (.ireturn, 1) := by decide +kernel
theorem pn_8 : plainName "com/example/capsa/capsa/benchmark/InputClassesSimpleNamePinLaw" = true := by first | (simp [plainName, overriddenIn]; done) | decide +kernel
set_option maxRecDepth 65536 in
set_option maxHeartbeats 40000000 in
theorem c_digit (l : Launch) (Z : State) (a0 : Array Value) (G : Gl Z a0) (d : Nat) (h : Heap) (hd : d < 10) :
    Ctr l Z EL nw (⟨"com/example/capsa/capsa/benchmark/InputClassesSimpleNamePinLaw", "digit", "(I)C"⟩ : MethodName) method_2_code 1 (Option.some Jvm.ClassFile.FieldType.char) ({ frames := 0, cells := 0, slots := 0, locals := 0 } : Room) #[.int (Int32.ofNat d)] h [] (PureQ h fun w => w = .int (Int32.ofNat (48 + d))) := by
  obtain ⟨hw, hEL, hSA, ⟨zc, SC, hz⟩, ⟨fm, SF, hfm⟩, ⟨d1, kd1, SD1, AD1⟩, ⟨d2, kd2, SD2, AD2⟩⟩ := id G
  refine Ctr.enter (own := "com/example/capsa/capsa/benchmark/InputClassesSimpleNamePinLaw") (nm := "digit") rfl rfl hEL (plainFor_of_name pn_8) #[.val (.int (Int32.ofNat d))] (fun m => by first | rfl | (simp [entryFrame, mkF, argsToLocals, Value.category, maxLocals]; done)) ?_
  intro p e s m below meth c T X
  refine g_bipush X (48 : Int32) d36_0 (by decide) 2 rfl ?_
  refine g_iloadN X d36_2 rfl 3 rfl ?_
  refine g_iadd X d36_3 _ rfl 4 rfl ?_
  refine g_i2c X d36_4 (Int32.ofNat (48 + d)) (n_i2c _ hd) 5 rfl ?_
  exact g_retN X (t := .char) rfl (by simp) d36_5 _ (n_narc _ (by omega)) (by decide) (by decide) ⟨rfl, _, rfl, rfl⟩
set_option maxRecDepth 65536 in
set_option maxHeartbeats 40000000 in
theorem c_law (l : Launch) (Z : State) (a0 : Array Value) (G : Gl Z a0) (k0 k1 : Int32) (h : Heap)  :
    Ctr l Z EL nw x code maxLocals ret room_1 #[.int k0, .int k1] h [] (fun v _ => v = some (.int 1)) := by
  obtain ⟨hw, hEL, hSA, ⟨zc, SC, hz⟩, ⟨fm, SF, hfm⟩, ⟨d1, kd1, SD1, AD1⟩, ⟨d2, kd2, SD2, AD2⟩⟩ := id G
  refine Ctr.enter (own := "com/example/capsa/capsa/benchmark/InputClassesSimpleNamePinLaw") (nm := "law") rfl rfl hEL (plainFor_of_name pn_8) #[.val (.int k0), .val (.int k1), .unset, .unset, .unset] (fun m => by first | rfl | (simp [entryFrame, mkF, argsToLocals, Value.category, maxLocals]; done)) ?_
  intro p e s m below meth c T X
  obtain ⟨k, hk, ek⟩ := rem_nat k0 (100 : Int32) 100 (by decide) (by decide) (by decide)
  obtain ⟨n, hn, en⟩ := rem_nat k1 (1000 : Int32) 1000 (by decide) (by decide) (by decide)
  refine g_iloadN X at_0 rfl 1 rfl ?_
  refine g_ldcI X (hw _ (List.mem_of_getElem? (i := 0) rfl)) at_1 3 rfl ?_
  refine g_iand X at_3 _ rfl 4 rfl ?_
  refine g_bipush X (100 : Int32) at_4 (by decide) 6 rfl ?_
  refine g_irem X at_6 (by decide) (Int32.ofNat k) ek 7 rfl ?_
  refine g_istoreN X at_7 (Ls' := #[.val (.int k0), .val (.int k1), .val (.int (Int32.ofNat k)), .unset, .unset]) rfl 8 rfl ?_
  refine g_iloadN X at_8 rfl 9 rfl ?_
  refine g_ldcI X (hw _ (List.mem_of_getElem? (i := 0) rfl)) at_9 11 rfl ?_
  refine g_iand X at_11 _ rfl 12 rfl ?_
  refine g_sipush X (1000 : Int32) at_12 (by decide) 15 rfl ?_
  refine g_irem X at_15 (by decide) (Int32.ofNat n) en 16 rfl ?_
  refine g_istoreN X at_16 (Ls' := #[.val (.int k0), .val (.int k1), .val (.int (Int32.ofNat k)), .val (.int (Int32.ofNat n)), .unset]) rfl 17 rfl ?_
  refine g_iloadN X at_17 rfl 18 rfl ?_
  refine g_iloadN X at_18 rfl 19 rfl ?_
  refine g_callSv X (hw _ (List.mem_of_getElem? (i := 1) rfl)) (hw _ (List.mem_of_getElem? (i := 2) rfl)) (hw _ (List.mem_of_getElem? (i := 3) rfl)) (hw _ (List.mem_of_getElem? (i := 4) rfl)) (by decide) (c_sn l Z a0 G k n h hk hn) (by simp) (argsL := [.int (Int32.ofNat k), .int (Int32.ofNat n)]) (rest := []) pd_1 rfl rfl rfl rfl 0 (Nat.le_of_eq rfl) (by decide) (by decide) (ck := 28) rfl (cs := 146) rfl (by decide) (by decide) at_19 22 rfl ?_
  intro w3 T1 h5 X2 hq4
  obtain ⟨r6, rfl, E7, SN8⟩ := hq4
  have S9 : Str Z h5 ([]) r6 [(67 : Int32), Int32.ofNat (48 + k / 10), Int32.ofNat (48 + k % 10), (120 : Int32), Int32.ofNat (48 + n / 100), Int32.ofNat (48 + n / 10 % 10), Int32.ofNat (48 + n % 10)] := SN8.str X.news
  refine g_astore X2 at_22 rfl (Ls' := #[.val (.int k0), .val (.int k1), .val (.int (Int32.ofNat k)), .val (.int (Int32.ofNat n)), .val (.ref r6)]) rfl 24 rfl ?_
  refine g_aload X2 at_24 rfl rfl 26 rfl ?_
  refine g_ifnullNo X2 at_26 29 rfl ?_
  refine g_aload X2 at_29 rfl rfl 31 rfl ?_
  obtain ⟨t10, kb11, e12, f13, f14, k15, b16, l17, n18⟩ := id S9
  refine g_callVp X2 (hw _ (List.mem_of_getElem? (i := 163) rfl)) (hw _ (List.mem_of_getElem? (i := 44) rfl)) (hw _ (List.mem_of_getElem? (i := 46) rfl)) (hw _ (List.mem_of_getElem? (i := 45) rfl)) (hw _ (List.mem_of_getElem? (i := 21) rfl)) (hw _ (List.mem_of_getElem? (i := 47) rfl)) (nfSel (hw _ (List.mem_of_getElem? (i := 46) rfl))) (by decide) e12 (c_len l Z a0 G r6 t10 kb11 ([(67 : Int32), Int32.ofNat (48 + k / 10), Int32.ofNat (48 + k % 10), (120 : Int32), Int32.ofNat (48 + n / 100), Int32.ofNat (48 + n / 10 % 10), Int32.ofNat (48 + n % 10)]) h5 e12 f13 f14 k15 b16 l17) (by simp) (argsL := []) (rest := []) pd_6 rfl rfl rfl rfl 0 (Nat.le_of_eq rfl) (by decide) (by decide) (ck := 28) rfl (cs := 146) rfl (by decide) (by decide) at_31 34 rfl ?_
  intro w21 T19 X20 hq22
  obtain rfl : w21 = .int (7 : Int32) := hq22
  refine g_bipush X20 (7 : Int32) at_34 (by decide) 36 rfl ?_
  refine g_icmpYes X20 at_36 (XT.ii_eq_t (by decide)) 41 (by decide) (by decide) ?_
  refine g_aload X20 at_41 rfl rfl 43 rfl ?_
  refine g_iconst X20 (0 : Int32) at_43 (by decide) 44 rfl ?_
  refine g_callVp X20 (hw _ (List.mem_of_getElem? (i := 164) rfl)) (hw _ (List.mem_of_getElem? (i := 165) rfl)) (hw _ (List.mem_of_getElem? (i := 167) rfl)) (hw _ (List.mem_of_getElem? (i := 166) rfl)) (hw _ (List.mem_of_getElem? (i := 21) rfl)) (hw _ (List.mem_of_getElem? (i := 168) rfl)) (nfSel (hw _ (List.mem_of_getElem? (i := 167) rfl))) (by decide) e12 (c_cha l Z a0 G r6 t10 kb11 ([(67 : Int32), Int32.ofNat (48 + k / 10), Int32.ofNat (48 + k % 10), (120 : Int32), Int32.ofNat (48 + n / 100), Int32.ofNat (48 + n / 10 % 10), Int32.ofNat (48 + n % 10)]) 0 h5 e12 f13 f14 k15 b16 l17 (by simp)) (by simp) (argsL := [.int (0 : Int32)]) (rest := []) pd_5 rfl rfl rfl rfl 0 (Nat.le_of_eq rfl) (by decide) (by decide) (ck := 28) rfl (cs := 146) rfl (by decide) (by decide) at_44 47 rfl ?_
  intro w25 T23 X24 hq26
  obtain rfl : w25 = .int (67 : Int32) := hq26
  refine g_bipush X24 (67 : Int32) at_47 (by decide) 49 rfl ?_
  refine g_icmpNo X24 at_49 (XT.ii_ne_f (by decide)) 52 rfl ?_
  refine g_aload X24 at_52 rfl rfl 54 rfl ?_
  refine g_iconst X24 (1 : Int32) at_54 (by decide) 55 rfl ?_
  refine g_callVp X24 (hw _ (List.mem_of_getElem? (i := 164) rfl)) (hw _ (List.mem_of_getElem? (i := 165) rfl)) (hw _ (List.mem_of_getElem? (i := 167) rfl)) (hw _ (List.mem_of_getElem? (i := 166) rfl)) (hw _ (List.mem_of_getElem? (i := 21) rfl)) (hw _ (List.mem_of_getElem? (i := 168) rfl)) (nfSel (hw _ (List.mem_of_getElem? (i := 167) rfl))) (by decide) e12 (c_cha l Z a0 G r6 t10 kb11 ([(67 : Int32), Int32.ofNat (48 + k / 10), Int32.ofNat (48 + k % 10), (120 : Int32), Int32.ofNat (48 + n / 100), Int32.ofNat (48 + n / 10 % 10), Int32.ofNat (48 + n % 10)]) 1 h5 e12 f13 f14 k15 b16 l17 (by simp)) (by simp) (argsL := [.int (1 : Int32)]) (rest := []) pd_5 rfl rfl rfl rfl 0 (Nat.le_of_eq rfl) (by decide) (by decide) (ck := 28) rfl (cs := 146) rfl (by decide) (by decide) at_55 58 rfl ?_
  intro w29 T27 X28 hq30
  obtain rfl : w29 = .int (Int32.ofNat (48 + k / 10)) := hq30
  refine g_iloadN X28 at_58 rfl 59 rfl ?_
  refine g_bipush X28 (10 : Int32) at_59 (by decide) 61 rfl ?_
  refine g_idiv X28 at_61 (by decide) (Int32.ofNat (k / 10)) (n_div10 _ (by omega)) 62 rfl ?_
  refine g_callSp X28 (hw _ (List.mem_of_getElem? (i := 186) rfl)) (hw _ (List.mem_of_getElem? (i := 187) rfl)) (hw _ (List.mem_of_getElem? (i := 188) rfl)) (hw _ (List.mem_of_getElem? (i := 189) rfl)) (by decide) (c_digit l Z a0 G (k / 10) h5 (by omega)) (by simp) (argsL := [.int (Int32.ofNat (k / 10))]) (rest := [.int (Int32.ofNat (48 + k / 10))]) pd_5 rfl rfl rfl rfl 1 (Nat.le_of_eq rfl) (by decide) (by decide) (ck := 28) rfl (cs := 146) rfl (by decide) (by decide) at_62 65 rfl ?_
  intro w33 T31 X32 hq34
  subst hq34
  refine g_icmpNo X32 at_65 (XT.ii_ne_f rfl) 68 rfl ?_
  refine g_aload X32 at_68 rfl rfl 70 rfl ?_
  refine g_iconst X32 (2 : Int32) at_70 (by decide) 71 rfl ?_
  refine g_callVp X32 (hw _ (List.mem_of_getElem? (i := 164) rfl)) (hw _ (List.mem_of_getElem? (i := 165) rfl)) (hw _ (List.mem_of_getElem? (i := 167) rfl)) (hw _ (List.mem_of_getElem? (i := 166) rfl)) (hw _ (List.mem_of_getElem? (i := 21) rfl)) (hw _ (List.mem_of_getElem? (i := 168) rfl)) (nfSel (hw _ (List.mem_of_getElem? (i := 167) rfl))) (by decide) e12 (c_cha l Z a0 G r6 t10 kb11 ([(67 : Int32), Int32.ofNat (48 + k / 10), Int32.ofNat (48 + k % 10), (120 : Int32), Int32.ofNat (48 + n / 100), Int32.ofNat (48 + n / 10 % 10), Int32.ofNat (48 + n % 10)]) 2 h5 e12 f13 f14 k15 b16 l17 (by simp)) (by simp) (argsL := [.int (2 : Int32)]) (rest := []) pd_5 rfl rfl rfl rfl 0 (Nat.le_of_eq rfl) (by decide) (by decide) (ck := 28) rfl (cs := 146) rfl (by decide) (by decide) at_71 74 rfl ?_
  intro w37 T35 X36 hq38
  obtain rfl : w37 = .int (Int32.ofNat (48 + k % 10)) := hq38
  refine g_iloadN X36 at_74 rfl 75 rfl ?_
  refine g_bipush X36 (10 : Int32) at_75 (by decide) 77 rfl ?_
  refine g_irem X36 at_77 (by decide) (Int32.ofNat (k % 10)) (n_rem10 _ (by omega)) 78 rfl ?_
  refine g_callSp X36 (hw _ (List.mem_of_getElem? (i := 186) rfl)) (hw _ (List.mem_of_getElem? (i := 187) rfl)) (hw _ (List.mem_of_getElem? (i := 188) rfl)) (hw _ (List.mem_of_getElem? (i := 189) rfl)) (by decide) (c_digit l Z a0 G (k % 10) h5 (by omega)) (by simp) (argsL := [.int (Int32.ofNat (k % 10))]) (rest := [.int (Int32.ofNat (48 + k % 10))]) pd_5 rfl rfl rfl rfl 1 (Nat.le_of_eq rfl) (by decide) (by decide) (ck := 28) rfl (cs := 146) rfl (by decide) (by decide) at_78 81 rfl ?_
  intro w41 T39 X40 hq42
  subst hq42
  refine g_icmpNo X40 at_81 (XT.ii_ne_f rfl) 84 rfl ?_
  refine g_aload X40 at_84 rfl rfl 86 rfl ?_
  refine g_iconst X40 (3 : Int32) at_86 (by decide) 87 rfl ?_
  refine g_callVp X40 (hw _ (List.mem_of_getElem? (i := 164) rfl)) (hw _ (List.mem_of_getElem? (i := 165) rfl)) (hw _ (List.mem_of_getElem? (i := 167) rfl)) (hw _ (List.mem_of_getElem? (i := 166) rfl)) (hw _ (List.mem_of_getElem? (i := 21) rfl)) (hw _ (List.mem_of_getElem? (i := 168) rfl)) (nfSel (hw _ (List.mem_of_getElem? (i := 167) rfl))) (by decide) e12 (c_cha l Z a0 G r6 t10 kb11 ([(67 : Int32), Int32.ofNat (48 + k / 10), Int32.ofNat (48 + k % 10), (120 : Int32), Int32.ofNat (48 + n / 100), Int32.ofNat (48 + n / 10 % 10), Int32.ofNat (48 + n % 10)]) 3 h5 e12 f13 f14 k15 b16 l17 (by simp)) (by simp) (argsL := [.int (3 : Int32)]) (rest := []) pd_5 rfl rfl rfl rfl 0 (Nat.le_of_eq rfl) (by decide) (by decide) (ck := 28) rfl (cs := 146) rfl (by decide) (by decide) at_87 90 rfl ?_
  intro w45 T43 X44 hq46
  obtain rfl : w45 = .int (120 : Int32) := hq46
  refine g_bipush X44 (120 : Int32) at_90 (by decide) 92 rfl ?_
  refine g_icmpNo X44 at_92 (XT.ii_ne_f (by decide)) 95 rfl ?_
  refine g_aload X44 at_95 rfl rfl 97 rfl ?_
  refine g_iconst X44 (4 : Int32) at_97 (by decide) 98 rfl ?_
  refine g_callVp X44 (hw _ (List.mem_of_getElem? (i := 164) rfl)) (hw _ (List.mem_of_getElem? (i := 165) rfl)) (hw _ (List.mem_of_getElem? (i := 167) rfl)) (hw _ (List.mem_of_getElem? (i := 166) rfl)) (hw _ (List.mem_of_getElem? (i := 21) rfl)) (hw _ (List.mem_of_getElem? (i := 168) rfl)) (nfSel (hw _ (List.mem_of_getElem? (i := 167) rfl))) (by decide) e12 (c_cha l Z a0 G r6 t10 kb11 ([(67 : Int32), Int32.ofNat (48 + k / 10), Int32.ofNat (48 + k % 10), (120 : Int32), Int32.ofNat (48 + n / 100), Int32.ofNat (48 + n / 10 % 10), Int32.ofNat (48 + n % 10)]) 4 h5 e12 f13 f14 k15 b16 l17 (by simp)) (by simp) (argsL := [.int (4 : Int32)]) (rest := []) pd_5 rfl rfl rfl rfl 0 (Nat.le_of_eq rfl) (by decide) (by decide) (ck := 28) rfl (cs := 146) rfl (by decide) (by decide) at_98 101 rfl ?_
  intro w49 T47 X48 hq50
  obtain rfl : w49 = .int (Int32.ofNat (48 + n / 100)) := hq50
  refine g_iloadN X48 at_101 rfl 102 rfl ?_
  refine g_bipush X48 (100 : Int32) at_102 (by decide) 104 rfl ?_
  refine g_idiv X48 at_104 (by decide) (Int32.ofNat (n / 100)) (n_div100 _ (by omega)) 105 rfl ?_
  refine g_callSp X48 (hw _ (List.mem_of_getElem? (i := 186) rfl)) (hw _ (List.mem_of_getElem? (i := 187) rfl)) (hw _ (List.mem_of_getElem? (i := 188) rfl)) (hw _ (List.mem_of_getElem? (i := 189) rfl)) (by decide) (c_digit l Z a0 G (n / 100) h5 (by omega)) (by simp) (argsL := [.int (Int32.ofNat (n / 100))]) (rest := [.int (Int32.ofNat (48 + n / 100))]) pd_5 rfl rfl rfl rfl 1 (Nat.le_of_eq rfl) (by decide) (by decide) (ck := 28) rfl (cs := 146) rfl (by decide) (by decide) at_105 108 rfl ?_
  intro w53 T51 X52 hq54
  subst hq54
  refine g_icmpNo X52 at_108 (XT.ii_ne_f rfl) 111 rfl ?_
  refine g_aload X52 at_111 rfl rfl 113 rfl ?_
  refine g_iconst X52 (5 : Int32) at_113 (by decide) 114 rfl ?_
  refine g_callVp X52 (hw _ (List.mem_of_getElem? (i := 164) rfl)) (hw _ (List.mem_of_getElem? (i := 165) rfl)) (hw _ (List.mem_of_getElem? (i := 167) rfl)) (hw _ (List.mem_of_getElem? (i := 166) rfl)) (hw _ (List.mem_of_getElem? (i := 21) rfl)) (hw _ (List.mem_of_getElem? (i := 168) rfl)) (nfSel (hw _ (List.mem_of_getElem? (i := 167) rfl))) (by decide) e12 (c_cha l Z a0 G r6 t10 kb11 ([(67 : Int32), Int32.ofNat (48 + k / 10), Int32.ofNat (48 + k % 10), (120 : Int32), Int32.ofNat (48 + n / 100), Int32.ofNat (48 + n / 10 % 10), Int32.ofNat (48 + n % 10)]) 5 h5 e12 f13 f14 k15 b16 l17 (by simp)) (by simp) (argsL := [.int (5 : Int32)]) (rest := []) pd_5 rfl rfl rfl rfl 0 (Nat.le_of_eq rfl) (by decide) (by decide) (ck := 28) rfl (cs := 146) rfl (by decide) (by decide) at_114 117 rfl ?_
  intro w57 T55 X56 hq58
  obtain rfl : w57 = .int (Int32.ofNat (48 + n / 10 % 10)) := hq58
  refine g_iloadN X56 at_117 rfl 118 rfl ?_
  refine g_bipush X56 (10 : Int32) at_118 (by decide) 120 rfl ?_
  refine g_idiv X56 at_120 (by decide) (Int32.ofNat (n / 10)) (n_div10 _ (by omega)) 121 rfl ?_
  refine g_bipush X56 (10 : Int32) at_121 (by decide) 123 rfl ?_
  refine g_irem X56 at_123 (by decide) (Int32.ofNat ((n / 10) % 10)) (n_rem10 _ (by omega)) 124 rfl ?_
  refine g_callSp X56 (hw _ (List.mem_of_getElem? (i := 186) rfl)) (hw _ (List.mem_of_getElem? (i := 187) rfl)) (hw _ (List.mem_of_getElem? (i := 188) rfl)) (hw _ (List.mem_of_getElem? (i := 189) rfl)) (by decide) (c_digit l Z a0 G ((n / 10) % 10) h5 (by omega)) (by simp) (argsL := [.int (Int32.ofNat ((n / 10) % 10))]) (rest := [.int (Int32.ofNat (48 + n / 10 % 10))]) pd_5 rfl rfl rfl rfl 1 (Nat.le_of_eq rfl) (by decide) (by decide) (ck := 28) rfl (cs := 146) rfl (by decide) (by decide) at_124 127 rfl ?_
  intro w61 T59 X60 hq62
  subst hq62
  refine g_icmpNo X60 at_127 (XT.ii_ne_f rfl) 130 rfl ?_
  refine g_aload X60 at_130 rfl rfl 132 rfl ?_
  refine g_bipush X60 (6 : Int32) at_132 (by decide) 134 rfl ?_
  refine g_callVp X60 (hw _ (List.mem_of_getElem? (i := 164) rfl)) (hw _ (List.mem_of_getElem? (i := 165) rfl)) (hw _ (List.mem_of_getElem? (i := 167) rfl)) (hw _ (List.mem_of_getElem? (i := 166) rfl)) (hw _ (List.mem_of_getElem? (i := 21) rfl)) (hw _ (List.mem_of_getElem? (i := 168) rfl)) (nfSel (hw _ (List.mem_of_getElem? (i := 167) rfl))) (by decide) e12 (c_cha l Z a0 G r6 t10 kb11 ([(67 : Int32), Int32.ofNat (48 + k / 10), Int32.ofNat (48 + k % 10), (120 : Int32), Int32.ofNat (48 + n / 100), Int32.ofNat (48 + n / 10 % 10), Int32.ofNat (48 + n % 10)]) 6 h5 e12 f13 f14 k15 b16 l17 (by simp)) (by simp) (argsL := [.int (6 : Int32)]) (rest := []) pd_5 rfl rfl rfl rfl 0 (Nat.le_of_eq rfl) (by decide) (by decide) (ck := 28) rfl (cs := 146) rfl (by decide) (by decide) at_134 137 rfl ?_
  intro w65 T63 X64 hq66
  obtain rfl : w65 = .int (Int32.ofNat (48 + n % 10)) := hq66
  refine g_iloadN X64 at_137 rfl 138 rfl ?_
  refine g_bipush X64 (10 : Int32) at_138 (by decide) 140 rfl ?_
  refine g_irem X64 at_140 (by decide) (Int32.ofNat (n % 10)) (n_rem10 _ (by omega)) 141 rfl ?_
  refine g_callSp X64 (hw _ (List.mem_of_getElem? (i := 186) rfl)) (hw _ (List.mem_of_getElem? (i := 187) rfl)) (hw _ (List.mem_of_getElem? (i := 188) rfl)) (hw _ (List.mem_of_getElem? (i := 189) rfl)) (by decide) (c_digit l Z a0 G (n % 10) h5 (by omega)) (by simp) (argsL := [.int (Int32.ofNat (n % 10))]) (rest := [.int (Int32.ofNat (48 + n % 10))]) pd_5 rfl rfl rfl rfl 1 (Nat.le_of_eq rfl) (by decide) (by decide) (ck := 28) rfl (cs := 146) rfl (by decide) (by decide) at_141 144 rfl ?_
  intro w69 T67 X68 hq70
  subst hq70
  refine g_icmpNo X68 at_144 (XT.ii_ne_f rfl) 147 rfl ?_
  refine g_iconst X68 (1 : Int32) at_147 (by decide) 148 rfl ?_
  refine g_goto X68 at_148 152 (by decide) (by decide) ?_
  exact g_retN X68 (t := .boolean) rfl (by simp) at_152 _ rfl (by decide) (by decide) rfl
set_option maxRecDepth 65536 in
set_option maxHeartbeats 40000000 in
theorem comes_1 {Post : Tables → Env → Array Value → State → Outcome → State → Prop} (hpost : ∀ tb e args s v u, (limb_1_1.after args s (.returned v) u = true ∧ limb_1_2.after args s (.returned v) u = true) → FramedW s (.returned v) u (Jvm.fieldLocs frame_1_writes args s ++ Jvm.arrayLocs frame_1_arrays args s ++ Jvm.staticLocs frame_1_statics s) 56 4416 → Post tb e args s (.returned v) u) :
    ArmFor flags0 classFile x code maxLocals ret World_1 tables_1 room_1 Calls_1 rest_1 Pre_1 Post := by
  intro l hfl _ _ p e ha hc hk s m args below hf hA hF happ hP
  obtain ⟨hcalls, hrest, hpre⟩ := hP
  obtain ⟨-, -, -, hnamed, -, -, -, hat⟩ := (Spec.applies_iff hf).mp happ
  obtain ⟨hg, hn⟩ := and_e (Cond.before_iff.mp (show (Jvm.Cond.and given_1 narrow_1).before args s = true from hpre))
  obtain ⟨h1, hg⟩ := and_e hg
  obtain ⟨w0, w1, rfl⟩ : ∃ w0 w1 : Value, args = #[w0, w1] := by
    have hs : args.size = 2 := by simpa [Cond.value, given_1] using h1
    obtain ⟨L⟩ := args
    match L, hs with
    | [w0, w1], _ => exact ⟨w0, w1, rfl⟩
  have hw := fun d (hd : d ∈ tables_1) => atoms_spec (ws := Jvm.Cond.code x code maxLocals ret :: tables_1) hat d (List.mem_cons_of_mem _ hd)
  obtain ⟨g0, hg⟩ := and_e hg
  have g1 := hg
  obtain ⟨i0, e0⟩ := is_v g0
  obtain rfl : w0 = (.int i0) := Option.some.inj e0
  obtain ⟨i1, e1⟩ := is_v g1
  obtain rfl : w1 = (.int i1) := Option.some.inj e1
  have q0 := hn
  obtain ⟨hsets, hown0⟩ := atoms_of _ (rest_1_c_eq ▸ (show rest_1_c.before _ s = true from hrest))
  obtain ⟨zc, ezc⟩ := is_v (Cond.before_iff.mp (hsets _ (List.mem_of_getElem? (i := 1) rfl)))
  have SC : Sta s s.heap "java/lang/String" "COMPACT_STRINGS" "Z" (.int zc) := Sta.start ezc (Or.inl (hsets _ (List.mem_of_getElem? (i := 0) rfl)))
  have hz : ¬ zc = 0 := fun q => by
    have n5 := not_v (Cond.before_iff.mp (hsets _ (List.mem_of_getElem? (i := 2) rfl)))
    exact absurd q (gotF (Cond.eq_ints ezc (Term.int_eval 0)) n5)
  obtain ⟨fm, efm, hfm⟩ := isR_v (Cond.before_iff.mp (hsets _ (List.mem_of_getElem? (i := 8) rfl)))
  have SF : Sta s s.heap "jdk/internal/util/Preconditions" "SIOOBE_FORMATTER" "Ljava/util/function/BiFunction;" fm := Sta.start efm (Or.inl (hsets _ (List.mem_of_getElem? (i := 7) rfl)))
  obtain ⟨d1, k1, td1, AD1⟩ := own_tab (F := fun r => 48 + r % 10) (fun _ => by simp only [Term.eval]) (hsets _ (List.mem_of_getElem? (i := 12) rfl)) (hsets _ (List.mem_of_getElem? (i := 13) rfl)) (hsets _ (List.mem_of_getElem? (i := 14) rfl)) (hw _ (List.mem_of_getElem? (i := 22) rfl)) (fun r hr => by rw [← Jvm.Free.SBG.ones_num r hr]; rfl) (fun r hr => by show 48 + r % 10 < 128; omega)
  have SD1 : Sta s s.heap "java/lang/Integer" "DigitOnes" "[B" (.ref d1) := Sta.start td1 (Or.inl (hsets _ (List.mem_of_getElem? (i := 11) rfl)))
  obtain ⟨d2, k2, td2, AD2⟩ := own_tab (F := fun r => 48 + r / 10) (fun _ => by simp only [Term.eval]) (hsets _ (List.mem_of_getElem? (i := 17) rfl)) (hsets _ (List.mem_of_getElem? (i := 18) rfl)) (hsets _ (List.mem_of_getElem? (i := 19) rfl)) (hw _ (List.mem_of_getElem? (i := 22) rfl)) (fun r hr => by rw [← Jvm.Free.SBG.tens_num r hr]; rfl) (fun r hr => by show 48 + r / 10 < 128; omega)
  have SD2 : Sta s s.heap "java/lang/Integer" "DigitTens" "[B" (.ref d2) := Sta.start td2 (Or.inl (hsets _ (List.mem_of_getElem? (i := 16) rfl)))
  have hSA : ∀ a ∈ Bundle.stringAtoms, a.before _ s = true := fun d hd => hw d ((by decide +kernel : ∀ d ∈ Bundle.stringAtoms, d ∈ tables_1) d hd)
  have hEW : EW s _ EL := (EW.cons (hw _ (List.mem_of_getElem? (i := 27) rfl)) (by decide) (EW.cons (hw _ (List.mem_of_getElem? (i := 156) rfl)) (by decide) (EW.cons (hw _ (List.mem_of_getElem? (i := 104) rfl)) (by decide) (EW.cons (hw _ (List.mem_of_getElem? (i := 191) rfl)) (by decide) EW.nil))))
  have G : Gl s #[.int i0, .int i1] := ⟨hw, hEW, hSA, ⟨zc, SC, hz⟩, ⟨fm, SF, hfm⟩, ⟨d1, k1, SD1, AD1⟩, ⟨d2, k2, SD2, AD2⟩⟩
  obtain ⟨n, o, h1, h2, h3, v, L, rfl, hQ, N, -, -, hq, hnw⟩ := c_law l s _ G i0 i1 s.heap tables_1 p e ha hc hk s m _ below hf ((Spec.applies_iff_loose hf).mp happ).1 ⟨rfl, State.Warmed39.refl s, rfl, Ext.refl _, (CHv.start hEW (fun p hp => hcalls.1 p hp) (hsets _ (List.mem_of_getElem? (i := 2) rfl)) (hw _ (List.mem_of_getElem? (i := 22) rfl)) (hw _ (List.mem_of_getElem? (i := 28) rfl))), fun _ q => nomatch q⟩ trivial
  obtain ⟨rfl⟩ : v = some (.int 1) := hQ
  exact ⟨n, _, h1, h2, h3, hpost _ _ _ _ _ _ ⟨Cond.after_iff.mpr rfl, Cond.after_iff.mpr (eq_i res_at (Term.int_eval (1)) rfl)⟩ ⟨hq.1, hq.2.1, hq.2.2.1, (hq.2.2.2.sift fun y hy => Or.inr (N y hy)).mono (by decide) (by decide)⟩⟩
theorem main_1_1 : Claimed_1_1 := comes_1 fun _ _ _ _ _ _ h hF => ⟨h.1, hF⟩
theorem main_1_2 : Claimed_1_2 := comes_1 fun _ _ _ _ _ _ h hF => ⟨h.2, hF⟩
end Jvm.Pilot.@@N@@
namespace Jvm.Pilot.@@N@@
open Jvm Jvm.ClassFile Sem Op Lib Jvm.Free Jvm.Stand Jvm.Pilot.@@N@@.Jvm.D
/-! MADE BY PROGRAM (witnessworld.py) out of the Statement's table words and the real class files: 25 classes; the members and pool entries that the words name. The judged class is class 1, her method 2. -/
namespace start1
open Jvm.ClassFile
def u (s : String) : CpInfo := .utf8 (stringToUtf16 s)
/-- a pool by its gaps: so many unusable entries, then the entry; so many at the end -/
def gap : Nat → List CpInfo → List CpInfo
  | 0, r => r
  | n + 1, r => .unusable :: gap n r
def poolList (es : List (Nat × CpInfo)) (last : Nat) : List CpInfo := es.foldr (fun e r => gap e.1 (e.2 :: r)) (gap last [])
def pool (es : List (Nat × CpInfo)) (last : Nat) : Array CpInfo := ⟨poolList es last⟩
def fileOf (pool : Array CpInfo) (this : Nat) (attrs : Array Attribute := #[]) (ms : Array MethodInfo := #[]) (fl : Nat := 33) (sup : Nat := 0) (ifs : Array Nat := #[]) (fds : Array FieldInfo := #[]) : ClassFile where
  minorVersion := 0
  majorVersion := 65
  constantPool := pool
  accessFlags := fl
  thisClass := this
  superClass := sup
  interfaces := ifs
  fields := fds
  methods := ms
  attributes := attrs
def plain (name : String) (sup : Option ClassId) : Class where
  name := name
  kind := .ordinary
  loader := none
  accessFlags := 33
  super := sup
  interfaces := #[]
  cf := none
  fields := #[]
  methods := #[]
  instanceTypes := #[]
  staticTypes := #[]
  resolved := #[]
  callSites := []
  init := .initialized
  statics := none
  mirror := none

def pool0 : Array CpInfo := pool [(5, u "<init>"), (0, u "()V"), (1, .class_ 10), (1, u "java/lang/Object")] 113

def k0c0 : Code := { maxStack := 0, maxLocals := 1, code := object_method_1_code, exceptionTable := #[], attributes := #[] }
def k0m0 : Method := { name := "<init>", desc := "()V", sig := { parameters := [], returnType := none }, accessFlags := 1, code := some k0c0 }
/-- java/lang/Object -/
def k0 : Class := { plain "java/lang/Object" none with
  accessFlags := 33
  interfaces := #[]
  cf := some (fileOf pool0 8 #[] #[{ accessFlags := 1, nameIndex := 5, descriptorIndex := 6, attributes := #[] }] 33 0 #[] #[])
  fields := #[]
  methods := #[k0m0]
  instanceTypes := #[]
  staticTypes := #[]
  resolved := Array.replicate 124 none
  statics := none }

def pool1 : Array CpInfo := pool [(2, .class_ 4), (1, u "java/lang/Object"), (0, u "<init>"), (0, u "()V"), (0, .integer 2147483647), (0, .methodref 9 10), (0, .class_ 11), (0, .nameAndType 12 13), (0, u "com/example/capsa/capsa/benchmark/InputClasses"), (0, u "simpleName"), (0, u "(II)Ljava/lang/String;"), (0, .methodref 15 16), (0, .class_ 17), (0, .nameAndType 18 19), (0, u "java/lang/String"), (0, u "length"), (0, u "()I"), (0, .methodref 15 21), (0, .nameAndType 22 23), (0, u "charAt"), (0, u "(I)C"), (0, .methodref 25 26), (0, .class_ 27), (0, .nameAndType 28 23), (0, u "com/example/capsa/capsa/benchmark/InputClassesSimpleNamePinLaw"), (0, u "digit"), (2, u "law"), (0, u "(II)Z")] 3

def k1m0 : Method := { name := "<init>", desc := "()V", sig := { parameters := [], returnType := none }, accessFlags := 2, code := none }
def k1c1 : Code := { maxStack := 2, maxLocals := 1, code := method_2_code, exceptionTable := #[], attributes := #[] }
def k1m1 : Method := { name := "digit", desc := "(I)C", sig := { parameters := [.int], returnType := some .char }, accessFlags := 10, code := some k1c1 }
def k1c2 : Code := { maxStack := 3, maxLocals := 5, code := code, exceptionTable := #[], attributes := #[] }
def k1m2 : Method := { name := "law", desc := "(II)Z", sig := { parameters := [.int, .int], returnType := some .boolean }, accessFlags := 9, code := some k1c2 }
/-- com/example/capsa/capsa/benchmark/InputClassesSimpleNamePinLaw -/
def k1 : Class := { plain "com/example/capsa/capsa/benchmark/InputClassesSimpleNamePinLaw" (some 0) with
  accessFlags := 49
  interfaces := #[]
  cf := some (fileOf pool1 25 #[] #[{ accessFlags := 2, nameIndex := 5, descriptorIndex := 6, attributes := #[] }, { accessFlags := 10, nameIndex := 28, descriptorIndex := 23, attributes := #[] }, { accessFlags := 9, nameIndex := 31, descriptorIndex := 32, attributes := #[] }] 49 2 #[] #[])
  fields := #[]
  methods := #[k1m0, k1m1, k1m2]
  instanceTypes := #[]
  staticTypes := #[]
  resolved := Array.replicate 36 none
  statics := none }

def pool2 : Array CpInfo := pool [(2, .class_ 4), (0, .nameAndType 5 6), (0, u "java/lang/Object"), (0, u "<init>"), (0, u "()V"), (3, .class_ 11), (0, u "com/example/capsa/capsa/benchmark/InputClasses"), (0, .class_ 13), (0, u "java/lang/StringBuilder"), (0, .methodref 12 3), (2, .methodref 12 18), (0, .nameAndType 19 20), (0, u "append"), (0, u "(Ljava/lang/String;)Ljava/lang/StringBuilder;"), (2, u "simpleName"), (0, u "(II)Ljava/lang/String;"), (0, .methodref 12 26), (0, .nameAndType 27 28), (0, u "toString"), (0, u "()Ljava/lang/String;"), (24, .class_ 54), (0, u "java/lang/String"), (6, .string 62), (0, u "C"), (0, .methodref 10 64), (0, .nameAndType 65 24), (0, u "digits"), (0, .string 67), (0, u "x"), (12, .methodref 81 82), (0, .class_ 83), (0, .nameAndType 27 84), (0, u "java/lang/Integer"), (0, u "(I)Ljava/lang/String;"), (0, .string 86), (0, u "0"), (0, .methodref 53 88), (0, .nameAndType 89 90), (0, u "length"), (0, u "()I"), (0, .methodref 53 92), (0, .nameAndType 93 84), (0, u "repeat"), (0, u "PACKAGE"), (0, u "Ljava/lang/String;"), (1, u "LAYERS"), (0, u "I"), (1, u "WIDTH")] 15

def k2m0 : Method := { name := "<init>", desc := "()V", sig := { parameters := [], returnType := none }, accessFlags := 2, code := none }
def k2c1 : Code := { maxStack := 3, maxLocals := 2, code := prog_39_method_4_code, exceptionTable := #[], attributes := #[] }
def k2m1 : Method := { name := "simpleName", desc := "(II)Ljava/lang/String;", sig := { parameters := [.int, .int], returnType := some (.object "java/lang/String") }, accessFlags := 8, code := some k2c1 }
def k2c2 : Code := { maxStack := 4, maxLocals := 3, code := prog_39_method_6_code, exceptionTable := #[], attributes := #[] }
def k2m2 : Method := { name := "digits", desc := "(II)Ljava/lang/String;", sig := { parameters := [.int, .int], returnType := some (.object "java/lang/String") }, accessFlags := 10, code := some k2c2 }
/-- com/example/capsa/capsa/benchmark/InputClasses -/
def k2 : Class := { plain "com/example/capsa/capsa/benchmark/InputClasses" (some 0) with
  accessFlags := 48
  interfaces := #[]
  cf := some (fileOf pool2 10 #[] #[{ accessFlags := 2, nameIndex := 5, descriptorIndex := 6, attributes := #[] }, { accessFlags := 8, nameIndex := 23, descriptorIndex := 24, attributes := #[] }, { accessFlags := 10, nameIndex := 65, descriptorIndex := 24, attributes := #[] }] 48 2 #[] #[{ accessFlags := 24, nameIndex := 94, descriptorIndex := 95, attributes := #[] }, { accessFlags := 24, nameIndex := 97, descriptorIndex := 98, attributes := #[] }, { accessFlags := 24, nameIndex := 100, descriptorIndex := 98, attributes := #[] }])
  fields := #[{ name := "PACKAGE", type := (.object "java/lang/String"), accessFlags := 24, slot := 0, constantValue := 0 }, { name := "LAYERS", type := .int, accessFlags := 24, slot := 1, constantValue := 0 }, { name := "WIDTH", type := .int, accessFlags := 24, slot := 2, constantValue := 0 }]
  methods := #[k2m0, k2m1, k2m2]
  instanceTypes := #[]
  staticTypes := #[(.object "java/lang/String"), .int, .int]
  resolved := Array.replicate 116 none
  statics := none }

def pool3 : Array CpInfo := pool [(1, .class_ 2), (0, u "java/lang/Appendable"), (0, .class_ 4), (0, u "java/lang/Object")] 9

/-- java/lang/Appendable -/
def k3 : Class := { plain "java/lang/Appendable" (some 0) with
  accessFlags := 1537
  interfaces := #[]
  cf := some (fileOf pool3 1 #[] #[] 1537 3 #[] #[])
  fields := #[]
  methods := #[]
  instanceTypes := #[]
  staticTypes := #[]
  resolved := Array.replicate 14 none
  statics := none }

def pool4 : Array CpInfo := pool [(2, .class_ 4), (1, u "java/lang/CharSequence"), (42, .class_ 48), (0, u "java/lang/CharSequence$1CodePointIterator"), (10, .class_ 60), (0, u "java/lang/CharSequence$1CharIterator"), (5, .class_ 67), (0, u "java/lang/Object")] 63

/-- java/lang/CharSequence -/
def k4 : Class := { plain "java/lang/CharSequence" (some 0) with
  accessFlags := 1537
  interfaces := #[]
  cf := some (fileOf pool4 2 #[.nestMembers #[47, 59]] #[] 1537 66 #[] #[])
  fields := #[]
  methods := #[]
  instanceTypes := #[]
  staticTypes := #[]
  resolved := Array.replicate 131 none
  statics := none }

def pool5 : Array CpInfo := pool [(1, .class_ 2), (0, u "java/lang/String"), (0, .methodref 4 5), (0, .class_ 6), (0, .nameAndType 7 8), (0, u "java/lang/Object"), (0, u "<init>"), (0, u "()V"), (1, .class_ 12), (1, u "java/lang/AbstractStringBuilder"), (0, u "EMPTYVALUE"), (0, u "[B"), (0, .fieldref 10 16), (0, .nameAndType 17 14), (0, u "value"), (0, .fieldref 1 19), (0, .nameAndType 20 21), (0, u "COMPACT_STRINGS"), (0, u "Z"), (0, .fieldref 10 23), (0, .nameAndType 24 25), (0, u "coder"), (0, u "B"), (6, .methodref 1 33), (0, .nameAndType 34 35), (0, u "length"), (0, u "()I"), (4, .methodref 1 41), (0, .nameAndType 24 42), (0, u "()B"), (2, u "append"), (0, u "(Ljava/lang/String;)Ljava/lang/AbstractStringBuilder;"), (1, .class_ 49), (0, u "java/lang/CharSequence"), (19, u "(Ljava/lang/String;)V"), (5, u "maybeLatin1"), (3, .fieldref 10 80), (0, .nameAndType 81 82), (0, u "count"), (0, u "I"), (2, u "isLatin1"), (0, u "()Z"), (13, .methodref 10 101), (0, .nameAndType 102 103), (0, u "ensureCapacityInternal"), (0, u "(I)V"), (104, .methodref 10 209), (0, .nameAndType 210 211), (0, u "putStringAt"), (0, u "(ILjava/lang/String;)V"), (5, u "inflateIfNeededFor"), (2, .nameAndType 221 222), (0, u "getBytes"), (0, u "([BIB)V"), (174, .methodref 10 398), (0, .nameAndType 217 69), (0, .methodref 1 220), (3, u "()[B"), (40, .class_ 445), (0, u "java/lang/Appendable"), (106, u "getValue")] 56

def k5m0 : Method := { name := "<init>", desc := "()V", sig := { parameters := [], returnType := none }, accessFlags := 0, code := none }
def k5c1 : Code := { maxStack := 2, maxLocals := 2, code := jdk_68_method_2_code, exceptionTable := #[], attributes := #[] }
def k5m1 : Method := { name := "<init>", desc := "(I)V", sig := { parameters := [.int], returnType := none }, accessFlags := 0, code := some k5c1 }
def k5c2 : Code := { maxStack := 1, maxLocals := 1, code := jdk_68_method_6_code, exceptionTable := #[], attributes := #[] }
def k5m2 : Method := { name := "length", desc := "()I", sig := { parameters := [], returnType := some .int }, accessFlags := 1, code := some k5c2 }
def k5c3 : Code := { maxStack := 4, maxLocals := 3, code := jdk_68_method_9_code, exceptionTable := #[], attributes := #[] }
def k5m3 : Method := { name := "ensureCapacityInternal", desc := "(I)V", sig := { parameters := [.int], returnType := none }, accessFlags := 2, code := some k5c3 }
def k5c4 : Code := { maxStack := 3, maxLocals := 3, code := jdk_68_method_22_code, exceptionTable := #[], attributes := #[] }
def k5m4 : Method := { name := "append", desc := "(Ljava/lang/String;)Ljava/lang/AbstractStringBuilder;", sig := { parameters := [(.object "java/lang/String")], returnType := some (.object "java/lang/AbstractStringBuilder") }, accessFlags := 1, code := some k5c4 }
def k5c5 : Code := { maxStack := 1, maxLocals := 1, code := jdk_68_method_64_code, exceptionTable := #[], attributes := #[] }
def k5m5 : Method := { name := "getValue", desc := "()[B", sig := { parameters := [], returnType := some (.array .byte) }, accessFlags := 16, code := some k5c5 }
def k5c6 : Code := { maxStack := 1, maxLocals := 1, code := jdk_68_method_68_code, exceptionTable := #[], attributes := #[] }
def k5m6 : Method := { name := "isLatin1", desc := "()Z", sig := { parameters := [], returnType := some .boolean }, accessFlags := 16, code := some k5c6 }
def k5c7 : Code := { maxStack := 2, maxLocals := 2, code := jdk_68_method_71_code, exceptionTable := #[], attributes := #[] }
def k5m7 : Method := { name := "inflateIfNeededFor", desc := "(Ljava/lang/String;)V", sig := { parameters := [(.object "java/lang/String")], returnType := none }, accessFlags := 2, code := some k5c7 }
def k5c8 : Code := { maxStack := 4, maxLocals := 3, code := jdk_68_method_73_code, exceptionTable := #[], attributes := #[] }
def k5m8 : Method := { name := "putStringAt", desc := "(ILjava/lang/String;)V", sig := { parameters := [.int, (.object "java/lang/String")], returnType := none }, accessFlags := 2, code := some k5c8 }
/-- java/lang/AbstractStringBuilder -/
def k5 : Class := { plain "java/lang/AbstractStringBuilder" (some 0) with
  accessFlags := 1056
  interfaces := #[3, 4]
  cf := some (fileOf pool5 10 #[] #[{ accessFlags := 0, nameIndex := 7, descriptorIndex := 8, attributes := #[] }, { accessFlags := 0, nameIndex := 7, descriptorIndex := 103, attributes := #[] }, { accessFlags := 1, nameIndex := 34, descriptorIndex := 35, attributes := #[] }, { accessFlags := 2, nameIndex := 102, descriptorIndex := 103, attributes := #[] }, { accessFlags := 1, nameIndex := 45, descriptorIndex := 46, attributes := #[] }, { accessFlags := 16, nameIndex := 552, descriptorIndex := 403, attributes := #[] }, { accessFlags := 16, nameIndex := 85, descriptorIndex := 86, attributes := #[] }, { accessFlags := 2, nameIndex := 217, descriptorIndex := 69, attributes := #[] }, { accessFlags := 2, nameIndex := 210, descriptorIndex := 211, attributes := #[] }] 1056 4 #[444, 48] #[{ accessFlags := 0, nameIndex := 17, descriptorIndex := 14, attributes := #[] }, { accessFlags := 0, nameIndex := 24, descriptorIndex := 25, attributes := #[] }, { accessFlags := 0, nameIndex := 75, descriptorIndex := 21, attributes := #[] }, { accessFlags := 0, nameIndex := 81, descriptorIndex := 82, attributes := #[] }, { accessFlags := 26, nameIndex := 13, descriptorIndex := 14, attributes := #[] }])
  fields := #[{ name := "value", type := (.array .byte), accessFlags := 0, slot := 0, constantValue := 0 }, { name := "coder", type := .byte, accessFlags := 0, slot := 1, constantValue := 0 }, { name := "maybeLatin1", type := .boolean, accessFlags := 0, slot := 2, constantValue := 0 }, { name := "count", type := .int, accessFlags := 0, slot := 3, constantValue := 0 }, { name := "EMPTYVALUE", type := (.array .byte), accessFlags := 26, slot := 0, constantValue := 0 }]
  methods := #[k5m0, k5m1, k5m2, k5m3, k5m4, k5m5, k5m6, k5m7, k5m8]
  instanceTypes := #[(.array .byte), .byte, .boolean, .int]
  staticTypes := #[(.array .byte)]
  resolved := Array.replicate 609 none
  statics := none }

def pool6 : Array CpInfo := pool [(1, .class_ 2), (0, u "java/io/Serializable"), (0, .class_ 4), (0, u "java/lang/Object")] 2

/-- java/io/Serializable -/
def k6 : Class := { plain "java/io/Serializable" (some 0) with
  accessFlags := 1537
  interfaces := #[]
  cf := some (fileOf pool6 1 #[] #[] 1537 3 #[] #[])
  fields := #[]
  methods := #[]
  instanceTypes := #[]
  staticTypes := #[]
  resolved := Array.replicate 7 none
  statics := none }

def pool7 : Array CpInfo := pool [(1, .class_ 2), (0, u "java/lang/Comparable"), (0, .class_ 4), (0, u "java/lang/Object")] 7

/-- java/lang/Comparable -/
def k7 : Class := { plain "java/lang/Comparable" (some 0) with
  accessFlags := 1537
  interfaces := #[]
  cf := some (fileOf pool7 1 #[] #[] 1537 3 #[] #[])
  fields := #[]
  methods := #[]
  instanceTypes := #[]
  staticTypes := #[]
  resolved := Array.replicate 12 none
  statics := none }

def pool8 : Array CpInfo := pool [(1, .methodref 2 3), (0, .class_ 4), (0, .nameAndType 5 6), (0, u "java/lang/AbstractStringBuilder"), (0, u "<init>"), (0, u "(I)V"), (11, .class_ 20), (1, u "java/lang/String"), (3, .class_ 26), (1, u "java/lang/StringBuilder"), (0, u "append"), (0, u "(Ljava/lang/String;)Ljava/lang/StringBuilder;"), (0, .methodref 2 30), (0, .nameAndType 27 31), (0, u "(Ljava/lang/String;)Ljava/lang/AbstractStringBuilder;"), (105, .methodref 18 138), (0, .nameAndType 5 139), (0, u "(Ljava/lang/StringBuilder;)V"), (5, u "()V"), (10, u "()I"), (186, .methodref 2 344), (0, .nameAndType 345 156), (0, u "length"), (3, .class_ 350), (0, u "java/lang/Appendable"), (0, .class_ 352), (0, u "java/io/Serializable"), (0, .class_ 354), (0, u "java/lang/Comparable"), (0, .class_ 356), (0, u "java/lang/CharSequence"), (0, u "serialVersionUID"), (0, u "J"), (40, u "toString"), (0, u "()Ljava/lang/String;")] 21

def k8c0 : Code := { maxStack := 2, maxLocals := 1, code := jdk_67_method_1_code, exceptionTable := #[], attributes := #[] }
def k8m0 : Method := { name := "<init>", desc := "()V", sig := { parameters := [], returnType := none }, accessFlags := 1, code := some k8c0 }
def k8c1 : Code := { maxStack := 2, maxLocals := 2, code := jdk_67_method_7_code, exceptionTable := #[], attributes := #[] }
def k8m1 : Method := { name := "append", desc := "(Ljava/lang/String;)Ljava/lang/StringBuilder;", sig := { parameters := [(.object "java/lang/String")], returnType := some (.object "java/lang/StringBuilder") }, accessFlags := 1, code := some k8c1 }
def k8c2 : Code := { maxStack := 3, maxLocals := 1, code := jdk_67_method_42_code, exceptionTable := #[], attributes := #[] }
def k8m2 : Method := { name := "toString", desc := "()Ljava/lang/String;", sig := { parameters := [], returnType := some (.object "java/lang/String") }, accessFlags := 1, code := some k8c2 }
def k8c3 : Code := { maxStack := 1, maxLocals := 1, code := jdk_67_method_93_code, exceptionTable := #[], attributes := #[] }
def k8m3 : Method := { name := "length", desc := "()I", sig := { parameters := [], returnType := some .int }, accessFlags := 4161, code := some k8c3 }
/-- java/lang/StringBuilder -/
def k8 : Class := { plain "java/lang/StringBuilder" (some 5) with
  accessFlags := 49
  interfaces := #[3, 6, 7, 4]
  cf := some (fileOf pool8 24 #[] #[{ accessFlags := 1, nameIndex := 5, descriptorIndex := 145, attributes := #[] }, { accessFlags := 1, nameIndex := 27, descriptorIndex := 28, attributes := #[] }, { accessFlags := 1, nameIndex := 399, descriptorIndex := 400, attributes := #[] }, { accessFlags := 4161, nameIndex := 345, descriptorIndex := 156, attributes := #[] }] 49 2 #[349, 351, 353, 355] #[{ accessFlags := 24, nameIndex := 357, descriptorIndex := 358, attributes := #[] }])
  fields := #[{ name := "serialVersionUID", type := .long, accessFlags := 24, slot := 0, constantValue := 0 }]
  methods := #[k8m0, k8m1, k8m2, k8m3]
  instanceTypes := #[(.array .byte), .byte, .boolean, .int]
  staticTypes := #[.long]
  resolved := Array.replicate 422 none
  statics := none }

def pool9 : Array CpInfo := pool [(1, .class_ 2), (0, u "java/lang/constant/Constable"), (0, .class_ 4), (0, u "java/lang/Object")] 6

/-- java/lang/constant/Constable -/
def k9 : Class := { plain "java/lang/constant/Constable" (some 0) with
  accessFlags := 1537
  interfaces := #[]
  cf := some (fileOf pool9 1 #[] #[] 1537 3 #[] #[])
  fields := #[]
  methods := #[]
  instanceTypes := #[]
  staticTypes := #[]
  resolved := Array.replicate 11 none
  statics := none }

def pool10 : Array CpInfo := pool [(1, .class_ 2), (0, u "java/lang/constant/ConstantDesc"), (0, .class_ 4), (0, u "java/lang/Object")] 32

/-- java/lang/constant/ConstantDesc -/
def k10 : Class := { plain "java/lang/constant/ConstantDesc" (some 0) with
  accessFlags := 1537
  interfaces := #[]
  cf := some (fileOf pool10 1 #[] #[] 1537 3 #[] #[])
  fields := #[]
  methods := #[]
  instanceTypes := #[]
  staticTypes := #[]
  resolved := Array.replicate 37 none
  statics := none }

def pool11 : Array CpInfo := pool [(1, .methodref 2 3), (0, .class_ 4), (0, .nameAndType 5 6), (0, u "java/lang/Object"), (0, u "<init>"), (0, u "()V"), (0, .string 8), (0, u ""), (0, .fieldref 10 11), (0, .class_ 12), (0, .nameAndType 13 14), (0, u "java/lang/String"), (0, u "value"), (0, u "[B"), (0, .fieldref 10 16), (0, .nameAndType 17 18), (0, u "coder"), (0, u "B"), (2, u "hash"), (0, u "I"), (2, u "hashIsZero"), (0, u "Z"), (11, .fieldref 10 39), (0, .nameAndType 40 26), (0, u "COMPACT_STRINGS"), (13, .methodref 55 56), (0, .class_ 57), (0, .nameAndType 58 59), (0, u "java/util/Arrays"), (0, u "copyOfRange"), (0, u "([BII)[B"), (47, .class_ 109), (1, u "java/lang/StringLatin1"), (32, u "()Z"), (50, .class_ 195), (1, u "java/lang/System"), (13, .methodref 10 210), (0, .nameAndType 5 211), (0, u "([BB)V"), (0, .methodref 193 213), (0, .nameAndType 214 215), (0, u "arraycopy"), (0, u "(Ljava/lang/Object;ILjava/lang/Object;II)V"), (118, u "()I"), (0, .methodref 10 336), (0, .nameAndType 17 337), (0, u "()B"), (2, u "()[B"), (22, u "([BI)C"), (27, u "(II)V"), (35, u "(I)C"), (61, .methodref 10 490), (0, .nameAndType 5 491), (0, u "(Ljava/lang/AbstractStringBuilder;Ljava/lang/Void;)V"), (0, .methodref 10 493), (0, .nameAndType 494 142), (0, u "isLatin1"), (0, .methodref 107 496), (0, .nameAndType 497 363), (0, u "charAt"), (3, u "checkIndex"), (4, .nameAndType 507 334), (0, u "length"), (24, u "getBytes"), (16, .methodref 550 506), (0, .class_ 551), (0, u "java/lang/AbstractStringBuilder"), (0, .methodref 550 553), (0, .nameAndType 554 340), (0, u "getValue"), (20, .class_ 576), (0, u "java/lang/CharSequence"), (22, u "CASE_INSENSITIVE_ORDER"), (0, u "Ljava/util/Comparator;"), (220, u "([BIB)V"), (69, u "repeat"), (0, u "(I)Ljava/lang/String;"), (50, .integer 2147483647), (97, .methodref 55 1042), (0, .nameAndType 1043 211), (0, u "fill"), (3, .methodref 550 493), (5, .fieldref 1054 1055), (0, .class_ 1056), (0, .nameAndType 1057 1058), (0, u "jdk/internal/util/Preconditions"), (0, u "SIOOBE_FORMATTER"), (0, u "Ljava/util/function/BiFunction;"), (0, .methodref 1054 1060), (0, .nameAndType 501 1061), (0, u "(IILjava/util/function/BiFunction;)I"), (39, u "serialPersistentFields"), (0, u "[Ljava/io/ObjectStreamField;"), (0, .class_ 1104), (0, u "java/lang/String$CaseInsensitiveComparator"), (1, .class_ 1107), (0, u "java/io/Serializable"), (0, .class_ 1109), (0, u "java/lang/Comparable"), (0, .class_ 1111), (0, u "java/lang/constant/Constable"), (0, .class_ 1113), (0, u "java/lang/constant/ConstantDesc"), (2, u "serialVersionUID"), (0, u "J"), (3, u "REPL"), (0, u "C"), (2, u "LATIN1"), (1, u "UTF16"), (105, u "(Ljava/lang/StringBuilder;)V")] 217

def k11m0 : Method := { name := "<init>", desc := "()V", sig := { parameters := [], returnType := none }, accessFlags := 1, code := none }
def k11c1 : Code := { maxStack := 3, maxLocals := 2, code := jdk_42_method_53_code, exceptionTable := #[], attributes := #[] }
def k11m1 : Method := { name := "<init>", desc := "(Ljava/lang/StringBuilder;)V", sig := { parameters := [(.object "java/lang/StringBuilder")], returnType := none }, accessFlags := 1, code := some k11c1 }
def k11c2 : Code := { maxStack := 2, maxLocals := 1, code := jdk_42_method_54_code, exceptionTable := #[], attributes := #[] }
def k11m2 : Method := { name := "length", desc := "()I", sig := { parameters := [], returnType := some .int }, accessFlags := 1, code := some k11c2 }
def k11c3 : Code := { maxStack := 2, maxLocals := 2, code := jdk_42_method_56_code, exceptionTable := #[], attributes := #[] }
def k11m3 : Method := { name := "charAt", desc := "(I)C", sig := { parameters := [.int], returnType := some .char }, accessFlags := 1, code := some k11c3 }
def k11c4 : Code := { maxStack := 5, maxLocals := 5, code := jdk_42_method_145_code, exceptionTable := #[], attributes := #[] }
def k11m4 : Method := { name := "repeat", desc := "(I)Ljava/lang/String;", sig := { parameters := [.int], returnType := some (.object "java/lang/String") }, accessFlags := 1, code := some k11c4 }
def k11c5 : Code := { maxStack := 5, maxLocals := 4, code := jdk_42_method_147_code, exceptionTable := #[], attributes := #[] }
def k11m5 : Method := { name := "getBytes", desc := "([BIB)V", sig := { parameters := [(.array .byte), .int, .byte], returnType := none }, accessFlags := 0, code := some k11c5 }
def k11c6 : Code := { maxStack := 5, maxLocals := 5, code := jdk_42_method_150_code, exceptionTable := #[], attributes := #[] }
def k11m6 : Method := { name := "<init>", desc := "(Ljava/lang/AbstractStringBuilder;Ljava/lang/Void;)V", sig := { parameters := [(.object "java/lang/AbstractStringBuilder"), (.object "java/lang/Void")], returnType := none }, accessFlags := 0, code := some k11c6 }
def k11c7 : Code := { maxStack := 2, maxLocals := 3, code := jdk_42_method_151_code, exceptionTable := #[], attributes := #[] }
def k11m7 : Method := { name := "<init>", desc := "([BB)V", sig := { parameters := [(.array .byte), .byte], returnType := none }, accessFlags := 0, code := some k11c7 }
def k11c8 : Code := { maxStack := 1, maxLocals := 1, code := jdk_42_method_152_code, exceptionTable := #[], attributes := #[] }
def k11m8 : Method := { name := "coder", desc := "()B", sig := { parameters := [], returnType := some .byte }, accessFlags := 0, code := some k11c8 }
def k11c9 : Code := { maxStack := 1, maxLocals := 1, code := jdk_42_method_154_code, exceptionTable := #[], attributes := #[] }
def k11m9 : Method := { name := "isLatin1", desc := "()Z", sig := { parameters := [], returnType := some .boolean }, accessFlags := 0, code := some k11c9 }
def k11c10 : Code := { maxStack := 3, maxLocals := 2, code := jdk_42_method_155_code, exceptionTable := #[], attributes := #[] }
def k11m10 : Method := { name := "checkIndex", desc := "(II)V", sig := { parameters := [.int, .int], returnType := none }, accessFlags := 8, code := some k11c10 }
/-- java/lang/String -/
def k11 : Class := { plain "java/lang/String" (some 0) with
  accessFlags := 49
  interfaces := #[6, 7, 4, 9, 10]
  cf := some (fileOf pool11 10 #[.nestMembers #[1103]] #[{ accessFlags := 1, nameIndex := 5, descriptorIndex := 6, attributes := #[] }, { accessFlags := 1, nameIndex := 5, descriptorIndex := 1233, attributes := #[] }, { accessFlags := 1, nameIndex := 507, descriptorIndex := 334, attributes := #[] }, { accessFlags := 1, nameIndex := 497, descriptorIndex := 427, attributes := #[] }, { accessFlags := 1, nameIndex := 891, descriptorIndex := 892, attributes := #[] }, { accessFlags := 0, nameIndex := 532, descriptorIndex := 821, attributes := #[] }, { accessFlags := 0, nameIndex := 5, descriptorIndex := 491, attributes := #[] }, { accessFlags := 0, nameIndex := 5, descriptorIndex := 211, attributes := #[] }, { accessFlags := 0, nameIndex := 17, descriptorIndex := 337, attributes := #[] }, { accessFlags := 0, nameIndex := 494, descriptorIndex := 142, attributes := #[] }, { accessFlags := 8, nameIndex := 501, descriptorIndex := 391, attributes := #[] }] 49 2 #[1106, 1108, 575, 1110, 1112] #[{ accessFlags := 18, nameIndex := 13, descriptorIndex := 14, attributes := #[] }, { accessFlags := 18, nameIndex := 17, descriptorIndex := 18, attributes := #[] }, { accessFlags := 2, nameIndex := 21, descriptorIndex := 22, attributes := #[] }, { accessFlags := 2, nameIndex := 25, descriptorIndex := 26, attributes := #[] }, { accessFlags := 26, nameIndex := 1116, descriptorIndex := 1117, attributes := #[] }, { accessFlags := 24, nameIndex := 40, descriptorIndex := 26, attributes := #[] }, { accessFlags := 26, nameIndex := 1101, descriptorIndex := 1102, attributes := #[] }, { accessFlags := 26, nameIndex := 1121, descriptorIndex := 1122, attributes := #[] }, { accessFlags := 25, nameIndex := 599, descriptorIndex := 600, attributes := #[] }, { accessFlags := 24, nameIndex := 1125, descriptorIndex := 18, attributes := #[] }, { accessFlags := 24, nameIndex := 1127, descriptorIndex := 18, attributes := #[] }])
  fields := #[{ name := "value", type := (.array .byte), accessFlags := 18, slot := 0, constantValue := 0 }, { name := "coder", type := .byte, accessFlags := 18, slot := 1, constantValue := 0 }, { name := "hash", type := .int, accessFlags := 2, slot := 2, constantValue := 0 }, { name := "hashIsZero", type := .boolean, accessFlags := 2, slot := 3, constantValue := 0 }, { name := "serialVersionUID", type := .long, accessFlags := 26, slot := 0, constantValue := 0 }, { name := "COMPACT_STRINGS", type := .boolean, accessFlags := 24, slot := 1, constantValue := 0 }, { name := "serialPersistentFields", type := (.array (.object "java/io/ObjectStreamField")), accessFlags := 26, slot := 2, constantValue := 0 }, { name := "REPL", type := .char, accessFlags := 26, slot := 3, constantValue := 0 }, { name := "CASE_INSENSITIVE_ORDER", type := (.object "java/util/Comparator"), accessFlags := 25, slot := 4, constantValue := 0 }, { name := "LATIN1", type := .byte, accessFlags := 24, slot := 5, constantValue := 0 }, { name := "UTF16", type := .byte, accessFlags := 24, slot := 6, constantValue := 0 }]
  methods := #[k11m0, k11m1, k11m2, k11m3, k11m4, k11m5, k11m6, k11m7, k11m8, k11m9, k11m10]
  instanceTypes := #[(.array .byte), .byte, .int, .boolean]
  staticTypes := #[.long, .boolean, (.array (.object "java/io/ObjectStreamField")), .char, (.object "java/util/Comparator"), .byte, .byte]
  resolved := Array.replicate 1451 none
  statics := some 0 }

def pool12 : Array CpInfo := pool [(2, .class_ 4), (1, u "java/lang/Object"), (0, u "<init>"), (0, u "()V"), (1, .class_ 10), (1, u "java/lang/System"), (0, u "allowSecurityManager"), (0, u "I"), (16, u "cons"), (0, u "Ljava/io/Console;"), (77, .class_ 110), (1, u "java/lang/System$CallersHolder"), (43, u "initialErrStream"), (0, u "Ljava/io/PrintStream;"), (19, u "security"), (0, u "Ljava/lang/SecurityManager;"), (31, .class_ 209), (0, u "java/lang/System$1"), (7, u "props"), (0, u "Ljava/util/Properties;"), (2, u "lineSeparator"), (0, u "Ljava/lang/String;"), (96, .class_ 321), (1, u "java/lang/System$LoggerFinder"), (5, .class_ 328), (0, u "java/lang/System$Logger"), (67, u "err"), (2, u "out"), (91, u "notSupportedJnuEncoding"), (15, u "in"), (17, u "initialIn"), (0, u "Ljava/io/InputStream;"), (35, u "bootLayer"), (0, u "Ljava/lang/ModuleLayer;"), (99, .class_ 664), (0, u "java/lang/System$2"), (9, u "NEVER"), (2, u "MAYBE"), (49, u "arraycopy"), (0, u "(Ljava/lang/Object;ILjava/lang/Object;II)V"), (72, .class_ 802), (0, u "java/lang/System$Logger$Level")] 31

def k12m0 : Method := { name := "<init>", desc := "()V", sig := { parameters := [], returnType := none }, accessFlags := 2, code := none }
def k12m1 : Method := { name := "arraycopy", desc := "(Ljava/lang/Object;ILjava/lang/Object;II)V", sig := { parameters := [(.object "java/lang/Object"), .int, (.object "java/lang/Object"), .int, .int], returnType := none }, accessFlags := 265, code := none }
/-- java/lang/System -/
def k12 : Class := { plain "java/lang/System" (some 0) with
  accessFlags := 49
  interfaces := #[]
  cf := some (fileOf pool12 8 #[.nestMembers #[319, 327, 801, 108, 663, 208]] #[{ accessFlags := 2, nameIndex := 5, descriptorIndex := 6, attributes := #[] }, { accessFlags := 265, nameIndex := 727, descriptorIndex := 728, attributes := #[] }] 49 2 #[] #[{ accessFlags := 25, nameIndex := 507, descriptorIndex := 526, attributes := #[] }, { accessFlags := 25, nameIndex := 399, descriptorIndex := 155, attributes := #[] }, { accessFlags := 25, nameIndex := 396, descriptorIndex := 155, attributes := #[] }, { accessFlags := 10, nameIndex := 525, descriptorIndex := 526, attributes := #[] }, { accessFlags := 26, nameIndex := 674, descriptorIndex := 12, attributes := #[] }, { accessFlags := 26, nameIndex := 677, descriptorIndex := 12, attributes := #[] }, { accessFlags := 10, nameIndex := 11, descriptorIndex := 12, attributes := #[] }, { accessFlags := 74, nameIndex := 175, descriptorIndex := 176, attributes := #[] }, { accessFlags := 10, nameIndex := 491, descriptorIndex := 222, attributes := #[] }, { accessFlags := 74, nameIndex := 29, descriptorIndex := 30, attributes := #[] }, { accessFlags := 74, nameIndex := 154, descriptorIndex := 155, attributes := #[] }, { accessFlags := 10, nameIndex := 217, descriptorIndex := 218, attributes := #[] }, { accessFlags := 10, nameIndex := 221, descriptorIndex := 222, attributes := #[] }, { accessFlags := 8, nameIndex := 562, descriptorIndex := 563, attributes := #[] }])
  fields := #[{ name := "in", type := (.object "java/io/InputStream"), accessFlags := 25, slot := 0, constantValue := 0 }, { name := "out", type := (.object "java/io/PrintStream"), accessFlags := 25, slot := 1, constantValue := 0 }, { name := "err", type := (.object "java/io/PrintStream"), accessFlags := 25, slot := 2, constantValue := 0 }, { name := "initialIn", type := (.object "java/io/InputStream"), accessFlags := 10, slot := 3, constantValue := 0 }, { name := "NEVER", type := .int, accessFlags := 26, slot := 4, constantValue := 0 }, { name := "MAYBE", type := .int, accessFlags := 26, slot := 5, constantValue := 0 }, { name := "allowSecurityManager", type := .int, accessFlags := 10, slot := 6, constantValue := 0 }, { name := "security", type := (.object "java/lang/SecurityManager"), accessFlags := 74, slot := 7, constantValue := 0 }, { name := "notSupportedJnuEncoding", type := (.object "java/lang/String"), accessFlags := 10, slot := 8, constantValue := 0 }, { name := "cons", type := (.object "java/io/Console"), accessFlags := 74, slot := 9, constantValue := 0 }, { name := "initialErrStream", type := (.object "java/io/PrintStream"), accessFlags := 74, slot := 10, constantValue := 0 }, { name := "props", type := (.object "java/util/Properties"), accessFlags := 10, slot := 11, constantValue := 0 }, { name := "lineSeparator", type := (.object "java/lang/String"), accessFlags := 10, slot := 12, constantValue := 0 }, { name := "bootLayer", type := (.object "java/lang/ModuleLayer"), accessFlags := 8, slot := 13, constantValue := 0 }]
  methods := #[k12m0, k12m1]
  instanceTypes := #[]
  staticTypes := #[(.object "java/io/InputStream"), (.object "java/io/PrintStream"), (.object "java/io/PrintStream"), (.object "java/io/InputStream"), .int, .int, .int, (.object "java/lang/SecurityManager"), (.object "java/lang/String"), (.object "java/io/Console"), (.object "java/io/PrintStream"), (.object "java/util/Properties"), (.object "java/lang/String"), (.object "java/lang/ModuleLayer")]
  resolved := Array.replicate 834 none
  statics := none }

def pool13 : Array CpInfo := pool [(2, .class_ 4), (1, u "java/lang/Object"), (0, u "<init>"), (0, u "()V"), (1, .class_ 10), (1, u "java/lang/Number"), (2, .class_ 14), (0, u "java/io/Serializable"), (0, u "serialVersionUID"), (0, u "J")] 20

def k13m0 : Method := { name := "<init>", desc := "()V", sig := { parameters := [], returnType := none }, accessFlags := 1, code := none }
/-- java/lang/Number -/
def k13 : Class := { plain "java/lang/Number" (some 0) with
  accessFlags := 1057
  interfaces := #[6]
  cf := some (fileOf pool13 8 #[] #[{ accessFlags := 1, nameIndex := 5, descriptorIndex := 6, attributes := #[] }] 1057 2 #[13] #[{ accessFlags := 26, nameIndex := 15, descriptorIndex := 16, attributes := #[] }])
  fields := #[{ name := "serialVersionUID", type := .long, accessFlags := 26, slot := 0, constantValue := 0 }]
  methods := #[k13m0]
  instanceTypes := #[]
  staticTypes := #[.long]
  resolved := Array.replicate 37 none
  statics := none }

def pool14 : Array CpInfo := pool [(1, .class_ 2), (0, u "java/lang/Integer"), (2, .class_ 6), (0, u "java/lang/String"), (4, u "toString"), (0, u "(I)Ljava/lang/String;"), (0, .fieldref 5 14), (0, .nameAndType 15 16), (0, u "COMPACT_STRINGS"), (0, u "Z"), (2, u "digits"), (0, u "[C"), (33, u "(I)I"), (10, .methodref 5 66), (0, .nameAndType 67 68), (0, u "<init>"), (0, u "([BB)V"), (3, .methodref 1 73), (0, .nameAndType 74 54), (0, u "stringSize"), (0, .methodref 1 76), (0, .nameAndType 77 78), (0, u "getChars"), (0, u "(II[B)I"), (4, .fieldref 1 84), (0, .nameAndType 85 86), (0, u "DigitOnes"), (0, u "[B"), (0, .fieldref 1 88), (0, .nameAndType 89 86), (0, u "DigitTens"), (99, .class_ 190), (0, u "java/lang/Integer$IntegerCache"), (3, u "I"), (8, .class_ 204), (0, u "java/lang/Number"), (2, u "value"), (94, u "TYPE"), (0, u "Ljava/lang/Class;"), (0, .class_ 305), (0, u "java/lang/Comparable"), (0, .class_ 307), (0, u "java/lang/constant/Constable"), (0, .class_ 309), (0, u "java/lang/constant/ConstantDesc"), (0, u "MIN_VALUE"), (1, u "MAX_VALUE"), (3, u "SIZE"), (1, u "BYTES"), (1, u "serialVersionUID"), (0, u "J")] 131

def k14c0 : Code := { maxStack := 4, maxLocals := 3, code := jdk_33_method_10_code, exceptionTable := #[], attributes := #[] }
def k14m0 : Method := { name := "toString", desc := "(I)Ljava/lang/String;", sig := { parameters := [.int], returnType := some (.object "java/lang/String") }, accessFlags := 9, code := some k14c0 }
def k14c1 : Code := { maxStack := 4, maxLocals := 7, code := jdk_33_method_12_code, exceptionTable := #[], attributes := #[] }
def k14m1 : Method := { name := "getChars", desc := "(II[B)I", sig := { parameters := [.int, .int, (.array .byte)], returnType := some .int }, accessFlags := 8, code := some k14c1 }
def k14c2 : Code := { maxStack := 2, maxLocals := 4, code := jdk_33_method_13_code, exceptionTable := #[], attributes := #[] }
def k14m2 : Method := { name := "stringSize", desc := "(I)I", sig := { parameters := [.int], returnType := some .int }, accessFlags := 8, code := some k14c2 }
/-- java/lang/Integer -/
def k14 : Class := { plain "java/lang/Integer" (some 13) with
  accessFlags := 49
  interfaces := #[7, 9, 10]
  cf := some (fileOf pool14 1 #[.nestMembers #[189]] #[{ accessFlags := 9, nameIndex := 11, descriptorIndex := 12, attributes := #[] }, { accessFlags := 8, nameIndex := 77, descriptorIndex := 78, attributes := #[] }, { accessFlags := 8, nameIndex := 74, descriptorIndex := 54, attributes := #[] }] 49 203 #[304, 306, 308] #[{ accessFlags := 25, nameIndex := 310, descriptorIndex := 194, attributes := #[] }, { accessFlags := 25, nameIndex := 312, descriptorIndex := 194, attributes := #[] }, { accessFlags := 25, nameIndex := 302, descriptorIndex := 303, attributes := #[] }, { accessFlags := 24, nameIndex := 19, descriptorIndex := 20, attributes := #[] }, { accessFlags := 24, nameIndex := 89, descriptorIndex := 86, attributes := #[] }, { accessFlags := 24, nameIndex := 85, descriptorIndex := 86, attributes := #[] }, { accessFlags := 18, nameIndex := 207, descriptorIndex := 194, attributes := #[] }, { accessFlags := 25, nameIndex := 316, descriptorIndex := 194, attributes := #[] }, { accessFlags := 25, nameIndex := 318, descriptorIndex := 194, attributes := #[] }, { accessFlags := 26, nameIndex := 320, descriptorIndex := 321, attributes := #[] }])
  fields := #[{ name := "MIN_VALUE", type := .int, accessFlags := 25, slot := 0, constantValue := 0 }, { name := "MAX_VALUE", type := .int, accessFlags := 25, slot := 1, constantValue := 0 }, { name := "TYPE", type := (.object "java/lang/Class"), accessFlags := 25, slot := 2, constantValue := 0 }, { name := "digits", type := (.array .char), accessFlags := 24, slot := 3, constantValue := 0 }, { name := "DigitTens", type := (.array .byte), accessFlags := 24, slot := 4, constantValue := 0 }, { name := "DigitOnes", type := (.array .byte), accessFlags := 24, slot := 5, constantValue := 0 }, { name := "value", type := .int, accessFlags := 18, slot := 0, constantValue := 0 }, { name := "SIZE", type := .int, accessFlags := 25, slot := 6, constantValue := 0 }, { name := "BYTES", type := .int, accessFlags := 25, slot := 7, constantValue := 0 }, { name := "serialVersionUID", type := .long, accessFlags := 26, slot := 8, constantValue := 0 }]
  methods := #[k14m0, k14m1, k14m2]
  instanceTypes := #[.int]
  staticTypes := #[.int, .int, (.object "java/lang/Class"), (.array .char), (.array .byte), (.array .byte), .int, .int, .long]
  resolved := Array.replicate 453 none
  statics := some 1 }

def pool15 : Array CpInfo := pool [(2, .class_ 4), (1, u "java/lang/Object"), (0, u "<init>"), (0, u "()V"), (7, .class_ 16), (1, u "java/util/Arrays"), (57, .class_ 76), (1, u "java/util/Arrays$NaturalOrder"), (36, .class_ 115), (1, u "java/util/Arrays$LegacyMergeSort"), (1, u "Z"), (21, u "copyOfRange"), (10, .methodref 151 152), (0, .class_ 153), (0, .nameAndType 154 155), (0, u "java/lang/System"), (0, u "arraycopy"), (0, u "(Ljava/lang/Object;ILjava/lang/Object;II)V"), (148, .methodref 305 306), (0, .class_ 307), (0, .nameAndType 308 309), (0, u "java/lang/Math"), (0, u "min"), (0, u "(II)I"), (29, .methodref 14 340), (0, .nameAndType 341 342), (0, u "copyOfRangeByte"), (0, u "([BII)[B"), (0, .methodref 14 344), (0, .nameAndType 345 346), (0, u "checkLength"), (0, u "(II)V"), (28, .class_ 376), (0, u "java/util/Arrays$ArrayList"), (68, u "$assertionsDisabled"), (269, u "MIN_ARRAY_SORT_GRAN"), (0, u "I"), (2, u "INSERTIONSORT_THRESHOLD"), (120, u "fill"), (9, u "([BB)V"), (124, .class_ 976), (0, u "java/util/Arrays$ArrayItr")] 52

def k15m0 : Method := { name := "<init>", desc := "()V", sig := { parameters := [], returnType := none }, accessFlags := 2, code := none }
def k15c1 : Code := { maxStack := 3, maxLocals := 4, code := jdk_65_method_109_code, exceptionTable := #[], attributes := #[] }
def k15m1 : Method := { name := "fill", desc := "([BB)V", sig := { parameters := [(.array .byte), .byte], returnType := none }, accessFlags := 9, code := some k15c1 }
def k15c2 : Code := { maxStack := 4, maxLocals := 2, code := jdk_65_method_131_code, exceptionTable := #[], attributes := #[] }
def k15m2 : Method := { name := "checkLength", desc := "(II)V", sig := { parameters := [.int, .int], returnType := none }, accessFlags := 10, code := some k15c2 }
def k15c3 : Code := { maxStack := 3, maxLocals := 3, code := jdk_65_method_132_code, exceptionTable := #[], attributes := #[] }
def k15m3 : Method := { name := "copyOfRange", desc := "([BII)[B", sig := { parameters := [(.array .byte), .int, .int], returnType := some (.array .byte) }, accessFlags := 9, code := some k15c3 }
def k15c4 : Code := { maxStack := 6, maxLocals := 5, code := jdk_65_method_133_code, exceptionTable := #[], attributes := #[] }
def k15m4 : Method := { name := "copyOfRangeByte", desc := "([BII)[B", sig := { parameters := [(.array .byte), .int, .int], returnType := some (.array .byte) }, accessFlags := 10, code := some k15c4 }
/-- java/util/Arrays -/
def k15 : Class := { plain "java/util/Arrays" (some 0) with
  accessFlags := 49
  interfaces := #[]
  cf := some (fileOf pool15 14 #[.nestMembers #[975, 375, 113, 74]] #[{ accessFlags := 2, nameIndex := 5, descriptorIndex := 6, attributes := #[] }, { accessFlags := 9, nameIndex := 840, descriptorIndex := 850, attributes := #[] }, { accessFlags := 10, nameIndex := 345, descriptorIndex := 346, attributes := #[] }, { accessFlags := 9, nameIndex := 139, descriptorIndex := 342, attributes := #[] }, { accessFlags := 10, nameIndex := 341, descriptorIndex := 342, attributes := #[] }] 49 2 #[] #[{ accessFlags := 26, nameIndex := 715, descriptorIndex := 716, attributes := #[] }, { accessFlags := 26, nameIndex := 719, descriptorIndex := 716, attributes := #[] }, { accessFlags := 4120, nameIndex := 445, descriptorIndex := 117, attributes := #[] }])
  fields := #[{ name := "MIN_ARRAY_SORT_GRAN", type := .int, accessFlags := 26, slot := 0, constantValue := 0 }, { name := "INSERTIONSORT_THRESHOLD", type := .int, accessFlags := 26, slot := 1, constantValue := 0 }, { name := "$assertionsDisabled", type := .boolean, accessFlags := 4120, slot := 2, constantValue := 0 }]
  methods := #[k15m0, k15m1, k15m2, k15m3, k15m4]
  instanceTypes := #[]
  staticTypes := #[.int, .int, .boolean]
  resolved := Array.replicate 1029 none
  statics := none }

def pool16 : Array CpInfo := pool [(1, .class_ 2), (0, u "java/lang/Math"), (1, .class_ 6), (1, u "java/lang/Object"), (0, u "<init>"), (0, u "()V"), (89, .class_ 100), (1, u "java/lang/Math$RandomNumberGeneratorHolder"), (71, u "negativeZeroFloatBits"), (0, u "J"), (2, u "negativeZeroDoubleBits"), (24, u "min"), (43, u "$assertionsDisabled"), (0, u "Z"), (88, u "(II)I"), (2, u "twoToTheDoubleScaleDown"), (0, u "D"), (4, u "twoToTheDoubleScaleUp"), (9, u "E"), (3, u "PI"), (2, u "TAU"), (2, u "DEGREES_TO_RADIANS"), (0, u "RADIANS_TO_DEGREES")] 94

def k16m0 : Method := { name := "<init>", desc := "()V", sig := { parameters := [], returnType := none }, accessFlags := 2, code := none }
def k16c1 : Code := { maxStack := 2, maxLocals := 2, code := jdk_29_method_69_code, exceptionTable := #[], attributes := #[] }
def k16m1 : Method := { name := "min", desc := "(II)I", sig := { parameters := [.int, .int], returnType := some .int }, accessFlags := 9, code := some k16c1 }
/-- java/lang/Math -/
def k16 : Class := { plain "java/lang/Math" (some 0) with
  accessFlags := 49
  interfaces := #[]
  cf := some (fileOf pool16 1 #[.nestMembers #[98]] #[{ accessFlags := 2, nameIndex := 7, descriptorIndex := 8, attributes := #[] }, { accessFlags := 9, nameIndex := 201, descriptorIndex := 335, attributes := #[] }] 49 4 #[] #[{ accessFlags := 25, nameIndex := 354, descriptorIndex := 339, attributes := #[] }, { accessFlags := 25, nameIndex := 358, descriptorIndex := 339, attributes := #[] }, { accessFlags := 25, nameIndex := 361, descriptorIndex := 339, attributes := #[] }, { accessFlags := 26, nameIndex := 364, descriptorIndex := 339, attributes := #[] }, { accessFlags := 26, nameIndex := 365, descriptorIndex := 339, attributes := #[] }, { accessFlags := 26, nameIndex := 172, descriptorIndex := 173, attributes := #[] }, { accessFlags := 26, nameIndex := 176, descriptorIndex := 173, attributes := #[] }, { accessFlags := 8, nameIndex := 344, descriptorIndex := 339, attributes := #[] }, { accessFlags := 8, nameIndex := 338, descriptorIndex := 339, attributes := #[] }, { accessFlags := 4120, nameIndex := 245, descriptorIndex := 246, attributes := #[] }])
  fields := #[{ name := "E", type := .double, accessFlags := 25, slot := 0, constantValue := 0 }, { name := "PI", type := .double, accessFlags := 25, slot := 1, constantValue := 0 }, { name := "TAU", type := .double, accessFlags := 25, slot := 2, constantValue := 0 }, { name := "DEGREES_TO_RADIANS", type := .double, accessFlags := 26, slot := 3, constantValue := 0 }, { name := "RADIANS_TO_DEGREES", type := .double, accessFlags := 26, slot := 4, constantValue := 0 }, { name := "negativeZeroFloatBits", type := .long, accessFlags := 26, slot := 5, constantValue := 0 }, { name := "negativeZeroDoubleBits", type := .long, accessFlags := 26, slot := 6, constantValue := 0 }, { name := "twoToTheDoubleScaleUp", type := .double, accessFlags := 8, slot := 7, constantValue := 0 }, { name := "twoToTheDoubleScaleDown", type := .double, accessFlags := 8, slot := 8, constantValue := 0 }, { name := "$assertionsDisabled", type := .boolean, accessFlags := 4120, slot := 9, constantValue := 0 }]
  methods := #[k16m0, k16m1]
  instanceTypes := #[]
  staticTypes := #[.double, .double, .double, .double, .double, .long, .long, .double, .double, .boolean]
  resolved := Array.replicate 460 none
  statics := none }

def pool17 : Array CpInfo := pool [(1, .class_ 2), (0, u "java/lang/String"), (1, .class_ 6), (1, u "java/lang/Object"), (0, u "<init>"), (0, u "()V"), (0, .methodref 1 10), (0, .nameAndType 11 12), (0, u "checkIndex"), (0, u "(II)V"), (1, .class_ 16), (1, u "java/lang/StringLatin1"), (36, u "([BI)C"), (67, u "$assertionsDisabled"), (0, u "Z"), (98, .class_ 223), (1, u "java/lang/StringLatin1$LinesSpliterator"), (28, u "charAt"), (137, .class_ 391), (0, u "java/lang/StringLatin1$CharsSpliterator")] 3

def k17m0 : Method := { name := "<init>", desc := "()V", sig := { parameters := [], returnType := none }, accessFlags := 0, code := none }
def k17c1 : Code := { maxStack := 2, maxLocals := 2, code := jdk_43_method_2_code, exceptionTable := #[], attributes := #[] }
def k17m1 : Method := { name := "charAt", desc := "([BI)C", sig := { parameters := [(.array .byte), .int], returnType := some .char }, accessFlags := 9, code := some k17c1 }
/-- java/lang/StringLatin1 -/
def k17 : Class := { plain "java/lang/StringLatin1" (some 0) with
  accessFlags := 48
  interfaces := #[]
  cf := some (fileOf pool17 14 #[.nestMembers #[390, 221]] #[{ accessFlags := 0, nameIndex := 7, descriptorIndex := 8, attributes := #[] }, { accessFlags := 9, nameIndex := 252, descriptorIndex := 53, attributes := #[] }] 48 4 #[] #[{ accessFlags := 4120, nameIndex := 121, descriptorIndex := 122, attributes := #[] }])
  fields := #[{ name := "$assertionsDisabled", type := .boolean, accessFlags := 4120, slot := 0, constantValue := 0 }]
  methods := #[k17m0, k17m1]
  instanceTypes := #[]
  staticTypes := #[.boolean]
  resolved := Array.replicate 395 none
  statics := none }

def pool18 : Array CpInfo := pool [(2, .class_ 4), (1, u "java/lang/Object"), (0, u "<init>"), (0, u "()V"), (17, .class_ 26), (1, u "jdk/internal/util/Preconditions"), (6, u "checkIndex"), (21, .class_ 56), (0, u "jdk/internal/util/Preconditions$4"), (57, .class_ 115), (0, u "jdk/internal/util/Preconditions$1"), (7, u "SIOOBE_FORMATTER"), (0, u "Ljava/util/function/BiFunction;"), (0, .class_ 126), (0, u "jdk/internal/util/Preconditions$2"), (3, u "AIOOBE_FORMATTER"), (0, .class_ 132), (0, u "jdk/internal/util/Preconditions$3"), (3, u "IOOBE_FORMATTER"), (41, u "(IILjava/util/function/BiFunction;)I")] 15

def k18m0 : Method := { name := "<init>", desc := "()V", sig := { parameters := [], returnType := none }, accessFlags := 1, code := none }
def k18c1 : Code := { maxStack := 3, maxLocals := 3, code := jdk_41_method_11_code, exceptionTable := #[], attributes := #[] }
def k18m1 : Method := { name := "checkIndex", desc := "(IILjava/util/function/BiFunction;)I", sig := { parameters := [.int, .int, (.object "java/util/function/BiFunction")], returnType := some .int }, accessFlags := 9, code := some k18c1 }
/-- jdk/internal/util/Preconditions -/
def k18 : Class := { plain "jdk/internal/util/Preconditions" (some 0) with
  accessFlags := 33
  interfaces := #[]
  cf := some (fileOf pool18 24 #[.nestMembers #[55, 131, 125, 114]] #[{ accessFlags := 1, nameIndex := 5, descriptorIndex := 6, attributes := #[] }, { accessFlags := 9, nameIndex := 33, descriptorIndex := 178, attributes := #[] }] 33 2 #[] #[{ accessFlags := 25, nameIndex := 123, descriptorIndex := 124, attributes := #[] }, { accessFlags := 25, nameIndex := 130, descriptorIndex := 124, attributes := #[] }, { accessFlags := 25, nameIndex := 136, descriptorIndex := 124, attributes := #[] }])
  fields := #[{ name := "SIOOBE_FORMATTER", type := (.object "java/util/function/BiFunction"), accessFlags := 25, slot := 0, constantValue := 0 }, { name := "AIOOBE_FORMATTER", type := (.object "java/util/function/BiFunction"), accessFlags := 25, slot := 1, constantValue := 0 }, { name := "IOOBE_FORMATTER", type := (.object "java/util/function/BiFunction"), accessFlags := 25, slot := 2, constantValue := 0 }]
  methods := #[k18m0, k18m1]
  instanceTypes := #[]
  staticTypes := #[(.object "java/util/function/BiFunction"), (.object "java/util/function/BiFunction"), (.object "java/util/function/BiFunction")]
  resolved := Array.replicate 194 none
  statics := some 2 }

def pool19 : Array CpInfo := pool [(9, u "<init>"), (6, .class_ 18), (1, u "java/lang/Object"), (0, u "()V"), (1, .class_ 23), (1, u "jdk/internal/util/ArraysSupport"), (0, u "LOG2_ARRAY_LONG_INDEX_SCALE"), (0, u "I"), (2, u "U"), (0, u "Ljdk/internal/misc/Unsafe;"), (8, u "BIG_ENDIAN"), (0, u "Z"), (8, u "LOG2_BYTE_BIT_SIZE"), (4, u "LOG2_ARRAY_INT_INDEX_SCALE"), (54, u "JLA"), (0, u "Ljdk/internal/access/JavaLangAccess;"), (11, u "LOG2_ARRAY_BOOLEAN_INDEX_SCALE"), (9, u "LOG2_ARRAY_BYTE_INDEX_SCALE"), (5, u "LOG2_ARRAY_CHAR_INDEX_SCALE"), (5, u "LOG2_ARRAY_SHORT_INDEX_SCALE"), (18, u "LOG2_ARRAY_FLOAT_INDEX_SCALE"), (24, u "LOG2_ARRAY_DOUBLE_INDEX_SCALE"), (89, u "T_BOOLEAN"), (2, u "T_CHAR"), (1, u "T_FLOAT"), (1, u "T_DOUBLE"), (1, u "T_BYTE"), (1, u "T_SHORT"), (1, u "T_INT"), (1, u "T_LONG"), (1, u "SOFT_MAX_ARRAY_LENGTH")] 83

def k19m0 : Method := { name := "<init>", desc := "()V", sig := { parameters := [], returnType := none }, accessFlags := 2, code := none }
/-- jdk/internal/util/ArraysSupport -/
def k19 : Class := { plain "jdk/internal/util/ArraysSupport" (some 0) with
  accessFlags := 33
  interfaces := #[]
  cf := some (fileOf pool19 21 #[] #[{ accessFlags := 2, nameIndex := 9, descriptorIndex := 19, attributes := #[] }] 33 16 #[] #[{ accessFlags := 24, nameIndex := 28, descriptorIndex := 29, attributes := #[] }, { accessFlags := 26, nameIndex := 38, descriptorIndex := 39, attributes := #[] }, { accessFlags := 25, nameIndex := 121, descriptorIndex := 25, attributes := #[] }, { accessFlags := 25, nameIndex := 131, descriptorIndex := 25, attributes := #[] }, { accessFlags := 25, nameIndex := 137, descriptorIndex := 25, attributes := #[] }, { accessFlags := 25, nameIndex := 143, descriptorIndex := 25, attributes := #[] }, { accessFlags := 25, nameIndex := 53, descriptorIndex := 25, attributes := #[] }, { accessFlags := 25, nameIndex := 24, descriptorIndex := 25, attributes := #[] }, { accessFlags := 25, nameIndex := 162, descriptorIndex := 25, attributes := #[] }, { accessFlags := 25, nameIndex := 187, descriptorIndex := 25, attributes := #[] }, { accessFlags := 26, nameIndex := 48, descriptorIndex := 25, attributes := #[] }, { accessFlags := 25, nameIndex := 277, descriptorIndex := 25, attributes := #[] }, { accessFlags := 25, nameIndex := 280, descriptorIndex := 25, attributes := #[] }, { accessFlags := 25, nameIndex := 282, descriptorIndex := 25, attributes := #[] }, { accessFlags := 25, nameIndex := 284, descriptorIndex := 25, attributes := #[] }, { accessFlags := 25, nameIndex := 286, descriptorIndex := 25, attributes := #[] }, { accessFlags := 25, nameIndex := 288, descriptorIndex := 25, attributes := #[] }, { accessFlags := 25, nameIndex := 290, descriptorIndex := 25, attributes := #[] }, { accessFlags := 25, nameIndex := 292, descriptorIndex := 25, attributes := #[] }, { accessFlags := 26, nameIndex := 108, descriptorIndex := 109, attributes := #[] }, { accessFlags := 25, nameIndex := 294, descriptorIndex := 25, attributes := #[] }])
  fields := #[{ name := "U", type := (.object "jdk/internal/misc/Unsafe"), accessFlags := 24, slot := 0, constantValue := 0 }, { name := "BIG_ENDIAN", type := .boolean, accessFlags := 26, slot := 1, constantValue := 0 }, { name := "LOG2_ARRAY_BOOLEAN_INDEX_SCALE", type := .int, accessFlags := 25, slot := 2, constantValue := 0 }, { name := "LOG2_ARRAY_BYTE_INDEX_SCALE", type := .int, accessFlags := 25, slot := 3, constantValue := 0 }, { name := "LOG2_ARRAY_CHAR_INDEX_SCALE", type := .int, accessFlags := 25, slot := 4, constantValue := 0 }, { name := "LOG2_ARRAY_SHORT_INDEX_SCALE", type := .int, accessFlags := 25, slot := 5, constantValue := 0 }, { name := "LOG2_ARRAY_INT_INDEX_SCALE", type := .int, accessFlags := 25, slot := 6, constantValue := 0 }, { name := "LOG2_ARRAY_LONG_INDEX_SCALE", type := .int, accessFlags := 25, slot := 7, constantValue := 0 }, { name := "LOG2_ARRAY_FLOAT_INDEX_SCALE", type := .int, accessFlags := 25, slot := 8, constantValue := 0 }, { name := "LOG2_ARRAY_DOUBLE_INDEX_SCALE", type := .int, accessFlags := 25, slot := 9, constantValue := 0 }, { name := "LOG2_BYTE_BIT_SIZE", type := .int, accessFlags := 26, slot := 10, constantValue := 0 }, { name := "T_BOOLEAN", type := .int, accessFlags := 25, slot := 11, constantValue := 0 }, { name := "T_CHAR", type := .int, accessFlags := 25, slot := 12, constantValue := 0 }, { name := "T_FLOAT", type := .int, accessFlags := 25, slot := 13, constantValue := 0 }, { name := "T_DOUBLE", type := .int, accessFlags := 25, slot := 14, constantValue := 0 }, { name := "T_BYTE", type := .int, accessFlags := 25, slot := 15, constantValue := 0 }, { name := "T_SHORT", type := .int, accessFlags := 25, slot := 16, constantValue := 0 }, { name := "T_INT", type := .int, accessFlags := 25, slot := 17, constantValue := 0 }, { name := "T_LONG", type := .int, accessFlags := 25, slot := 18, constantValue := 0 }, { name := "JLA", type := (.object "jdk/internal/access/JavaLangAccess"), accessFlags := 26, slot := 19, constantValue := 0 }, { name := "SOFT_MAX_ARRAY_LENGTH", type := .int, accessFlags := 25, slot := 20, constantValue := 0 }]
  methods := #[k19m0]
  instanceTypes := #[]
  staticTypes := #[(.object "jdk/internal/misc/Unsafe"), .boolean, .int, .int, .int, .int, .int, .int, .int, .int, .int, .int, .int, .int, .int, .int, .int, .int, .int, (.object "jdk/internal/access/JavaLangAccess"), .int]
  resolved := Array.replicate 378 none
  statics := none }

def pool20 : Array CpInfo := pool [(1, u "java/lang/Cloneable"), (0, .class_ 1), (0, u "java/lang/Object"), (0, .class_ 3)] 3

/-- java/lang/Cloneable -/
def k20 : Class := { plain "java/lang/Cloneable" (some 0) with
  accessFlags := 1537
  interfaces := #[]
  cf := some (fileOf pool20 2 #[] #[] 1537 4 #[] #[])
  fields := #[]
  methods := #[]
  instanceTypes := #[]
  staticTypes := #[]
  resolved := Array.replicate 8 none
  statics := none }

/-- the primitive byte -/
def k21 : Class := { plain "byte" none with kind := .primitive 'B', accessFlags := 0x411 }
/-- [B -/
def k22 : Class := { plain "[B" (some 0) with kind := .array 21 .byte, interfaces := #[20, 6], accessFlags := 1041 }

/-- the primitive int -/
def k23 : Class := { plain "int" none with kind := .primitive 'I', accessFlags := 0x411 }
/-- [I -/
def k24 : Class := { plain "[I" (some 0) with kind := .array 23 .int, interfaces := #[20, 6], accessFlags := 1041 }

def heap : Heap := #[{ cls := 11, slots := #[.long 0, .int 1, .null, .int 0, .null, .int 0, .int 0], vm := .statics 11 },
  { cls := 14, slots := #[.int 0, .int 0, .null, .null, .ref 4, .ref 3, .int 0, .int 0, .long 0], vm := .statics 14 },
  { cls := 18, slots := #[.null, .null, .null], vm := .statics 18 },
  { cls := 22, slots := #[.int 48, .int 49, .int 50, .int 51, .int 52, .int 53, .int 54, .int 55, .int 56, .int 57, .int 48, .int 49, .int 50, .int 51, .int 52, .int 53, .int 54, .int 55, .int 56, .int 57, .int 48, .int 49, .int 50, .int 51, .int 52, .int 53, .int 54, .int 55, .int 56, .int 57, .int 48, .int 49, .int 50, .int 51, .int 52, .int 53, .int 54, .int 55, .int 56, .int 57, .int 48, .int 49, .int 50, .int 51, .int 52, .int 53, .int 54, .int 55, .int 56, .int 57, .int 48, .int 49, .int 50, .int 51, .int 52, .int 53, .int 54, .int 55, .int 56, .int 57, .int 48, .int 49, .int 50, .int 51, .int 52, .int 53, .int 54, .int 55, .int 56, .int 57, .int 48, .int 49, .int 50, .int 51, .int 52, .int 53, .int 54, .int 55, .int 56, .int 57, .int 48, .int 49, .int 50, .int 51, .int 52, .int 53, .int 54, .int 55, .int 56, .int 57, .int 48, .int 49, .int 50, .int 51, .int 52, .int 53, .int 54, .int 55, .int 56, .int 57], vm := .none },
  { cls := 22, slots := #[.int 48, .int 48, .int 48, .int 48, .int 48, .int 48, .int 48, .int 48, .int 48, .int 48, .int 49, .int 49, .int 49, .int 49, .int 49, .int 49, .int 49, .int 49, .int 49, .int 49, .int 50, .int 50, .int 50, .int 50, .int 50, .int 50, .int 50, .int 50, .int 50, .int 50, .int 51, .int 51, .int 51, .int 51, .int 51, .int 51, .int 51, .int 51, .int 51, .int 51, .int 52, .int 52, .int 52, .int 52, .int 52, .int 52, .int 52, .int 52, .int 52, .int 52, .int 53, .int 53, .int 53, .int 53, .int 53, .int 53, .int 53, .int 53, .int 53, .int 53, .int 54, .int 54, .int 54, .int 54, .int 54, .int 54, .int 54, .int 54, .int 54, .int 54, .int 55, .int 55, .int 55, .int 55, .int 55, .int 55, .int 55, .int 55, .int 55, .int 55, .int 56, .int 56, .int 56, .int 56, .int 56, .int 56, .int 56, .int 56, .int 56, .int 56, .int 57, .int 57, .int 57, .int 57, .int 57, .int 57, .int 57, .int 57, .int 57, .int 57], vm := .none }]
def classes : Array Class := #[k0, k1, k2, k3, k4, k5, k6, k7, k8, k9, k10, k11, k12, k13, k14, k15, k16, k17, k18, k19, k20, k21, k22, k23, k24]
def interned : List (Array UInt16 × Addr) := []
def slotsUsed : Nat := 219
def theMethod : MethodId := ⟨1, 2⟩
def args0 : Array Value := #[.int 42, .int 7]
def aboutOver (below : List Frame) : State where
  vm := { classes := classes, interned := interned.toArray }
  heap := heap
  slotsUsed := slotsUsed
  threads := #[{ frames := .invoking theMethod args0 :: below }]
def below0 : List Frame := [.native { method := ⟨0, 0⟩, args := #[] }]
def about1 : State := aboutOver below0
def p0 : Program := .bare "" "" ""
def e0 : Env := launch0.env 0 0 0
theorem w_frames : about1.frames = Frame.invoking theMethod args0 :: below0 := rfl
set_option maxRecDepth 65536 in
theorem w_args : argsFit about1.vm theMethod args0 = true := by decide +kernel
set_option maxRecDepth 65536 in
theorem w_heap : heapFits about1 = true := by decide +kernel
set_option maxRecDepth 65536 in
theorem w_runnable : about1.curStatus? = some .runnable := by decide +kernel
set_option maxRecDepth 65536 in
theorem w_alone : about1.alone = true := by decide +kernel
set_option maxRecDepth 65536 in
theorem w_named : about1.methodNamed? x = some theMethod := by decide +kernel
set_option maxRecDepth 65536 in
theorem w_hears : about1.hears theMethod below0 = true := by decide +kernel
set_option maxRecDepth 65536 in
theorem w_ripe : about1.ripe theMethod args0 below0 = true := by decide +kernel
theorem w_running : about1.status = .running := rfl
set_option maxRecDepth 65536 in
theorem w_room : about1.hasRoom e0.platform room_1 = true :=
  launch0.hasRoom_least _ room_1 (by decide +kernel) (by decide +kernel) (by decide +kernel) (by decide +kernel) (by decide +kernel) (by decide +kernel)
theorem allAtoms_all (ts : List Jvm.Cond) (a : Array Jvm.Value) (st : Jvm.State) : (allAtoms ts).before a st = ts.all (fun c => c.before a st) := by
  induction ts with
  | nil => rfl
  | cons c t ih =>
    show (Jvm.Cond.and c (allAtoms t)).before a st = _
    rw [Jvm.Cond.before_and, ih, List.all_cons]
def words1 : List Jvm.Cond := Jvm.Cond.code x code maxLocals ret :: tables_1
/-- a 'code' word, met by the world's own term for the bytes: nothing is compared byte by byte -/
theorem code_word {y : MethodName} {bytes : ByteArray} {mx : Nat} {rt : Option FieldType} {a : Array Value} {s : State} {m : MethodId} {meth : Method} {c : Code} (h1 : s.methodNamed? y = some m) (h2 : s.vm.method? m = some meth) (h3 : meth.code = some c) (h4 : c.code = bytes)
    (h5 : (c.maxLocals == mx && c.exceptionTable.isEmpty && decide (c.maxStack ≤ mostOperands) && decide (meth.sig.returnType = rt) && !meth.locks && decide (parseMethodDescriptor y.desc = some meth.sig)) = true) : (Jvm.Cond.code y bytes mx rt).before a s = true := by
  simp only [Bool.and_eq_true, beq_iff_eq, Bool.not_eq_true', decide_eq_true_eq] at h5
  obtain ⟨⟨⟨⟨⟨g1, g2⟩, g3⟩, g4⟩, g5⟩, g6⟩ := h5
  simp [Cond.before, Cond.holds, Cond.value, h1, h2, h3, h4, g1, g2, g3, g4, g5, g6]
def isCode : Jvm.Cond → Bool
  | .code _ _ _ _ => true
  | _ => false
theorem all_split {L : List Jvm.Cond} {P : Jvm.Cond → Bool} (h1 : L.all (fun c => isCode c || P c) = true) (h2 : ∀ c ∈ L.filter isCode, P c = true) : L.all P = true := by
  refine List.all_eq_true.mpr fun c hc => ?_
  have h := List.all_eq_true.mp h1 c hc
  rcases Bool.eq_false_or_eq_true (isCode c) with hi | hi
  · exact h2 c (List.mem_filter.mpr ⟨hc, hi⟩)
  · simpa [hi] using h
set_option maxRecDepth 65536 in
theorem w_c0 : (Jvm.Cond.code x code maxLocals ret).before args0 about1 = true := code_word (m := ⟨1, 2⟩) (meth := k1m2) (c := k1c2) (by decide +kernel) rfl rfl rfl (by decide +kernel)
set_option maxRecDepth 65536 in
theorem w_c1 : (Jvm.Cond.code ({ cls := "com/example/capsa/capsa/benchmark/InputClasses", name := "simpleName", desc := "(II)Ljava/lang/String;" } : Jvm.MethodName) prog_39_method_4_code (2 : Nat) (Option.some (Jvm.ClassFile.FieldType.object "java/lang/String"))).before args0 about1 = true := code_word (m := ⟨2, 1⟩) (meth := k2m1) (c := k2c1) (by decide +kernel) rfl rfl rfl (by decide +kernel)
set_option maxRecDepth 65536 in
theorem w_c2 : (Jvm.Cond.code ({ cls := "java/lang/StringBuilder", name := "<init>", desc := "()V" } : Jvm.MethodName) jdk_67_method_1_code (1 : Nat) (Option.none : Option Jvm.ClassFile.FieldType)).before args0 about1 = true := code_word (m := ⟨8, 0⟩) (meth := k8m0) (c := k8c0) (by decide +kernel) rfl rfl rfl (by decide +kernel)
set_option maxRecDepth 65536 in
theorem w_c3 : (Jvm.Cond.code ({ cls := "java/lang/AbstractStringBuilder", name := "<init>", desc := "(I)V" } : Jvm.MethodName) jdk_68_method_2_code (2 : Nat) (Option.none : Option Jvm.ClassFile.FieldType)).before args0 about1 = true := code_word (m := ⟨5, 1⟩) (meth := k5m1) (c := k5c1) (by decide +kernel) rfl rfl rfl (by decide +kernel)
set_option maxRecDepth 65536 in
theorem w_c4 : (Jvm.Cond.code ({ cls := "java/lang/Object", name := "<init>", desc := "()V" } : Jvm.MethodName) object_method_1_code (1 : Nat) (Option.none : Option Jvm.ClassFile.FieldType)).before args0 about1 = true := code_word (m := ⟨0, 0⟩) (meth := k0m0) (c := k0c0) (by decide +kernel) rfl rfl rfl (by decide +kernel)
set_option maxRecDepth 65536 in
theorem w_c5 : (Jvm.Cond.code ({ cls := "java/lang/StringBuilder", name := "append", desc := "(Ljava/lang/String;)Ljava/lang/StringBuilder;" } : Jvm.MethodName) jdk_67_method_7_code (2 : Nat) (Option.some (Jvm.ClassFile.FieldType.object "java/lang/StringBuilder"))).before args0 about1 = true := code_word (m := ⟨8, 1⟩) (meth := k8m1) (c := k8c1) (by decide +kernel) rfl rfl rfl (by decide +kernel)
set_option maxRecDepth 65536 in
theorem w_c6 : (Jvm.Cond.code ({ cls := "java/lang/AbstractStringBuilder", name := "append", desc := "(Ljava/lang/String;)Ljava/lang/AbstractStringBuilder;" } : Jvm.MethodName) jdk_68_method_22_code (3 : Nat) (Option.some (Jvm.ClassFile.FieldType.object "java/lang/AbstractStringBuilder"))).before args0 about1 = true := code_word (m := ⟨5, 4⟩) (meth := k5m4) (c := k5c4) (by decide +kernel) rfl rfl rfl (by decide +kernel)
set_option maxRecDepth 65536 in
theorem w_c7 : (Jvm.Cond.code ({ cls := "java/lang/String", name := "length", desc := "()I" } : Jvm.MethodName) jdk_42_method_54_code (1 : Nat) (Option.some Jvm.ClassFile.FieldType.int)).before args0 about1 = true := code_word (m := ⟨11, 2⟩) (meth := k11m2) (c := k11c2) (by decide +kernel) rfl rfl rfl (by decide +kernel)
set_option maxRecDepth 65536 in
theorem w_c8 : (Jvm.Cond.code ({ cls := "java/lang/String", name := "coder", desc := "()B" } : Jvm.MethodName) jdk_42_method_152_code (1 : Nat) (Option.some Jvm.ClassFile.FieldType.byte)).before args0 about1 = true := code_word (m := ⟨11, 8⟩) (meth := k11m8) (c := k11c8) (by decide +kernel) rfl rfl rfl (by decide +kernel)
set_option maxRecDepth 65536 in
theorem w_c9 : (Jvm.Cond.code ({ cls := "java/lang/AbstractStringBuilder", name := "ensureCapacityInternal", desc := "(I)V" } : Jvm.MethodName) jdk_68_method_9_code (3 : Nat) (Option.none : Option Jvm.ClassFile.FieldType)).before args0 about1 = true := code_word (m := ⟨5, 3⟩) (meth := k5m3) (c := k5c3) (by decide +kernel) rfl rfl rfl (by decide +kernel)
set_option maxRecDepth 65536 in
theorem w_c10 : (Jvm.Cond.code ({ cls := "java/lang/AbstractStringBuilder", name := "putStringAt", desc := "(ILjava/lang/String;)V" } : Jvm.MethodName) jdk_68_method_73_code (3 : Nat) (Option.none : Option Jvm.ClassFile.FieldType)).before args0 about1 = true := code_word (m := ⟨5, 8⟩) (meth := k5m8) (c := k5c8) (by decide +kernel) rfl rfl rfl (by decide +kernel)
set_option maxRecDepth 65536 in
theorem w_c11 : (Jvm.Cond.code ({ cls := "java/lang/AbstractStringBuilder", name := "inflateIfNeededFor", desc := "(Ljava/lang/String;)V" } : Jvm.MethodName) jdk_68_method_71_code (2 : Nat) (Option.none : Option Jvm.ClassFile.FieldType)).before args0 about1 = true := code_word (m := ⟨5, 7⟩) (meth := k5m7) (c := k5c7) (by decide +kernel) rfl rfl rfl (by decide +kernel)
set_option maxRecDepth 65536 in
theorem w_c12 : (Jvm.Cond.code ({ cls := "java/lang/String", name := "getBytes", desc := "([BIB)V" } : Jvm.MethodName) jdk_42_method_147_code (4 : Nat) (Option.none : Option Jvm.ClassFile.FieldType)).before args0 about1 = true := code_word (m := ⟨11, 5⟩) (meth := k11m5) (c := k11c5) (by decide +kernel) rfl rfl rfl (by decide +kernel)
set_option maxRecDepth 65536 in
theorem w_c13 : (Jvm.Cond.code ({ cls := "com/example/capsa/capsa/benchmark/InputClasses", name := "digits", desc := "(II)Ljava/lang/String;" } : Jvm.MethodName) prog_39_method_6_code (3 : Nat) (Option.some (Jvm.ClassFile.FieldType.object "java/lang/String"))).before args0 about1 = true := code_word (m := ⟨2, 2⟩) (meth := k2m2) (c := k2c2) (by decide +kernel) rfl rfl rfl (by decide +kernel)
set_option maxRecDepth 65536 in
theorem w_c14 : (Jvm.Cond.code ({ cls := "java/lang/Integer", name := "toString", desc := "(I)Ljava/lang/String;" } : Jvm.MethodName) jdk_33_method_10_code (3 : Nat) (Option.some (Jvm.ClassFile.FieldType.object "java/lang/String"))).before args0 about1 = true := code_word (m := ⟨14, 0⟩) (meth := k14m0) (c := k14c0) (by decide +kernel) rfl rfl rfl (by decide +kernel)
set_option maxRecDepth 65536 in
theorem w_c15 : (Jvm.Cond.code ({ cls := "java/lang/Integer", name := "stringSize", desc := "(I)I" } : Jvm.MethodName) jdk_33_method_13_code (4 : Nat) (Option.some Jvm.ClassFile.FieldType.int)).before args0 about1 = true := code_word (m := ⟨14, 2⟩) (meth := k14m2) (c := k14c2) (by decide +kernel) rfl rfl rfl (by decide +kernel)
set_option maxRecDepth 65536 in
theorem w_c16 : (Jvm.Cond.code ({ cls := "java/lang/Integer", name := "getChars", desc := "(II[B)I" } : Jvm.MethodName) jdk_33_method_12_code (7 : Nat) (Option.some Jvm.ClassFile.FieldType.int)).before args0 about1 = true := code_word (m := ⟨14, 1⟩) (meth := k14m1) (c := k14c1) (by decide +kernel) rfl rfl rfl (by decide +kernel)
set_option maxRecDepth 65536 in
theorem w_c17 : (Jvm.Cond.code ({ cls := "java/lang/String", name := "<init>", desc := "([BB)V" } : Jvm.MethodName) jdk_42_method_151_code (3 : Nat) (Option.none : Option Jvm.ClassFile.FieldType)).before args0 about1 = true := code_word (m := ⟨11, 7⟩) (meth := k11m7) (c := k11c7) (by decide +kernel) rfl rfl rfl (by decide +kernel)
set_option maxRecDepth 65536 in
theorem w_c18 : (Jvm.Cond.code ({ cls := "java/lang/String", name := "repeat", desc := "(I)Ljava/lang/String;" } : Jvm.MethodName) jdk_42_method_145_code (5 : Nat) (Option.some (Jvm.ClassFile.FieldType.object "java/lang/String"))).before args0 about1 = true := code_word (m := ⟨11, 4⟩) (meth := k11m4) (c := k11c4) (by decide +kernel) rfl rfl rfl (by decide +kernel)
set_option maxRecDepth 65536 in
theorem w_c19 : (Jvm.Cond.code ({ cls := "java/lang/StringBuilder", name := "toString", desc := "()Ljava/lang/String;" } : Jvm.MethodName) jdk_67_method_42_code (1 : Nat) (Option.some (Jvm.ClassFile.FieldType.object "java/lang/String"))).before args0 about1 = true := code_word (m := ⟨8, 2⟩) (meth := k8m2) (c := k8c2) (by decide +kernel) rfl rfl rfl (by decide +kernel)
set_option maxRecDepth 65536 in
theorem w_c20 : (Jvm.Cond.code ({ cls := "java/lang/String", name := "<init>", desc := "(Ljava/lang/StringBuilder;)V" } : Jvm.MethodName) jdk_42_method_53_code (2 : Nat) (Option.none : Option Jvm.ClassFile.FieldType)).before args0 about1 = true := code_word (m := ⟨11, 1⟩) (meth := k11m1) (c := k11c1) (by decide +kernel) rfl rfl rfl (by decide +kernel)
set_option maxRecDepth 65536 in
theorem w_c21 : (Jvm.Cond.code ({ cls := "java/lang/String", name := "<init>", desc := "(Ljava/lang/AbstractStringBuilder;Ljava/lang/Void;)V" } : Jvm.MethodName) jdk_42_method_150_code (5 : Nat) (Option.none : Option Jvm.ClassFile.FieldType)).before args0 about1 = true := code_word (m := ⟨11, 6⟩) (meth := k11m6) (c := k11c6) (by decide +kernel) rfl rfl rfl (by decide +kernel)
set_option maxRecDepth 65536 in
theorem w_c22 : (Jvm.Cond.code ({ cls := "java/lang/AbstractStringBuilder", name := "getValue", desc := "()[B" } : Jvm.MethodName) jdk_68_method_64_code (1 : Nat) (Option.some (Jvm.ClassFile.FieldType.array Jvm.ClassFile.FieldType.byte))).before args0 about1 = true := code_word (m := ⟨5, 5⟩) (meth := k5m5) (c := k5c5) (by decide +kernel) rfl rfl rfl (by decide +kernel)
set_option maxRecDepth 65536 in
theorem w_c23 : (Jvm.Cond.code ({ cls := "java/lang/StringBuilder", name := "length", desc := "()I" } : Jvm.MethodName) jdk_67_method_93_code (1 : Nat) (Option.some Jvm.ClassFile.FieldType.int)).before args0 about1 = true := code_word (m := ⟨8, 3⟩) (meth := k8m3) (c := k8c3) (by decide +kernel) rfl rfl rfl (by decide +kernel)
set_option maxRecDepth 65536 in
theorem w_c24 : (Jvm.Cond.code ({ cls := "java/lang/AbstractStringBuilder", name := "length", desc := "()I" } : Jvm.MethodName) jdk_68_method_6_code (1 : Nat) (Option.some Jvm.ClassFile.FieldType.int)).before args0 about1 = true := code_word (m := ⟨5, 2⟩) (meth := k5m2) (c := k5c2) (by decide +kernel) rfl rfl rfl (by decide +kernel)
set_option maxRecDepth 65536 in
theorem w_c25 : (Jvm.Cond.code ({ cls := "java/lang/AbstractStringBuilder", name := "isLatin1", desc := "()Z" } : Jvm.MethodName) jdk_68_method_68_code (1 : Nat) (Option.some Jvm.ClassFile.FieldType.boolean)).before args0 about1 = true := code_word (m := ⟨5, 6⟩) (meth := k5m6) (c := k5c6) (by decide +kernel) rfl rfl rfl (by decide +kernel)
set_option maxRecDepth 65536 in
theorem w_c26 : (Jvm.Cond.code ({ cls := "java/util/Arrays", name := "copyOfRange", desc := "([BII)[B" } : Jvm.MethodName) jdk_65_method_132_code (3 : Nat) (Option.some (Jvm.ClassFile.FieldType.array Jvm.ClassFile.FieldType.byte))).before args0 about1 = true := code_word (m := ⟨15, 3⟩) (meth := k15m3) (c := k15c3) (by decide +kernel) rfl rfl rfl (by decide +kernel)
set_option maxRecDepth 65536 in
theorem w_c27 : (Jvm.Cond.code ({ cls := "java/util/Arrays", name := "copyOfRangeByte", desc := "([BII)[B" } : Jvm.MethodName) jdk_65_method_133_code (5 : Nat) (Option.some (Jvm.ClassFile.FieldType.array Jvm.ClassFile.FieldType.byte))).before args0 about1 = true := code_word (m := ⟨15, 4⟩) (meth := k15m4) (c := k15c4) (by decide +kernel) rfl rfl rfl (by decide +kernel)
set_option maxRecDepth 65536 in
theorem w_c28 : (Jvm.Cond.code ({ cls := "java/util/Arrays", name := "checkLength", desc := "(II)V" } : Jvm.MethodName) jdk_65_method_131_code (2 : Nat) (Option.none : Option Jvm.ClassFile.FieldType)).before args0 about1 = true := code_word (m := ⟨15, 2⟩) (meth := k15m2) (c := k15c2) (by decide +kernel) rfl rfl rfl (by decide +kernel)
set_option maxRecDepth 65536 in
theorem w_c29 : (Jvm.Cond.code ({ cls := "java/lang/Math", name := "min", desc := "(II)I" } : Jvm.MethodName) jdk_29_method_69_code (2 : Nat) (Option.some Jvm.ClassFile.FieldType.int)).before args0 about1 = true := code_word (m := ⟨16, 1⟩) (meth := k16m1) (c := k16c1) (by decide +kernel) rfl rfl rfl (by decide +kernel)
set_option maxRecDepth 65536 in
theorem w_c30 : (Jvm.Cond.code ({ cls := "java/util/Arrays", name := "fill", desc := "([BB)V" } : Jvm.MethodName) jdk_65_method_109_code (4 : Nat) (Option.none : Option Jvm.ClassFile.FieldType)).before args0 about1 = true := code_word (m := ⟨15, 1⟩) (meth := k15m1) (c := k15c1) (by decide +kernel) rfl rfl rfl (by decide +kernel)
set_option maxRecDepth 65536 in
theorem w_c31 : (Jvm.Cond.code ({ cls := "java/lang/String", name := "charAt", desc := "(I)C" } : Jvm.MethodName) jdk_42_method_56_code (2 : Nat) (Option.some Jvm.ClassFile.FieldType.char)).before args0 about1 = true := code_word (m := ⟨11, 3⟩) (meth := k11m3) (c := k11c3) (by decide +kernel) rfl rfl rfl (by decide +kernel)
set_option maxRecDepth 65536 in
theorem w_c32 : (Jvm.Cond.code ({ cls := "java/lang/String", name := "isLatin1", desc := "()Z" } : Jvm.MethodName) jdk_42_method_154_code (1 : Nat) (Option.some Jvm.ClassFile.FieldType.boolean)).before args0 about1 = true := code_word (m := ⟨11, 9⟩) (meth := k11m9) (c := k11c9) (by decide +kernel) rfl rfl rfl (by decide +kernel)
set_option maxRecDepth 65536 in
theorem w_c33 : (Jvm.Cond.code ({ cls := "java/lang/StringLatin1", name := "charAt", desc := "([BI)C" } : Jvm.MethodName) jdk_43_method_2_code (2 : Nat) (Option.some Jvm.ClassFile.FieldType.char)).before args0 about1 = true := code_word (m := ⟨17, 1⟩) (meth := k17m1) (c := k17c1) (by decide +kernel) rfl rfl rfl (by decide +kernel)
set_option maxRecDepth 65536 in
theorem w_c34 : (Jvm.Cond.code ({ cls := "java/lang/String", name := "checkIndex", desc := "(II)V" } : Jvm.MethodName) jdk_42_method_155_code (2 : Nat) (Option.none : Option Jvm.ClassFile.FieldType)).before args0 about1 = true := code_word (m := ⟨11, 10⟩) (meth := k11m10) (c := k11c10) (by decide +kernel) rfl rfl rfl (by decide +kernel)
set_option maxRecDepth 65536 in
theorem w_c35 : (Jvm.Cond.code ({ cls := "jdk/internal/util/Preconditions", name := "checkIndex", desc := "(IILjava/util/function/BiFunction;)I" } : Jvm.MethodName) jdk_41_method_11_code (3 : Nat) (Option.some Jvm.ClassFile.FieldType.int)).before args0 about1 = true := code_word (m := ⟨18, 1⟩) (meth := k18m1) (c := k18c1) (by decide +kernel) rfl rfl rfl (by decide +kernel)
set_option maxRecDepth 65536 in
theorem w_c36 : (Jvm.Cond.code ({ cls := "com/example/capsa/capsa/benchmark/InputClassesSimpleNamePinLaw", name := "digit", desc := "(I)C" } : Jvm.MethodName) method_2_code (1 : Nat) (Option.some Jvm.ClassFile.FieldType.char)).before args0 about1 = true := code_word (m := ⟨1, 1⟩) (meth := k1m1) (c := k1c1) (by decide +kernel) rfl rfl rfl (by decide +kernel)
def codes1 : List Jvm.Cond := [Jvm.Cond.code x code maxLocals ret, Jvm.Cond.code ({ cls := "com/example/capsa/capsa/benchmark/InputClasses", name := "simpleName", desc := "(II)Ljava/lang/String;" } : Jvm.MethodName) prog_39_method_4_code (2 : Nat) (Option.some (Jvm.ClassFile.FieldType.object "java/lang/String")), Jvm.Cond.code ({ cls := "java/lang/StringBuilder", name := "<init>", desc := "()V" } : Jvm.MethodName) jdk_67_method_1_code (1 : Nat) (Option.none : Option Jvm.ClassFile.FieldType), Jvm.Cond.code ({ cls := "java/lang/AbstractStringBuilder", name := "<init>", desc := "(I)V" } : Jvm.MethodName) jdk_68_method_2_code (2 : Nat) (Option.none : Option Jvm.ClassFile.FieldType), Jvm.Cond.code ({ cls := "java/lang/Object", name := "<init>", desc := "()V" } : Jvm.MethodName) object_method_1_code (1 : Nat) (Option.none : Option Jvm.ClassFile.FieldType), Jvm.Cond.code ({ cls := "java/lang/StringBuilder", name := "append", desc := "(Ljava/lang/String;)Ljava/lang/StringBuilder;" } : Jvm.MethodName) jdk_67_method_7_code (2 : Nat) (Option.some (Jvm.ClassFile.FieldType.object "java/lang/StringBuilder")), Jvm.Cond.code ({ cls := "java/lang/AbstractStringBuilder", name := "append", desc := "(Ljava/lang/String;)Ljava/lang/AbstractStringBuilder;" } : Jvm.MethodName) jdk_68_method_22_code (3 : Nat) (Option.some (Jvm.ClassFile.FieldType.object "java/lang/AbstractStringBuilder")), Jvm.Cond.code ({ cls := "java/lang/String", name := "length", desc := "()I" } : Jvm.MethodName) jdk_42_method_54_code (1 : Nat) (Option.some Jvm.ClassFile.FieldType.int), Jvm.Cond.code ({ cls := "java/lang/String", name := "coder", desc := "()B" } : Jvm.MethodName) jdk_42_method_152_code (1 : Nat) (Option.some Jvm.ClassFile.FieldType.byte), Jvm.Cond.code ({ cls := "java/lang/AbstractStringBuilder", name := "ensureCapacityInternal", desc := "(I)V" } : Jvm.MethodName) jdk_68_method_9_code (3 : Nat) (Option.none : Option Jvm.ClassFile.FieldType), Jvm.Cond.code ({ cls := "java/lang/AbstractStringBuilder", name := "putStringAt", desc := "(ILjava/lang/String;)V" } : Jvm.MethodName) jdk_68_method_73_code (3 : Nat) (Option.none : Option Jvm.ClassFile.FieldType), Jvm.Cond.code ({ cls := "java/lang/AbstractStringBuilder", name := "inflateIfNeededFor", desc := "(Ljava/lang/String;)V" } : Jvm.MethodName) jdk_68_method_71_code (2 : Nat) (Option.none : Option Jvm.ClassFile.FieldType), Jvm.Cond.code ({ cls := "java/lang/String", name := "getBytes", desc := "([BIB)V" } : Jvm.MethodName) jdk_42_method_147_code (4 : Nat) (Option.none : Option Jvm.ClassFile.FieldType), Jvm.Cond.code ({ cls := "com/example/capsa/capsa/benchmark/InputClasses", name := "digits", desc := "(II)Ljava/lang/String;" } : Jvm.MethodName) prog_39_method_6_code (3 : Nat) (Option.some (Jvm.ClassFile.FieldType.object "java/lang/String")), Jvm.Cond.code ({ cls := "java/lang/Integer", name := "toString", desc := "(I)Ljava/lang/String;" } : Jvm.MethodName) jdk_33_method_10_code (3 : Nat) (Option.some (Jvm.ClassFile.FieldType.object "java/lang/String")), Jvm.Cond.code ({ cls := "java/lang/Integer", name := "stringSize", desc := "(I)I" } : Jvm.MethodName) jdk_33_method_13_code (4 : Nat) (Option.some Jvm.ClassFile.FieldType.int), Jvm.Cond.code ({ cls := "java/lang/Integer", name := "getChars", desc := "(II[B)I" } : Jvm.MethodName) jdk_33_method_12_code (7 : Nat) (Option.some Jvm.ClassFile.FieldType.int), Jvm.Cond.code ({ cls := "java/lang/String", name := "<init>", desc := "([BB)V" } : Jvm.MethodName) jdk_42_method_151_code (3 : Nat) (Option.none : Option Jvm.ClassFile.FieldType), Jvm.Cond.code ({ cls := "java/lang/String", name := "repeat", desc := "(I)Ljava/lang/String;" } : Jvm.MethodName) jdk_42_method_145_code (5 : Nat) (Option.some (Jvm.ClassFile.FieldType.object "java/lang/String")), Jvm.Cond.code ({ cls := "java/lang/StringBuilder", name := "toString", desc := "()Ljava/lang/String;" } : Jvm.MethodName) jdk_67_method_42_code (1 : Nat) (Option.some (Jvm.ClassFile.FieldType.object "java/lang/String")), Jvm.Cond.code ({ cls := "java/lang/String", name := "<init>", desc := "(Ljava/lang/StringBuilder;)V" } : Jvm.MethodName) jdk_42_method_53_code (2 : Nat) (Option.none : Option Jvm.ClassFile.FieldType), Jvm.Cond.code ({ cls := "java/lang/String", name := "<init>", desc := "(Ljava/lang/AbstractStringBuilder;Ljava/lang/Void;)V" } : Jvm.MethodName) jdk_42_method_150_code (5 : Nat) (Option.none : Option Jvm.ClassFile.FieldType), Jvm.Cond.code ({ cls := "java/lang/AbstractStringBuilder", name := "getValue", desc := "()[B" } : Jvm.MethodName) jdk_68_method_64_code (1 : Nat) (Option.some (Jvm.ClassFile.FieldType.array Jvm.ClassFile.FieldType.byte)), Jvm.Cond.code ({ cls := "java/lang/StringBuilder", name := "length", desc := "()I" } : Jvm.MethodName) jdk_67_method_93_code (1 : Nat) (Option.some Jvm.ClassFile.FieldType.int), Jvm.Cond.code ({ cls := "java/lang/AbstractStringBuilder", name := "length", desc := "()I" } : Jvm.MethodName) jdk_68_method_6_code (1 : Nat) (Option.some Jvm.ClassFile.FieldType.int), Jvm.Cond.code ({ cls := "java/lang/AbstractStringBuilder", name := "isLatin1", desc := "()Z" } : Jvm.MethodName) jdk_68_method_68_code (1 : Nat) (Option.some Jvm.ClassFile.FieldType.boolean), Jvm.Cond.code ({ cls := "java/util/Arrays", name := "copyOfRange", desc := "([BII)[B" } : Jvm.MethodName) jdk_65_method_132_code (3 : Nat) (Option.some (Jvm.ClassFile.FieldType.array Jvm.ClassFile.FieldType.byte)), Jvm.Cond.code ({ cls := "java/util/Arrays", name := "copyOfRangeByte", desc := "([BII)[B" } : Jvm.MethodName) jdk_65_method_133_code (5 : Nat) (Option.some (Jvm.ClassFile.FieldType.array Jvm.ClassFile.FieldType.byte)), Jvm.Cond.code ({ cls := "java/util/Arrays", name := "checkLength", desc := "(II)V" } : Jvm.MethodName) jdk_65_method_131_code (2 : Nat) (Option.none : Option Jvm.ClassFile.FieldType), Jvm.Cond.code ({ cls := "java/lang/Math", name := "min", desc := "(II)I" } : Jvm.MethodName) jdk_29_method_69_code (2 : Nat) (Option.some Jvm.ClassFile.FieldType.int), Jvm.Cond.code ({ cls := "java/util/Arrays", name := "fill", desc := "([BB)V" } : Jvm.MethodName) jdk_65_method_109_code (4 : Nat) (Option.none : Option Jvm.ClassFile.FieldType), Jvm.Cond.code ({ cls := "java/lang/String", name := "charAt", desc := "(I)C" } : Jvm.MethodName) jdk_42_method_56_code (2 : Nat) (Option.some Jvm.ClassFile.FieldType.char), Jvm.Cond.code ({ cls := "java/lang/String", name := "isLatin1", desc := "()Z" } : Jvm.MethodName) jdk_42_method_154_code (1 : Nat) (Option.some Jvm.ClassFile.FieldType.boolean), Jvm.Cond.code ({ cls := "java/lang/StringLatin1", name := "charAt", desc := "([BI)C" } : Jvm.MethodName) jdk_43_method_2_code (2 : Nat) (Option.some Jvm.ClassFile.FieldType.char), Jvm.Cond.code ({ cls := "java/lang/String", name := "checkIndex", desc := "(II)V" } : Jvm.MethodName) jdk_42_method_155_code (2 : Nat) (Option.none : Option Jvm.ClassFile.FieldType), Jvm.Cond.code ({ cls := "jdk/internal/util/Preconditions", name := "checkIndex", desc := "(IILjava/util/function/BiFunction;)I" } : Jvm.MethodName) jdk_41_method_11_code (3 : Nat) (Option.some Jvm.ClassFile.FieldType.int), Jvm.Cond.code ({ cls := "com/example/capsa/capsa/benchmark/InputClassesSimpleNamePinLaw", name := "digit", desc := "(I)C" } : Jvm.MethodName) method_2_code (1 : Nat) (Option.some Jvm.ClassFile.FieldType.char)]
set_option maxRecDepth 65536 in
theorem codes_eq : words1.filter isCode = codes1 := rfl
theorem w_codes : ∀ c ∈ words1.filter isCode, c.before args0 about1 = true := by
  rw [codes_eq]
  intro c hc
  simp only [codes1, List.mem_cons, List.not_mem_nil, or_false] at hc
  rcases hc with rfl | rfl | rfl | rfl | rfl | rfl | rfl | rfl | rfl | rfl | rfl | rfl | rfl | rfl | rfl | rfl | rfl | rfl | rfl | rfl | rfl | rfl | rfl | rfl | rfl | rfl | rfl | rfl | rfl | rfl | rfl | rfl | rfl | rfl | rfl | rfl | rfl
  · exact w_c0
  · exact w_c1
  · exact w_c2
  · exact w_c3
  · exact w_c4
  · exact w_c5
  · exact w_c6
  · exact w_c7
  · exact w_c8
  · exact w_c9
  · exact w_c10
  · exact w_c11
  · exact w_c12
  · exact w_c13
  · exact w_c14
  · exact w_c15
  · exact w_c16
  · exact w_c17
  · exact w_c18
  · exact w_c19
  · exact w_c20
  · exact w_c21
  · exact w_c22
  · exact w_c23
  · exact w_c24
  · exact w_c25
  · exact w_c26
  · exact w_c27
  · exact w_c28
  · exact w_c29
  · exact w_c30
  · exact w_c31
  · exact w_c32
  · exact w_c33
  · exact w_c34
  · exact w_c35
  · exact w_c36
set_option maxRecDepth 65536 in
theorem w_t1 : (words1.take 24).all (fun c => isCode c || c.before args0 about1) = true := by decide +kernel
set_option maxRecDepth 65536 in
theorem w_t2 : ((words1.drop 24).take 24).all (fun c => isCode c || c.before args0 about1) = true := by decide +kernel
set_option maxRecDepth 65536 in
theorem w_t3 : (((words1.drop 24).drop 24).take 24).all (fun c => isCode c || c.before args0 about1) = true := by decide +kernel
set_option maxRecDepth 65536 in
theorem w_t4 : ((((words1.drop 24).drop 24).drop 24).take 24).all (fun c => isCode c || c.before args0 about1) = true := by decide +kernel
set_option maxRecDepth 65536 in
theorem w_t5 : (((((words1.drop 24).drop 24).drop 24).drop 24).take 24).all (fun c => isCode c || c.before args0 about1) = true := by decide +kernel
set_option maxRecDepth 65536 in
theorem w_t6 : ((((((words1.drop 24).drop 24).drop 24).drop 24).drop 24).take 24).all (fun c => isCode c || c.before args0 about1) = true := by decide +kernel
set_option maxRecDepth 65536 in
theorem w_t7 : (((((((words1.drop 24).drop 24).drop 24).drop 24).drop 24).drop 24).take 24).all (fun c => isCode c || c.before args0 about1) = true := by decide +kernel
set_option maxRecDepth 65536 in
theorem w_t8 : ((((((((words1.drop 24).drop 24).drop 24).drop 24).drop 24).drop 24).drop 24).take 24).all (fun c => isCode c || c.before args0 about1) = true := by decide +kernel
set_option maxRecDepth 65536 in
theorem w_t9 : ((((((((words1.drop 24).drop 24).drop 24).drop 24).drop 24).drop 24).drop 24).drop 24).all (fun c => isCode c || c.before args0 about1) = true := by decide +kernel
theorem w_tables : (allAtoms (Jvm.Cond.code x code maxLocals ret :: tables_1)).before args0 about1 = true := by
  rw [allAtoms_all]
  show words1.all (fun c => c.before args0 about1) = true
  refine all_split ?_ w_codes
  rw [← List.take_append_drop 24 words1, List.all_append, w_t1, ← List.take_append_drop 24 (words1.drop 24), List.all_append, w_t2, ← List.take_append_drop 24 ((words1.drop 24).drop 24), List.all_append, w_t3, ← List.take_append_drop 24 (((words1.drop 24).drop 24).drop 24), List.all_append, w_t4, ← List.take_append_drop 24 ((((words1.drop 24).drop 24).drop 24).drop 24), List.all_append, w_t5, ← List.take_append_drop 24 (((((words1.drop 24).drop 24).drop 24).drop 24).drop 24), List.all_append, w_t6, ← List.take_append_drop 24 ((((((words1.drop 24).drop 24).drop 24).drop 24).drop 24).drop 24), List.all_append, w_t7, ← List.take_append_drop 24 (((((((words1.drop 24).drop 24).drop 24).drop 24).drop 24).drop 24).drop 24), List.all_append, w_t8, w_t9]
  rfl
set_option maxRecDepth 65536 in
theorem w_rest : rest_1_c.before args0 about1 = true := by decide +kernel
set_option maxRecDepth 65536 in
theorem w_case : (Jvm.Cond.and given_1 narrow_1).before args0 about1 = true := by decide +kernel
set_option maxRecDepth 65536 in
theorem w_consts : constsHeld consts_1 about1 := Jvm.Lit.constsHeldB_iff.mp (by decide +kernel)
theorem w_applies : (headSpec (Jvm.Cond.code x code maxLocals ret :: tables_1) room_1).applies x e0.platform about1 = true :=
  (Spec.applies_iff w_frames).mpr ⟨w_running, w_runnable, w_alone, w_named, w_hears, w_ripe, w_room, w_tables⟩
theorem atStart : AtStart classFile x code maxLocals ret World_1 tables_1 room_1 Calls_1 rest_1 Pre_1 launch0 p0 e0 about1 theMethod args0 below0 :=
  ⟨lists_1, trivial, launch0.admits_env _ _ _, launch0.least_env, fairChoices_fair.cas, fairChoices_fair.clock, w_frames, w_args, w_heap, w_applies, ⟨w_consts, trivial⟩, w_rest, w_case⟩
end start1
theorem witness_1 : WitnessClaimed_1 := ⟨start1.p0, start1.e0, start1.about1, start1.theMethod, start1.args0, start1.below0, start1.atStart⟩
end Jvm.Pilot.@@N@@
