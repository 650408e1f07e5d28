import JvmDerived
import JvmDerived.Pilot.@@N@@Statement
import JvmDerived.Pilot.@@N@@Code
set_option linter.unusedVariables false
set_option linter.unusedSimpArgs false
namespace Jvm.RoadKit
theorem Ext.refl (h : Heap) : Ext h h := ⟨Nat.le_refl _, fun _ _ q => q⟩
theorem Ext.trans {h h1 h2 : Heap} (A : Ext h h1) (B : Ext h1 h2) : Ext h h2 := ⟨Nat.le_trans A.1 B.1, fun a c q => B.2 a c (A.2 a c q)⟩
end Jvm.RoadKit
namespace Jvm.OwnKit
open Sem ClassFile Op Lib Jvm.Stand Jvm.Free Jvm.LawKit Jvm.RoadKit

/-- where the walk stands: the tables so far, nothing old written, the String constants held, the objects under construction -/
def St (p : Program) (l : Launch) (e : Env) (R : Room) (s : State) (m : MethodId) (args : Array Value) (below : List Frame) (meth : Method) (c : Code)
    (own : String) (bytes : ByteArray) (maxL : Nat) (ret : Option FieldType) (nm : String) (Z : State) (EL : List (String × Nat)) (nw : Bool) (us : List Addr) (bs : List (String × Nat × Addr))
    (T : State) (h : Heap) (cells slots : Nat) : Prop :=
  (p.tables.exec = Jvm.exec ∧ c.code = bytes ∧ c.maxLocals = maxL ∧ meth.sig.returnType = ret ∧ meth.name = nm ∧ meth.locks = false ∧ ∃ a0, EW Z a0 EL) ∧
  ∃ (vm0 : Vm) (locs : List Loc), Stand p l e R (s.setVm vm0) m args below meth c T locs cells slots ∧ Fr Z.heap.size locs ∧ T.heap = h ∧ s.Since vm0 h.size ∧
    Z.Warmed39 vm0 ∧ vm0.findClass own = some m.cls ∧ Ext Z.heap h ∧ CHr Z EL s.vm s.heap vm0 h ∧
    (∀ x ∈ us, Z.heap.size ≤ x ∧ x < h.size ∧ Safe Z EL vm0 h x) ∧ (nw = true → s.WarmedH vm0) ∧ ∀ q ∈ bs, Lit (s.setVm vm0) q.1 q.2.1 q.2.2

/-- from here the method returns, with Q of what it returns and of the heap it leaves -/
def Goes (p : Program) (e : Env) (below : List Frame) (s Z : State) (EL : List (String × Nat)) (nw : Bool) (Q : Option Value → Heap → Prop) (kk nn : Nat) (S : State) : Prop :=
  ∃ U o, Steps p.tables e below S U ∧ U.status = .running ∧ Ended U below o ∧ ∃ v L, o = .returned v ∧ Q v U.heap ∧ Fr Z.heap.size L ∧ Ext Z.heap U.heap ∧
    CHr Z EL s.vm s.heap U.vm U.heap ∧ ReturnedEndW s o U L kk nn ∧ (nw = true → s.WarmedH U.vm)

/-- the contract of a method for the arguments as' at the heap h -/
def Ctr (l : Launch) (Z : State) (EL : List (String × Nat)) (nw : Bool) (y : MethodName) (bytes : ByteArray) (maxL : Nat) (ret : Option FieldType) (rm : Room) (as' : Array Value) (h : Heap) (us : List Addr)
    (Q : Option Value → Heap → Prop) : Prop :=
  ∀ ws : List Jvm.Cond, MetFree l y (head1 (Jvm.Cond.code y bytes maxL ret :: ws) rm)
    (fun a U => a = as' ∧ Z.Warmed39 U.vm ∧ U.heap = h ∧ Ext Z.heap h ∧ CHv Z EL U.vm h ∧ ∀ x ∈ us, Z.heap.size ≤ x ∧ x < h.size ∧ Safe Z EL U.vm h x)
    (fun _ _ _ _ _ => True)
    (fun _ U o U' => ∃ v L, o = .returned v ∧ Q v U'.heap ∧ Fr Z.heap.size L ∧ Ext Z.heap U'.heap ∧ CHr Z EL U.vm U.heap U'.vm U'.heap ∧ ReturnedEndW U o U' L rm.cells rm.slots ∧ (nw = true → U.WarmedH U'.vm))

def PureQ (h : Heap) (Qv : Value → Prop) : Option Value → Heap → Prop := fun v h' => h' = h ∧ ∃ w, v = some w ∧ Qv w
def ValQ (Qv : Value → Heap → Prop) : Option Value → Heap → Prop := fun v h' => ∃ w, v = some w ∧ Qv w h'
def VoidQ (Qn : Heap → Prop) : Option Value → Heap → Prop := fun v h' => v = none ∧ Qn h'
section Base
variable {p : Program} {l : Launch} {e : Env} {R : Room} {s : State} {m : MethodId} {args : Array Value} {below : List Frame} {meth : Method} {c : Code}
  {own : String} {bytes : ByteArray} {maxL : Nat} {ret : Option FieldType} {nm : String} {Z : State} {EL : List (String × Nat)} {nw : Bool} {us : List Addr} {bs : List (String × Nat × Addr)}
  {T : State} {h : Heap} {cells slots : Nat} {Q : Option Value → Heap → Prop} {kk nn : Nat} {a0 : Array Value}

theorem ext_keep {h h1 h2 : Heap} {ws : List Addr} (A : Ext h h1) (K : Keep h1 h2 ws) (q : ∀ x ∈ ws, h.size ≤ x) : Ext h h2 :=
  ⟨Nat.le_trans A.1 K.1, fun a c r => K.2.1 a c (A.2 a c r) fun z => absurd (Array.getElem?_eq_some_iff.mp r).1 (Nat.not_lt.mpr (q a z))⟩
theorem ext_wr {h h1 h2 : Heap} {a : Addr} {sl : Nat} {v : Value} (A : Ext h h1) (W : Wr h1 h2 a sl v) (q : h.size ≤ a) : Ext h h2 :=
  ext_keep A (Keep.of_wr W) (fun x hx => by cases List.mem_singleton.mp hx; exact q)
theorem nar_mask (x : Int32) : nar .char (x &&& 255) = x &&& 255 := i2c_mask x
theorem ref_nar {v : Value} {t : FieldType} (h : v.isRef = true) (ht : t.isReference = true) : narrow t v = v := by
  rcases ref_cases h with rfl | ⟨a, rfl⟩ <;> cases t <;> first | rfl | simp [FieldType.isReference] at ht
theorem ref_fit {v : Value} {t : FieldType} (h : v.isRef = true) (ht : t.isReference = true) : fits t v = true := by
  rcases ref_cases h with rfl | ⟨a, rfl⟩ <;> cases t <;> first | rfl | simp [FieldType.isReference] at ht
theorem Sta.keepN {h1 h2 : Heap} {C n d : String} {v : Value} {ws : List Addr} (F : Sta Z Z.heap C n d v) (E : Ext Z.heap h2) : Sta Z h2 C n d v := Sta.ext E F

theorem St.at (X : St p l e R s m args below meth c own bytes maxL ret nm Z EL nw us bs T h cells slots) : At T m c below := by obtain ⟨-, _, _, Y, -⟩ := X; exact Y.here
theorem St.std (X : St p l e R s m args below meth c own bytes maxL ret nm Z EL nw us bs T h cells slots) : ∃ vm0 locs, Stand p l e R (s.setVm vm0) m args below meth c T locs cells slots := by obtain ⟨-, vm0, locs, Y, -⟩ := X; exact ⟨vm0, locs, Y⟩
theorem St.hx (X : St p l e R s m args below meth c own bytes maxL ret nm Z EL nw us bs T h cells slots) : p.tables.exec = Jvm.exec := X.1.1
theorem St.by (X : St p l e R s m args below meth c own bytes maxL ret nm Z EL nw us bs T h cells slots) : c.code = bytes := X.1.2.1
theorem St.old (X : St p l e R s m args below meth c own bytes maxL ret nm Z EL nw us bs T h cells slots) : Ext Z.heap h := by obtain ⟨-, _, _, -, -, -, -, -, -, q, -⟩ := X; exact q
theorem St.new (X : St p l e R s m args below meth c own bytes maxL ret nm Z EL nw us bs T h cells slots) {x : Addr} (hx : x ∈ us) : Z.heap.size ≤ x ∧ x < h.size := by
  obtain ⟨-, _, _, -, -, -, -, -, -, -, -, q, -⟩ := X; exact ⟨(q x hx).1, (q x hx).2.1⟩
theorem St.mono (X : St p l e R s m args below meth c own bytes maxL ret nm Z EL nw us bs T h cells slots) {cells' slots' : Nat} (hc : cells ≤ cells') (hs : slots ≤ slots') : St p l e R s m args below meth c own bytes maxL ret nm Z EL nw us bs T h cells' slots' := by
  obtain ⟨cx, vm0, locs, Y, r⟩ := X
  exact ⟨cx, vm0, locs, Y.mono hc hs, r⟩
theorem St.sub (X : St p l e R s m args below meth c own bytes maxL ret nm Z EL nw us bs T h cells slots) {us' : List Addr} (q : ∀ x ∈ us', x ∈ us) : St p l e R s m args below meth c own bytes maxL ret nm Z EL nw us' bs T h cells slots := by
  obtain ⟨cx, vm0, locs, Y, r1, r2, r3, r4, r5, r6, r7, r8, r9⟩ := X
  exact ⟨cx, vm0, locs, Y, r1, r2, r3, r4, r5, r6, r7, fun x hx => r8 x (q x hx), r9⟩

theorem Goes.step {S S' : State} (f : ∀ t, Steps p.tables e below S' t → Steps p.tables e below S t) (K : Goes p e below s Z EL nw Q kk nn S') : Goes p e below s Z EL nw Q kk nn S := by
  obtain ⟨U, o, hs, r⟩ := K; exact ⟨U, o, f _ hs, r⟩
theorem Goes.imp {Q' : Option Value → Heap → Prop} {S : State} (f : ∀ v h, Q v h → Q' v h) (K : Goes p e below s Z EL nw Q kk nn S) : Goes p e below s Z EL nw Q' kk nn S := by
  obtain ⟨U, o, h1, h2, h3, v, L, h4, h5, r⟩ := K; exact ⟨U, o, h1, h2, h3, v, L, h4, f _ _ h5, r⟩

/-- entering a method -/
theorem Ctr.enter {y : MethodName} {rm : Room} {as' : Array Value} (h1 : y.cls = own) (h2 : y.name = nm) (hEL : EW Z a0 EL) (hn : plainFor y = true) (Ls : Array Slot) (ef : ∀ m, entryFrame m as' maxL = mkF m 0 Ls [])
    (body : ∀ (p : Program) (e : Env) (s : State) (m : MethodId) (below : List Frame) (meth : Method) (c : Code) (T : State),
      St p l e rm s m as' below meth c own bytes maxL ret nm Z EL nw us [] T h 0 0 → Goes p e below s Z EL nw Q rm.cells rm.slots (T.setTop (mkF m 0 Ls []))) :
    Ctr l Z EL nw y bytes maxL ret rm as' h us Q := by
  subst h1 h2
  intro ws
  refine MetFree.of_bodySF hn hisR ?_
  intro p e s m args below meth c s₁ Bd hml0 hP _
  obtain ⟨rfl, hZ, hh, hE, hC, hU⟩ := hP
  have hnm := (name_of_methodNamed Bd.named Bd.method).1
  have hown : s.vm.findClass y.cls = some m.cls := findClass_of_methodNamed Bd.named
  have e0 : s₁.heap = h := by rw [← hh, Bd.state]; rfl
  have X0 : Stand p l e rm (s.setVm s.vm) m args below meth c s₁ [] 0 0 := Stand.of_body Bd
  have X : St p l e rm s m args below meth c y.cls bytes maxL ret y.name Z EL nw us [] s₁ h 0 0 :=
    ⟨⟨Bd.exec, Bd.bytes, hml0, Bd.returns, hnm, Bd.notSynchronized, a0, hEL⟩, s.vm, [], X0, Fr.nil _, e0, (State.WarmedH.refl s).since _, hZ, hown, hE, by rw [hh]; exact CHr.refl hC, hU, fun _ => State.WarmedH.refl s, fun _ q => by cases q⟩
  obtain ⟨U, o, h1, h2, h3, h4⟩ := body p e s m below meth c s₁ X
  refine ⟨U, o, ?_, h2, h3, h4⟩
  rw [ef m]; exact h1

theorem leave0 (X : St p l e R s m args below meth c own bytes maxL ret nm Z EL nw us bs T h cells slots) {v : Option Value} (hv : ret = none → v = none) (hc : cells ≤ kk) (hn : slots ≤ nn) (hQ : Q v h)
    {S : State} (f : ∀ fs, (∀ (f : JFrame) (acts : List Action), f.method = m → f.locked = none → f.entered = [] → (doReturn e (T.setTop f) acts v).1 = T.setFrames fs) → Steps p.tables e below S (T.setFrames fs)) :
    Goes p e below s Z EL nw Q kk nn S := by
  obtain ⟨⟨h1, h2, h3, h4, h5, h6, a0', hEL⟩, vm0, locs, Y, N, eT, hS, hZ, hown, hE, hC, hU, hW⟩ := X
  have Y' := Y.mono hc hn
  obtain ⟨fs, g1, g2, g3, g4⟩ := Y'.leaveW hS (Nat.le_of_eq (by rw [eT])) (v := v) (fun q => hv (h4 ▸ q)) h6
  have hal : CHr Z EL s.vm s.heap (T.setFrames fs).vm (T.setFrames fs).heap := by
    show CHr Z EL s.vm s.heap T.vm T.heap
    rw [eT]
    exact hC.trans (CHv.at Y hZ hEL hC.1)
  exact ⟨_, _, f fs g1, g2, g3, v, locs, rfl, by show Q v T.heap; rw [eT]; exact hQ, N, by show Ext Z.heap T.heap; rw [eT]; exact hE, hal, g4, fun q => State.WarmedH.trans (t := s.setVm vm0) (hW.1 q) Y.warmed⟩
end Base
section Ops
variable {p : Program} {l : Launch} {e : Env} {R : Room} {s : State} {m : MethodId} {args : Array Value} {below : List Frame} {meth : Method} {c : Code}
  {own : String} {bytes : ByteArray} {maxL : Nat} {ret : Option FieldType} {nm : String} {Z : State} {EL : List (String × Nat)} {nw : Bool} {us : List Addr} {bs : List (String × Nat × Addr)}
  {T : State} {h : Heap} {cells slots : Nat} {Q : Option Value → Heap → Prop} {kk nn : Nat} {a0 : Array Value} {pc : Nat} {Ls : Array Slot} {st : List Value}
theorem g_aload (X : St p l e R s m args below meth c own bytes maxL ret nm Z EL nw us bs T h cells slots) {k : Nat} {v : Value} (hd : decode bytes pc = .ok (.aload k, 2)) (hl : Ls[k]? = some (.val v)) (hv : v.isRef = true) (pc' : Nat) (hp : pc + 2 = pc')
    (K : Goes p e below s Z EL nw Q kk nn (T.setTop (mkF m pc' Ls (v :: st)))) : Goes p e below s Z EL nw Q kk nn (T.setTop (mkF m pc Ls (st))) := by
  subst hp
  exact K.step fun t k => XS.aload X.at X.hx rfl (hb X.by hd) hl hv k

theorem g_aloadN (X : St p l e R s m args below meth c own bytes maxL ret nm Z EL nw us bs T h cells slots) {k : Fin 4} {v : Value} (hd : decode bytes pc = .ok (.aload_n k, 1)) (hl : Ls[k.val]? = some (.val v)) (hv : v.isRef = true) (pc' : Nat) (hp : pc + 1 = pc')
    (K : Goes p e below s Z EL nw Q kk nn (T.setTop (mkF m pc' Ls (v :: st)))) : Goes p e below s Z EL nw Q kk nn (T.setTop (mkF m pc Ls (st))) := by
  subst hp
  exact K.step fun t k => XS.aloadN X.at X.hx rfl (hb X.by hd) hl hv k

theorem g_iload (X : St p l e R s m args below meth c own bytes maxL ret nm Z EL nw us bs T h cells slots) {k : Nat} {v : Int32} (hd : decode bytes pc = .ok (.iload k, 2)) (hl : Ls[k]? = some (.val (.int v))) (pc' : Nat) (hp : pc + 2 = pc')
    (K : Goes p e below s Z EL nw Q kk nn (T.setTop (mkF m pc' Ls (.int v :: st)))) : Goes p e below s Z EL nw Q kk nn (T.setTop (mkF m pc Ls (st))) := by
  subst hp
  exact K.step fun t k => XS.iload X.at X.hx rfl (hb X.by hd) hl k

theorem g_iloadN (X : St p l e R s m args below meth c own bytes maxL ret nm Z EL nw us bs T h cells slots) {k : Fin 4} {v : Int32} (hd : decode bytes pc = .ok (.iload_n k, 1)) (hl : Ls[k.val]? = some (.val (.int v))) (pc' : Nat) (hp : pc + 1 = pc')
    (K : Goes p e below s Z EL nw Q kk nn (T.setTop (mkF m pc' Ls (.int v :: st)))) : Goes p e below s Z EL nw Q kk nn (T.setTop (mkF m pc Ls (st))) := by
  subst hp
  exact K.step fun t k => XS.iloadN X.at X.hx rfl (hb X.by hd) hl k

theorem g_istore (X : St p l e R s m args below meth c own bytes maxL ret nm Z EL nw us bs T h cells slots) {k : Nat} {x : Int32} {Ls' : Array Slot} (hd : decode bytes pc = .ok (.istore k, 2)) (hl : storeLocals Ls k (.int x) = some Ls') (pc' : Nat) (hp : pc + 2 = pc')
    (K : Goes p e below s Z EL nw Q kk nn (T.setTop (mkF m pc' Ls' (st)))) : Goes p e below s Z EL nw Q kk nn (T.setTop (mkF m pc Ls (.int x :: st))) := by
  subst hp
  exact K.step fun t k => XS.istore X.at X.hx rfl (hb X.by hd) rfl hl k

theorem g_istoreN (X : St p l e R s m args below meth c own bytes maxL ret nm Z EL nw us bs T h cells slots) {k : Fin 4} {x : Int32} {Ls' : Array Slot} (hd : decode bytes pc = .ok (.istore_n k, 1)) (hl : storeLocals Ls k.val (.int x) = some Ls') (pc' : Nat) (hp : pc + 1 = pc')
    (K : Goes p e below s Z EL nw Q kk nn (T.setTop (mkF m pc' Ls' (st)))) : Goes p e below s Z EL nw Q kk nn (T.setTop (mkF m pc Ls (.int x :: st))) := by
  subst hp
  exact K.step fun t k => XS.istoreN X.at X.hx rfl (hb X.by hd) rfl hl k

theorem g_astore (X : St p l e R s m args below meth c own bytes maxL ret nm Z EL nw us bs T h cells slots) {k : Nat} {x : Value} {Ls' : Array Slot} (hd : decode bytes pc = .ok (.astore k, 2)) (hv : x.isRef = true) (hl : storeLocals Ls k x = some Ls') (pc' : Nat) (hp : pc + 2 = pc')
    (K : Goes p e below s Z EL nw Q kk nn (T.setTop (mkF m pc' Ls' (st)))) : Goes p e below s Z EL nw Q kk nn (T.setTop (mkF m pc Ls (x :: st))) := by
  subst hp
  exact K.step fun t k => XS.astore X.at X.hx rfl (hb X.by hd) rfl hv hl k

theorem g_astoreN (X : St p l e R s m args below meth c own bytes maxL ret nm Z EL nw us bs T h cells slots) {k : Fin 4} {x : Value} {Ls' : Array Slot} (hd : decode bytes pc = .ok (.astore_n k, 1)) (hv : x.isRef = true) (hl : storeLocals Ls k.val x = some Ls') (pc' : Nat) (hp : pc + 1 = pc')
    (K : Goes p e below s Z EL nw Q kk nn (T.setTop (mkF m pc' Ls' (st)))) : Goes p e below s Z EL nw Q kk nn (T.setTop (mkF m pc Ls (x :: st))) := by
  subst hp
  exact K.step fun t k => XS.astoreN X.at X.hx rfl (hb X.by hd) rfl hv hl k

theorem g_iconst (X : St p l e R s m args below meth c own bytes maxL ret nm Z EL nw us bs T h cells slots) {i : Int} (w : Int32) (hd : decode bytes pc = .ok (.iconst i, 1)) (hw : Int32.ofInt i = w) (pc' : Nat) (hp : pc + 1 = pc')
    (K : Goes p e below s Z EL nw Q kk nn (T.setTop (mkF m pc' Ls (.int w :: st)))) : Goes p e below s Z EL nw Q kk nn (T.setTop (mkF m pc Ls (st))) := by
  subst hp
  exact K.step fun t k => XS.iconst X.at X.hx rfl (hb X.by hd) (by rw [hw]; exact k)

theorem g_bipush (X : St p l e R s m args below meth c own bytes maxL ret nm Z EL nw us bs T h cells slots) {i : Int} (w : Int32) (hd : decode bytes pc = .ok (.bipush i, 2)) (hw : (Int8.ofInt i).toInt32 = w) (pc' : Nat) (hp : pc + 2 = pc')
    (K : Goes p e below s Z EL nw Q kk nn (T.setTop (mkF m pc' Ls (.int w :: st)))) : Goes p e below s Z EL nw Q kk nn (T.setTop (mkF m pc Ls (st))) := by
  subst hp
  exact K.step fun t k => XS.bipush X.at X.hx rfl (hb X.by hd) (by rw [hw]; exact k)

theorem g_sipush (X : St p l e R s m args below meth c own bytes maxL ret nm Z EL nw us bs T h cells slots) {i : Int} (w : Int32) (hd : decode bytes pc = .ok (.sipush i, 3)) (hw : (Int16.ofInt i).toInt32 = w) (pc' : Nat) (hp : pc + 3 = pc')
    (K : Goes p e below s Z EL nw Q kk nn (T.setTop (mkF m pc' Ls (.int w :: st)))) : Goes p e below s Z EL nw Q kk nn (T.setTop (mkF m pc Ls (st))) := by
  subst hp
  exact K.step fun t k => XS.sipush X.at X.hx rfl (hb X.by hd) (by rw [hw]; exact k)

theorem g_aconstNull (X : St p l e R s m args below meth c own bytes maxL ret nm Z EL nw us bs T h cells slots)  (hd : decode bytes pc = .ok (.aconst_null, 1))  (pc' : Nat) (hp : pc + 1 = pc')
    (K : Goes p e below s Z EL nw Q kk nn (T.setTop (mkF m pc' Ls (.null :: st)))) : Goes p e below s Z EL nw Q kk nn (T.setTop (mkF m pc Ls (st))) := by
  subst hp
  exact K.step fun t k => XS.aconstNull X.at X.hx rfl (hb X.by hd) k

theorem g_iadd (X : St p l e R s m args below meth c own bytes maxL ret nm Z EL nw us bs T h cells slots) {x y : Int32} (hd : decode bytes pc = .ok (.iadd, 1)) (w : Int32) (hw : x + y = w) (pc' : Nat) (hp : pc + 1 = pc')
    (K : Goes p e below s Z EL nw Q kk nn (T.setTop (mkF m pc' Ls (.int w :: st)))) : Goes p e below s Z EL nw Q kk nn (T.setTop (mkF m pc Ls (.int y :: .int x :: st))) := by
  subst hp
  exact K.step fun t k => XS.iadd X.at X.hx rfl (hb X.by hd) rfl (by rw [hw]; exact k)

theorem g_isub (X : St p l e R s m args below meth c own bytes maxL ret nm Z EL nw us bs T h cells slots) {x y : Int32} (hd : decode bytes pc = .ok (.isub, 1)) (w : Int32) (hw : x - y = w) (pc' : Nat) (hp : pc + 1 = pc')
    (K : Goes p e below s Z EL nw Q kk nn (T.setTop (mkF m pc' Ls (.int w :: st)))) : Goes p e below s Z EL nw Q kk nn (T.setTop (mkF m pc Ls (.int y :: .int x :: st))) := by
  subst hp
  exact K.step fun t k => XS.isub X.at X.hx rfl (hb X.by hd) rfl (by rw [hw]; exact k)

theorem g_iand (X : St p l e R s m args below meth c own bytes maxL ret nm Z EL nw us bs T h cells slots) {x y : Int32} (hd : decode bytes pc = .ok (.iand, 1)) (w : Int32) (hw : x &&& y = w) (pc' : Nat) (hp : pc + 1 = pc')
    (K : Goes p e below s Z EL nw Q kk nn (T.setTop (mkF m pc' Ls (.int w :: st)))) : Goes p e below s Z EL nw Q kk nn (T.setTop (mkF m pc Ls (.int y :: .int x :: st))) := by
  subst hp
  exact K.step fun t k => XS.iand X.at X.hx rfl (hb X.by hd) rfl (by rw [hw]; exact k)

theorem g_imul (X : St p l e R s m args below meth c own bytes maxL ret nm Z EL nw us bs T h cells slots) {x y : Int32} (hd : decode bytes pc = .ok (.imul, 1)) (w : Int32) (hw : x * y = w) (pc' : Nat) (hp : pc + 1 = pc')
    (K : Goes p e below s Z EL nw Q kk nn (T.setTop (mkF m pc' Ls (.int w :: st)))) : Goes p e below s Z EL nw Q kk nn (T.setTop (mkF m pc Ls (.int y :: .int x :: st))) := by
  subst hp
  exact K.step fun t k => XS.imul X.at X.hx rfl (hb X.by hd) rfl (by rw [hw]; exact k)

theorem g_ixor (X : St p l e R s m args below meth c own bytes maxL ret nm Z EL nw us bs T h cells slots) {x y : Int32} (hd : decode bytes pc = .ok (.ixor, 1)) (w : Int32) (hw : x ^^^ y = w) (pc' : Nat) (hp : pc + 1 = pc')
    (K : Goes p e below s Z EL nw Q kk nn (T.setTop (mkF m pc' Ls (.int w :: st)))) : Goes p e below s Z EL nw Q kk nn (T.setTop (mkF m pc Ls (.int y :: .int x :: st))) := by
  subst hp
  exact K.step fun t k => XT.ixor X.at X.hx rfl (hb X.by hd) rfl (by rw [hw]; exact k)

theorem g_ior (X : St p l e R s m args below meth c own bytes maxL ret nm Z EL nw us bs T h cells slots) {x y : Int32} (hd : decode bytes pc = .ok (.ior, 1)) (w : Int32) (hw : x ||| y = w) (pc' : Nat) (hp : pc + 1 = pc')
    (K : Goes p e below s Z EL nw Q kk nn (T.setTop (mkF m pc' Ls (.int w :: st)))) : Goes p e below s Z EL nw Q kk nn (T.setTop (mkF m pc Ls (.int y :: .int x :: st))) := by
  subst hp
  exact K.step fun t k => XT.ior X.at X.hx rfl (hb X.by hd) rfl (by rw [hw]; exact k)

theorem g_irem (X : St p l e R s m args below meth c own bytes maxL ret nm Z EL nw us bs T h cells slots) {x y : Int32} (hd : decode bytes pc = .ok (.irem, 1)) (hy : y ≠ 0) (w : Int32) (hw : x % y = w) (pc' : Nat) (hp : pc + 1 = pc')
    (K : Goes p e below s Z EL nw Q kk nn (T.setTop (mkF m pc' Ls (.int w :: st)))) : Goes p e below s Z EL nw Q kk nn (T.setTop (mkF m pc Ls (.int y :: .int x :: st))) := by
  subst hp hw
  obtain ⟨vm0, locs, Y⟩ := X.std
  exact K.step fun t k => iremM Y X.hx rfl (hb X.by hd) rfl hy k

theorem g_idiv (X : St p l e R s m args below meth c own bytes maxL ret nm Z EL nw us bs T h cells slots) {x y : Int32} (hd : decode bytes pc = .ok (.idiv, 1)) (hy : y ≠ 0) (w : Int32) (hw : x / y = w) (pc' : Nat) (hp : pc + 1 = pc')
    (K : Goes p e below s Z EL nw Q kk nn (T.setTop (mkF m pc' Ls (.int w :: st)))) : Goes p e below s Z EL nw Q kk nn (T.setTop (mkF m pc Ls (.int y :: .int x :: st))) := by
  subst hp
  exact K.step fun t k => XS.idiv X.at X.hx rfl (hb X.by hd) rfl hy (by rw [hw]; exact k)

theorem g_ineg (X : St p l e R s m args below meth c own bytes maxL ret nm Z EL nw us bs T h cells slots) {x : Int32} (hd : decode bytes pc = .ok (.ineg, 1)) (w : Int32) (hw : -x = w) (pc' : Nat) (hp : pc + 1 = pc')
    (K : Goes p e below s Z EL nw Q kk nn (T.setTop (mkF m pc' Ls (.int w :: st)))) : Goes p e below s Z EL nw Q kk nn (T.setTop (mkF m pc Ls (.int x :: st))) := by
  subst hp
  exact K.step fun t k => XS.ineg X.at X.hx rfl (hb X.by hd) rfl (by rw [hw]; exact k)

theorem g_iushr (X : St p l e R s m args below meth c own bytes maxL ret nm Z EL nw us bs T h cells slots) {x y : Int32} (hd : decode bytes pc = .ok (.iushr, 1)) (w : Int32) (hw : XT.ushr x y = w) (pc' : Nat) (hp : pc + 1 = pc')
    (K : Goes p e below s Z EL nw Q kk nn (T.setTop (mkF m pc' Ls (.int w :: st)))) : Goes p e below s Z EL nw Q kk nn (T.setTop (mkF m pc Ls (.int y :: .int x :: st))) := by
  subst hp
  exact K.step fun t k => XT.iushr X.at X.hx rfl (hb X.by hd) rfl (by rw [hw]; exact k)

theorem g_ishr (X : St p l e R s m args below meth c own bytes maxL ret nm Z EL nw us bs T h cells slots) {x y : Int32} (hd : decode bytes pc = .ok (.ishr, 1)) (w : Int32) (hw : x >>> (y &&& 31) = w) (pc' : Nat) (hp : pc + 1 = pc')
    (K : Goes p e below s Z EL nw Q kk nn (T.setTop (mkF m pc' Ls (.int w :: st)))) : Goes p e below s Z EL nw Q kk nn (T.setTop (mkF m pc Ls (.int y :: .int x :: st))) := by
  subst hp
  exact K.step fun t k => XT.ishr X.at X.hx rfl (hb X.by hd) rfl (by rw [hw]; exact k)

theorem g_ishl (X : St p l e R s m args below meth c own bytes maxL ret nm Z EL nw us bs T h cells slots) {x y : Int32} (hd : decode bytes pc = .ok (.ishl, 1)) (w : Int32) (hw : x <<< (y &&& 31) = w) (pc' : Nat) (hp : pc + 1 = pc')
    (K : Goes p e below s Z EL nw Q kk nn (T.setTop (mkF m pc' Ls (.int w :: st)))) : Goes p e below s Z EL nw Q kk nn (T.setTop (mkF m pc Ls (.int y :: .int x :: st))) := by
  subst hp
  exact K.step fun t k => XT.ishl X.at X.hx rfl (hb X.by hd) rfl (by rw [hw]; exact k)

theorem g_i2c (X : St p l e R s m args below meth c own bytes maxL ret nm Z EL nw us bs T h cells slots) {x : Int32} (hd : decode bytes pc = .ok (.i2c, 1)) (w : Int32) (hw : x.toUInt32.toUInt16.toUInt32.toInt32 = w) (pc' : Nat) (hp : pc + 1 = pc')
    (K : Goes p e below s Z EL nw Q kk nn (T.setTop (mkF m pc' Ls (.int w :: st)))) : Goes p e below s Z EL nw Q kk nn (T.setTop (mkF m pc Ls (.int x :: st))) := by
  subst hp
  exact K.step fun t k => XT.i2c X.at X.hx rfl (hb X.by hd) rfl (by rw [hw]; exact k)

theorem g_i2b (X : St p l e R s m args below meth c own bytes maxL ret nm Z EL nw us bs T h cells slots) {x : Int32} (hd : decode bytes pc = .ok (.i2b, 1)) (w : Int32) (hw : x.toInt8.toInt32 = w) (pc' : Nat) (hp : pc + 1 = pc')
    (K : Goes p e below s Z EL nw Q kk nn (T.setTop (mkF m pc' Ls (.int w :: st)))) : Goes p e below s Z EL nw Q kk nn (T.setTop (mkF m pc Ls (.int x :: st))) := by
  subst hp
  exact K.step fun t k => XT.i2b X.at X.hx rfl (hb X.by hd) rfl (by rw [hw]; exact k)

theorem g_i2l (X : St p l e R s m args below meth c own bytes maxL ret nm Z EL nw us bs T h cells slots) {x : Int32} (hd : decode bytes pc = .ok (.i2l, 1)) (w : Int64) (hw : x.toInt64 = w) (pc' : Nat) (hp : pc + 1 = pc')
    (K : Goes p e below s Z EL nw Q kk nn (T.setTop (mkF m pc' Ls (.long w :: st)))) : Goes p e below s Z EL nw Q kk nn (T.setTop (mkF m pc Ls (.int x :: st))) := by
  subst hp
  exact K.step fun t k => XT.i2l X.at X.hx rfl (hb X.by hd) rfl (by rw [hw]; exact k)

theorem g_lsub (X : St p l e R s m args below meth c own bytes maxL ret nm Z EL nw us bs T h cells slots) {x y : Int64} (hd : decode bytes pc = .ok (.lsub, 1)) (w : Int64) (hw : x - y = w) (pc' : Nat) (hp : pc + 1 = pc')
    (K : Goes p e below s Z EL nw Q kk nn (T.setTop (mkF m pc' Ls (.long w :: st)))) : Goes p e below s Z EL nw Q kk nn (T.setTop (mkF m pc Ls (.long y :: .long x :: st))) := by
  subst hp
  exact K.step fun t k => XT.lsub X.at X.hx rfl (hb X.by hd) rfl (by rw [hw]; exact k)

theorem g_lcmp (X : St p l e R s m args below meth c own bytes maxL ret nm Z EL nw us bs T h cells slots) {x y : Int64} (hd : decode bytes pc = .ok (.lcmp, 1)) (w : Int32) (hw : XT.cmpL x y = w) (pc' : Nat) (hp : pc + 1 = pc')
    (K : Goes p e below s Z EL nw Q kk nn (T.setTop (mkF m pc' Ls (.int w :: st)))) : Goes p e below s Z EL nw Q kk nn (T.setTop (mkF m pc Ls (.long y :: .long x :: st))) := by
  subst hp
  exact K.step fun t k => XT.lcmp X.at X.hx rfl (hb X.by hd) rfl (by rw [hw]; exact k)

theorem g_dup (X : St p l e R s m args below meth c own bytes maxL ret nm Z EL nw us bs T h cells slots) {x : Value} (hd : decode bytes pc = .ok (.dup, 1)) (hc : x.category = 1) (pc' : Nat) (hp : pc + 1 = pc')
    (K : Goes p e below s Z EL nw Q kk nn (T.setTop (mkF m pc' Ls (x :: x :: st)))) : Goes p e below s Z EL nw Q kk nn (T.setTop (mkF m pc Ls (x :: st))) := by
  subst hp
  exact K.step fun t k => XS.dup X.at X.hx rfl (hb X.by hd) rfl hc k

theorem g_pop (X : St p l e R s m args below meth c own bytes maxL ret nm Z EL nw us bs T h cells slots) {x : Value} (hd : decode bytes pc = .ok (.pop, 1)) (hc : x.category = 1) (pc' : Nat) (hp : pc + 1 = pc')
    (K : Goes p e below s Z EL nw Q kk nn (T.setTop (mkF m pc' Ls (st)))) : Goes p e below s Z EL nw Q kk nn (T.setTop (mkF m pc Ls (x :: st))) := by
  subst hp
  exact K.step fun t k => XT.pop X.at X.hx rfl (hb X.by hd) rfl hc k

theorem g_iinc (X : St p l e R s m args below meth c own bytes maxL ret nm Z EL nw us bs T h cells slots) {k : Nat} {i : Int} {x : Int32} {Ls' : Array Slot} (hd : decode bytes pc = .ok (.iinc k i, 3)) (hl : Ls[k]? = some (.val (.int x))) (w : Int32) (hw : x + Int32.ofInt i = w) (hl' : storeLocals Ls k (.int w) = some Ls') (pc' : Nat) (hp : pc + 3 = pc')
    (K : Goes p e below s Z EL nw Q kk nn (T.setTop (mkF m pc' Ls' (st)))) : Goes p e below s Z EL nw Q kk nn (T.setTop (mkF m pc Ls (st))) := by
  subst hp
  exact K.step fun t k => XS.iinc X.at X.hx rfl (hb X.by hd) hl (by rw [hw]; exact hl') k

theorem g_ifNo (X : St p l e R s m args below meth c own bytes maxL ret nm Z EL nw us bs T h cells slots) {cd : ClassFile.Cond} {o : Int} {x : Int32} (hd : decode bytes pc = .ok (.ifCond cd o, 3)) (hc : if_icmp.holds cd x 0 = false) (pc' : Nat) (hp : pc + 3 = pc')
    (K : Goes p e below s Z EL nw Q kk nn (T.setTop (mkF m pc' Ls (st)))) : Goes p e below s Z EL nw Q kk nn (T.setTop (mkF m pc Ls (.int x :: st))) := by
  subst hp
  exact K.step fun t k => XS.ifNo X.at X.hx rfl (hb X.by hd) rfl ((if0 cd x).trans hc) k

theorem g_icmpNo (X : St p l e R s m args below meth c own bytes maxL ret nm Z EL nw us bs T h cells slots) {cd : ClassFile.Cond} {o : Int} {x y : Int32} (hd : decode bytes pc = .ok (.if_icmp cd o, 3)) (hc : if_icmp.holds cd x y = false) (pc' : Nat) (hp : pc + 3 = pc')
    (K : Goes p e below s Z EL nw Q kk nn (T.setTop (mkF m pc' Ls (st)))) : Goes p e below s Z EL nw Q kk nn (T.setTop (mkF m pc Ls (.int y :: .int x :: st))) := by
  subst hp
  exact K.step fun t k => XS.icmpNo X.at X.hx rfl (hb X.by hd) rfl hc k

theorem g_ifnullNo (X : St p l e R s m args below meth c own bytes maxL ret nm Z EL nw us bs T h cells slots) {o : Int} {b : Addr} (hd : decode bytes pc = .ok (.ifnull o, 3))  (pc' : Nat) (hp : pc + 3 = pc')
    (K : Goes p e below s Z EL nw Q kk nn (T.setTop (mkF m pc' Ls (st)))) : Goes p e below s Z EL nw Q kk nn (T.setTop (mkF m pc Ls (.ref b :: st))) := by
  subst hp
  exact K.step fun t k => XS.ifnullNo X.at X.hx rfl (hb X.by hd) rfl k

theorem g_ifnonnullNo (X : St p l e R s m args below meth c own bytes maxL ret nm Z EL nw us bs T h cells slots) {o : Int} (hd : decode bytes pc = .ok (.ifnonnull o, 3))  (pc' : Nat) (hp : pc + 3 = pc')
    (K : Goes p e below s Z EL nw Q kk nn (T.setTop (mkF m pc' Ls (st)))) : Goes p e below s Z EL nw Q kk nn (T.setTop (mkF m pc Ls (.null :: st))) := by
  subst hp
  exact K.step fun t k => XT.ifnonnullNo X.at X.hx rfl (hb X.by hd) rfl k

theorem g_acmpNo (X : St p l e R s m args below meth c own bytes maxL ret nm Z EL nw us bs T h cells slots) {cd : ClassFile.ACond} {o : Int} {x y : Value} (hd : decode bytes pc = .ok (.if_acmp cd o, 3)) (hx' : x.isRef = true) (hy' : y.isRef = true) (hc : XT.acmp cd x y = false) (pc' : Nat) (hp : pc + 3 = pc')
    (K : Goes p e below s Z EL nw Q kk nn (T.setTop (mkF m pc' Ls (st)))) : Goes p e below s Z EL nw Q kk nn (T.setTop (mkF m pc Ls (y :: x :: st))) := by
  subst hp
  exact K.step fun t k => XT.acmpNo X.at X.hx rfl (hb X.by hd) rfl hx' hy' hc k

theorem g_goto (X : St p l e R s m args below meth c own bytes maxL ret nm Z EL nw us bs T h cells slots)  {o : Int} (hd : decode bytes pc = .ok (.goto o, 3))  (pc' : Nat) (ho : 0 ≤ (pc : Int) + o) (hp : ((pc : Int) + o).toNat = pc')
    (K : Goes p e below s Z EL nw Q kk nn (T.setTop (mkF m pc' Ls (st)))) : Goes p e below s Z EL nw Q kk nn (T.setTop (mkF m pc Ls (st))) :=
  K.step fun t k => XS.goto X.at X.hx rfl (pc0 := pc) rfl (hb X.by hd) ho hp k

theorem g_ifYes (X : St p l e R s m args below meth c own bytes maxL ret nm Z EL nw us bs T h cells slots) {cd : ClassFile.Cond} {x : Int32} {o : Int} (hd : decode bytes pc = .ok (.ifCond cd o, 3)) (hc : if_icmp.holds cd x 0 = true) (pc' : Nat) (ho : 0 ≤ (pc : Int) + o) (hp : ((pc : Int) + o).toNat = pc')
    (K : Goes p e below s Z EL nw Q kk nn (T.setTop (mkF m pc' Ls (st)))) : Goes p e below s Z EL nw Q kk nn (T.setTop (mkF m pc Ls (.int x :: st))) :=
  K.step fun t k => XS.ifYes X.at X.hx rfl (pc0 := pc) rfl (hb X.by hd) rfl ((if0 cd x).trans hc) ho hp k

theorem g_icmpYes (X : St p l e R s m args below meth c own bytes maxL ret nm Z EL nw us bs T h cells slots) {cd : ClassFile.Cond} {x y : Int32} {o : Int} (hd : decode bytes pc = .ok (.if_icmp cd o, 3)) (hc : if_icmp.holds cd x y = true) (pc' : Nat) (ho : 0 ≤ (pc : Int) + o) (hp : ((pc : Int) + o).toNat = pc')
    (K : Goes p e below s Z EL nw Q kk nn (T.setTop (mkF m pc' Ls (st)))) : Goes p e below s Z EL nw Q kk nn (T.setTop (mkF m pc Ls (.int y :: .int x :: st))) :=
  K.step fun t k => XS.icmpYes X.at X.hx rfl (pc0 := pc) rfl (hb X.by hd) rfl hc ho hp k

theorem g_ifnullYes (X : St p l e R s m args below meth c own bytes maxL ret nm Z EL nw us bs T h cells slots)  {o : Int} (hd : decode bytes pc = .ok (.ifnull o, 3))  (pc' : Nat) (ho : 0 ≤ (pc : Int) + o) (hp : ((pc : Int) + o).toNat = pc')
    (K : Goes p e below s Z EL nw Q kk nn (T.setTop (mkF m pc' Ls (st)))) : Goes p e below s Z EL nw Q kk nn (T.setTop (mkF m pc Ls (.null :: st))) :=
  K.step fun t k => XS.ifnullYes X.at X.hx rfl (pc0 := pc) rfl (hb X.by hd) rfl ho hp k

theorem g_ifnonnullYes (X : St p l e R s m args below meth c own bytes maxL ret nm Z EL nw us bs T h cells slots) {b : Addr} {o : Int} (hd : decode bytes pc = .ok (.ifnonnull o, 3))  (pc' : Nat) (ho : 0 ≤ (pc : Int) + o) (hp : ((pc : Int) + o).toNat = pc')
    (K : Goes p e below s Z EL nw Q kk nn (T.setTop (mkF m pc' Ls (st)))) : Goes p e below s Z EL nw Q kk nn (T.setTop (mkF m pc Ls (.ref b :: st))) :=
  K.step fun t k => XT.ifnonnullYes X.at X.hx rfl (pc0 := pc) rfl (hb X.by hd) rfl ho hp k

theorem g_acmpYes (X : St p l e R s m args below meth c own bytes maxL ret nm Z EL nw us bs T h cells slots) {cd : ClassFile.ACond} {x y : Value} {o : Int} (hd : decode bytes pc = .ok (.if_acmp cd o, 3)) (hx' : x.isRef = true) (hy' : y.isRef = true) (hc : XT.acmp cd x y = true) (pc' : Nat) (ho : 0 ≤ (pc : Int) + o) (hp : ((pc : Int) + o).toNat = pc')
    (K : Goes p e below s Z EL nw Q kk nn (T.setTop (mkF m pc' Ls (st)))) : Goes p e below s Z EL nw Q kk nn (T.setTop (mkF m pc Ls (y :: x :: st))) :=
  K.step fun t k => XT.acmpYes X.at X.hx rfl (pc0 := pc) rfl (hb X.by hd) rfl hx' hy' hc ho hp k
end Ops
section Rets
variable {p : Program} {l : Launch} {e : Env} {R : Room} {s : State} {m : MethodId} {args : Array Value} {below : List Frame} {meth : Method} {c : Code}
  {own : String} {bytes : ByteArray} {maxL : Nat} {ret : Option FieldType} {nm : String} {Z : State} {EL : List (String × Nat)} {nw : Bool} {us : List Addr} {bs : List (String × Nat × Addr)}
  {T : State} {h : Heap} {cells slots : Nat} {Q : Option Value → Heap → Prop} {kk nn : Nat} {a0 : Array Value} {pc : Nat} {Ls : Array Slot} {st : List Value}

theorem g_retN (X : St p l e R s m args below meth c own bytes maxL ret nm Z EL nw us bs T h cells slots) {z : Int32} {t : FieldType} {rest : List Value} (hret : ret = some t) (ht : t = .boolean ∨ t = .byte ∨ t = .char ∨ t = .short) (hd : decode bytes pc = .ok (.ireturn, 1)) (w : Int32) (hw : nar t z = w) (hc : cells ≤ kk) (hn : slots ≤ nn) (hQ : Q (some (.int w)) h) :
    Goes p e below s Z EL nw Q kk nn (T.setTop (mkF m pc Ls (.int z :: rest))) := by
  subst hw
  have h4 := X.1.2.2.2.1
  exact leave0 X (fun q => by rw [hret] at q; cases q) hc hn hQ fun fs g1 => by
    obtain ⟨vm0, locs, Y⟩ := X.std
    exact retN Y X.hx (h4.trans hret) ht (hb X.by hd) g1
theorem g_retI (X : St p l e R s m args below meth c own bytes maxL ret nm Z EL nw us bs T h cells slots) {z : Int32} {rest : List Value} (hret : ret = some .int) (hd : decode bytes pc = .ok (.ireturn, 1)) (hc : cells ≤ kk) (hn : slots ≤ nn) (hQ : Q (some (.int z)) h) :
    Goes p e below s Z EL nw Q kk nn (T.setTop (mkF m pc Ls (.int z :: rest))) := by
  have h4 := X.1.2.2.2.1
  exact leave0 X (fun q => by rw [hret] at q; cases q) hc hn hQ fun fs g1 => by
    obtain ⟨vm0, locs, Y⟩ := X.std
    exact retOut Y X.hx (h4.trans hret) rfl (Or.inl ⟨rfl, Or.inl rfl, z, rfl⟩) (hb X.by hd) g1
theorem g_retA (X : St p l e R s m args below meth c own bytes maxL ret nm Z EL nw us bs T h cells slots) {w : Value} {t : FieldType} {rest : List Value} (hret : ret = some t) (ht : t.isReference = true) (hw : w.isRef = true) (hd : decode bytes pc = .ok (.areturn, 1)) (hc : cells ≤ kk) (hn : slots ≤ nn) (hQ : Q (some w) h) :
    Goes p e below s Z EL nw Q kk nn (T.setTop (mkF m pc Ls (w :: rest))) := by
  have h4 := X.1.2.2.2.1
  have hnar : narrow t w = w := by
    rcases ref_cases hw with rfl | ⟨a, rfl⟩ <;> cases t <;> first | rfl | simp [FieldType.isReference] at ht
  exact leave0 X (fun q => by rw [hret] at q; cases q) hc hn hQ fun fs g1 => by
    obtain ⟨vm0, locs, Y⟩ := X.std
    exact retOut Y X.hx (h4.trans hret) hnar (Or.inr (Or.inr (Or.inr (Or.inr ⟨rfl, ht, hw⟩)))) (hb X.by hd) g1
theorem g_ret (X : St p l e R s m args below meth c own bytes maxL ret nm Z EL nw us bs T h cells slots) (hret : ret = none) (hd : decode bytes pc = .ok (.return_, 1)) (hc : cells ≤ kk) (hn : slots ≤ nn) (hQ : Q none h) :
    Goes p e below s Z EL nw Q kk nn (T.setTop (mkF m pc Ls [])) := by
  have h4 := X.1.2.2.2.1
  exact leave0 X (fun _ => rfl) hc hn hQ fun fs g1 => by
    obtain ⟨vm0, locs, Y⟩ := X.std
    exact Y.returnOut X.hx (h4.trans hret) (hb X.by hd) g1
end Rets
section HeapOps
variable {p : Program} {l : Launch} {e : Env} {R : Room} {s : State} {m : MethodId} {args : Array Value} {below : List Frame} {meth : Method} {c : Code}
  {own : String} {bytes : ByteArray} {maxL : Nat} {ret : Option FieldType} {nm : String} {Z : State} {EL : List (String × Nat)} {nw : Bool} {us : List Addr} {bs : List (String × Nat × Addr)}
  {T : State} {h : Heap} {cells slots : Nat} {Q : Option Value → Heap → Prop} {kk nn : Nat} {a0 : Array Value} {pc : Nat} {Ls : Array Slot} {st : List Value}

theorem g_ldcI (X : St p l e R s m args below meth c own bytes maxL ret nm Z EL nw us bs T h cells slots) {ix : Nat} {v : Int32} (w : (Jvm.Cond.constant own ix v).before a0 Z = true) (hd : decode bytes pc = .ok (.ldc ix, 2)) (pc' : Nat) (hp : pc + 2 = pc')
    (K : Goes p e below s Z EL nw Q kk nn (T.setTop (mkF m pc' Ls (.int v :: st)))) : Goes p e below s Z EL nw Q kk nn (T.setTop (mkF m pc Ls st)) := by
  subst hp
  obtain ⟨cx, vm0, locs, Y, N, eT, hS, hZ, hown, r⟩ := X
  exact K.step fun t k => Y.ldcI cx.1 hown (mv (s := s.setVm vm0) hZ w) rfl (hb cx.2.1 hd) k
theorem g_getF (X : St p l e R s m args below meth c own bytes maxL ret nm Z EL nw us bs T h cells slots) {R0 O n d host : String} {ix : Nat} {a : Addr} {v : Value} (w : (Jvm.Cond.fieldLink own ix R0 n d).before a0 Z = true ∨ (Jvm.Cond.fieldLinkNest own ix R0 n d host).before a0 Z = true) (via : Via Z R0 O n d) (F : Fld Z h a O n d v)
    (hd : decode bytes pc = .ok (.getfield ix, 3)) (pc' : Nat) (hp : pc + 3 = pc')
    (K : ∀ T', St p l e R s m args below meth c own bytes maxL ret nm Z EL nw us bs T' h cells slots → Goes p e below s Z EL nw Q kk nn (T'.setTop (mkF m pc' Ls (v :: st)))) : Goes p e below s Z EL nw Q kk nn (T.setTop (mkF m pc Ls (.ref a :: st))) := by
  subst hp
  obtain ⟨cx, vm0, locs, Y, N, eT, hS, hZ, hown, r⟩ := X
  obtain ⟨T', Y', e', stp⟩ := getF Y cx.1 hZ hown w via eT F (g := mkF m pc Ls (.ref a :: st)) rfl rfl (hb cx.2.1 hd)
  exact (K T' ⟨cx, vm0, locs, Y', N, e', hS, hZ, hown, r⟩).step stp
theorem g_getS (X : St p l e R s m args below meth c own bytes maxL ret nm Z EL nw us bs T h cells slots) {R0 O n d host : String} {ix : Nat} {v : Value} (w : (Jvm.Cond.fieldLink own ix R0 n d).before a0 Z = true ∨ (Jvm.Cond.fieldLinkNest own ix R0 n d host).before a0 Z = true) (via : Via Z R0 O n d) (F : Sta Z h O n d v)
    (hd : decode bytes pc = .ok (.getstatic ix, 3)) (pc' : Nat) (hp : pc + 3 = pc')
    (K : ∀ T', St p l e R s m args below meth c own bytes maxL ret nm Z EL nw us bs T' h cells slots → Goes p e below s Z EL nw Q kk nn (T'.setTop (mkF m pc' Ls (v :: st)))) : Goes p e below s Z EL nw Q kk nn (T.setTop (mkF m pc Ls st)) := by
  subst hp
  obtain ⟨cx, vm0, locs, Y, N, eT, hS, hZ, hown, r⟩ := X
  obtain ⟨T', Y', e', stp⟩ := getS2 Y cx.1 hZ hown w via eT F (g := mkF m pc Ls st) rfl (hb cx.2.1 hd)
  exact (K T' ⟨cx, vm0, locs, Y', N, e', hS, hZ, hown, r⟩).step stp
theorem own_noassign {C S D : String} {n : Nat} (w : (Jvm.Cond.superclass C S).before a0 Z = true) (w0 : (Jvm.Cond.noSuperclass S).before a0 Z = true) (wi : (Jvm.Cond.instantiable D n).before a0 Z = true) (hn : C ≠ D) (hs : S ≠ D) : ∃ c t, Z.vm.findClass C = some c ∧ Z.vm.findClass D = some t ∧ Z.vm.assignable c t = false := by
  obtain ⟨t, k', g0, g2, g5, gr⟩ := Jvm.Cond.instantiable_spec wi
  obtain ⟨cs, ks, s1, s2, s3, -, -⟩ := Jvm.Cond.noSuperclass_spec w0
  obtain ⟨c, h0⟩ := found_sup w
  obtain ⟨p, k, kp, h1, h2, h3, h4, h5, -, h7⟩ := Jvm.Cond.superclass_spec h0 w
  cases s1.symm.trans h1
  have ne := ids_ne h0 g0 hn
  have ne2 := ids_ne s1 g0 hs
  have gi : k'.isInterface = false := (Bool.or_eq_false_iff.mp gr.1).1
  have n3 : ∀ fuel, Z.vm.isSubclassAux fuel c t = false := by
    intro fuel
    cases fuel with
    | zero => rfl
    | succ f =>
      cases f with
      | zero => simp [Vm.isSubclassAux, ne, h2, h4]
      | succ f => simp [Vm.isSubclassAux, ne, h2, h4, ne2, s2, s3]
  refine ⟨c, t, h0, g0, ?_⟩
  show Z.vm.assignableAux (255 + 1) c t = false
  simp [Vm.assignableAux, ne, h2, g2, h5, g5, Vm.isSubclass, n3, gi]
theorem g_instNull (X : St p l e R s m args below meth c own bytes maxL ret nm Z EL nw us bs T h cells slots) {ix : Nat} (hd : decode bytes pc = .ok (.instanceof ix, 3)) (pc' : Nat) (hp : pc + 3 = pc')
    (K : Goes p e below s Z EL nw Q kk nn (T.setTop (mkF m pc' Ls (.int 0 :: st)))) : Goes p e below s Z EL nw Q kk nn (T.setTop (mkF m pc Ls (.null :: st))) := by
  subst hp
  obtain ⟨vm0, locs, Y⟩ := X.std
  exact K.step fun t k => Y.instanceofNull X.hx (g := mkF m pc Ls (.null :: st)) rfl rfl (hb X.by hd) t k
theorem g_cast (X : St p l e R s m args below meth c own bytes maxL ret nm Z EL nw us bs T h cells slots) {C : String} {ix : Nat} {a : Addr} (w : (Jvm.Cond.classLink own ix C).before a0 Z = true) (F : Ins Z h a C true) (hd : decode bytes pc = .ok (.checkcast ix, 3)) (pc' : Nat) (hp : pc + 3 = pc')
    (K : ∀ T', St p l e R s m args below meth c own bytes maxL ret nm Z EL nw us bs T' h cells slots → Goes p e below s Z EL nw Q kk nn (T'.setTop (mkF m pc' Ls (.ref a :: st)))) : Goes p e below s Z EL nw Q kk nn (T.setTop (mkF m pc Ls (.ref a :: st))) := by
  subst hp
  obtain ⟨cx, vm0, locs, Y, N, eT, hS, hZ, hown, r⟩ := X
  obtain ⟨T', Y', e', stp⟩ := castY Y cx.1 hZ hown w eT F (g := mkF m pc Ls (.ref a :: st)) rfl rfl (hb cx.2.1 hd)
  exact (K T' ⟨cx, vm0, locs, Y', N, e', hS, hZ, hown, r⟩).step stp
theorem g_instY (X : St p l e R s m args below meth c own bytes maxL ret nm Z EL nw us bs T h cells slots) {C : String} {ix : Nat} {a : Addr} (w : (Jvm.Cond.classLink own ix C).before a0 Z = true) (F : Ins Z h a C true) (hd : decode bytes pc = .ok (.instanceof ix, 3)) (pc' : Nat) (hp : pc + 3 = pc')
    (K : ∀ T', St p l e R s m args below meth c own bytes maxL ret nm Z EL nw us bs T' h cells slots → Goes p e below s Z EL nw Q kk nn (T'.setTop (mkF m pc' Ls (.int 1 :: st)))) : Goes p e below s Z EL nw Q kk nn (T.setTop (mkF m pc Ls (.ref a :: st))) := by
  subst hp
  obtain ⟨cx, vm0, locs, Y, N, eT, hS, hZ, hown, r⟩ := X
  obtain ⟨T', Y', e', stp⟩ := instY Y cx.1 hZ hown w eT F (g := mkF m pc Ls (.ref a :: st)) rfl rfl (hb cx.2.1 hd)
  exact (K T' ⟨cx, vm0, locs, Y', N, e', hS, hZ, hown, r⟩).step stp
theorem g_instNo (X : St p l e R s m args below meth c own bytes maxL ret nm Z EL nw us bs T h cells slots) {C D : String} {ix : Nat} {a : Addr} (w : (Jvm.Cond.classLink own ix D).before a0 Z = true) (E : Exa Z h a C) (F : ∃ c t, Z.vm.findClass C = some c ∧ Z.vm.findClass D = some t ∧ Z.vm.assignable c t = false) (hd : decode bytes pc = .ok (.instanceof ix, 3)) (pc' : Nat) (hp : pc + 3 = pc')
    (K : ∀ T', St p l e R s m args below meth c own bytes maxL ret nm Z EL nw us bs T' h cells slots → Goes p e below s Z EL nw Q kk nn (T'.setTop (mkF m pc' Ls (.int 0 :: st)))) : Goes p e below s Z EL nw Q kk nn (T.setTop (mkF m pc Ls (.ref a :: st))) := by
  subst hp
  obtain ⟨cx, vm0, locs, Y, N, eT, hS, hZ, hown, r⟩ := X
  obtain ⟨T', Y', e', stp⟩ := instNo Y cx.1 hZ hown w eT E F (g := mkF m pc Ls (.ref a :: st)) rfl rfl (hb cx.2.1 hd)
  exact (K T' ⟨cx, vm0, locs, Y', N, e', hS, hZ, hown, r⟩).step stp
/-- 'new': the new object is under construction -/
theorem g_new (X : St p l e R s m args below meth c own bytes maxL ret nm Z EL nw us bs T h cells slots) {C : String} {ix k : Nat} (w : (Jvm.Cond.classLink own ix C).before a0 Z = true) (wi : (Jvm.Cond.instantiable C k).before a0 Z = true) (wz : (Jvm.Cond.initialized C).before a0 Z = true)
    (hd : decode bytes pc = .ok (.new ix, 3)) {ck cs : Nat} (hck : cells + 1 = ck) (hcs : slots + k = cs) (hc : ck ≤ R.cells) (hl : cs ≤ R.slots) (pc' : Nat) (hp : pc + 3 = pc')
    (K : ∀ a T' h', a = h.size → St p l e R s m args below meth c own bytes maxL ret nm Z EL nw (a :: us) bs T' h' ck cs → Ext h h' → Exa Z h' a C →
      (∀ {O n d : String} {ty : FieldType}, Laid Z a0 C O n d → parseFieldDescriptor d = some ty → Fld Z h' a O n d (defaultValue ty)) → Goes p e below s Z EL nw Q kk nn (T'.setTop (mkF m pc' Ls (.ref a :: st)))) : Goes p e below s Z EL nw Q kk nn (T.setTop (mkF m pc Ls st)) := by
  subst hp hck hcs
  obtain ⟨cx, vm0, locs, Y, N, eT, hS, hZ, hown, hE, hC, hU, hW⟩ := X
  obtain ⟨T', h', Y', e', E, A, D, -, stp⟩ := newO Y cx.1 hZ hown w wi wz eT (g := mkF m pc Ls st) rfl (hb cx.2.1 hd) hc hl
  refine (K h.size T' h' rfl ⟨cx, vm0, locs, Y', N, e', ⟨hS.1, hS.2.mono E.1⟩, hZ, hown, hE.trans E, hC.trans (CHr.ext E hC.1), ?_, hW⟩ E A (fun L q => D L q)).step stp
  intro x hx
  rcases List.mem_cons.mp hx with rfl | hx
  · exact ⟨hE.1, A.lt, Safe.ext E hC.1 (Safe.new (Nat.le_refl _))⟩
  · obtain ⟨q1, q2, q3⟩ := hU x hx
    exact ⟨q1, Nat.lt_of_lt_of_le q2 E.1, Safe.ext E hC.1 q3⟩
/-- an array of a primitive kind, new -/
theorem g_newP (X : St p l e R s m args below meth c own bytes maxL ret nm Z EL nw us bs T h cells slots) {aty : ArrayType} {z : Int32} (w : (Jvm.Cond.arrayClass (newarray.typeOf aty)).before a0 Z = true) (hd : decode bytes pc = .ok (.newarray aty, 2)) (hn : ¬ z < 0) (cap : Nat) (hcap : z.toNatClampNeg ≤ cap) (hb' : cap * 8 ≤ 536870912)
    {ck cs : Nat} (hck : cells + 1 = ck) (hcs : slots + cap = cs) (hc : ck ≤ R.cells) (hl : cs ≤ R.slots) (pc' : Nat) (hp : pc + 2 = pc')
    (K : ∀ a T' h' k, a = h.size → St p l e R s m args below meth c own bytes maxL ret nm Z EL nw (a :: us) bs T' h' ck cs → Ext h h' → Arv Z h' a k (newarray.typeOf aty) z [] (defaultValue (newarray.typeOf aty)) →
      Goes p e below s Z EL nw Q kk nn (T'.setTop (mkF m pc' Ls (.ref a :: st)))) : Goes p e below s Z EL nw Q kk nn (T.setTop (mkF m pc Ls (.int z :: st))) := by
  subst hp hck hcs
  obtain ⟨cx, vm0, locs, Y, N, eT, hS, hZ, hown, hE, hC, hU, hW⟩ := X
  obtain ⟨T', h', cA, Y', e', E, A, stp⟩ := newP Y cx.1 hZ w eT (g := mkF m pc Ls (.int z :: st)) rfl (hb cx.2.1 hd) rfl hn hcap hb' hc hl
  refine (K h.size T' h' cA rfl ⟨cx, vm0, locs, Y', N, e', ⟨hS.1, hS.2.mono E.1⟩, hZ, hown, hE.trans E, hC.trans (CHr.ext E hC.1), ?_, hW⟩ E (Arv.new A hn)).step stp
  intro x hx
  rcases List.mem_cons.mp hx with rfl | hx
  · exact ⟨hE.1, A.lt, Safe.ext E hC.1 (Safe.new (Nat.le_refl _))⟩
  · obtain ⟨q1, q2, q3⟩ := hU x hx
    exact ⟨q1, Nat.lt_of_lt_of_le q2 E.1, Safe.ext E hC.1 q3⟩
/-- a store's part that is common -/
theorem St.wrote {vm0 : Vm} {locs : List Loc} {T' : State} {h' : Heap} {a : Addr} {sl : Nat} {v : Value}
    (cx : p.tables.exec = Jvm.exec ∧ c.code = bytes ∧ c.maxLocals = maxL ∧ meth.sig.returnType = ret ∧ meth.name = nm ∧ meth.locks = false ∧ ∃ a0, EW Z a0 EL)
    (Y : Stand p l e R (s.setVm vm0) m args below meth c T' (locs ++ [⟨a, sl⟩]) cells slots) (N : Fr Z.heap.size locs) (eT : T'.heap = h') (hS : s.Since vm0 h.size) (hZ : Z.Warmed39 vm0) (hown : vm0.findClass own = some m.cls) (hE : Ext Z.heap h) (hC : CHr Z EL s.vm s.heap vm0 h)
    (hU : ∀ x ∈ us, Z.heap.size ≤ x ∧ x < h.size ∧ Safe Z EL vm0 h x) (hW : (nw = true → s.WarmedH vm0) ∧ ∀ q ∈ bs, Lit (s.setVm vm0) q.1 q.2.1 q.2.2) (W : Wr h h' a sl v) (ha : a ∈ us) : St p l e R s m args below meth c own bytes maxL ret nm Z EL nw us bs T' h' cells slots := by
  obtain ⟨q1, q2, q3⟩ := hU a ha
  refine ⟨cx, vm0, locs ++ [⟨a, sl⟩], Y, Fr.snoc Y N q1, eT, ⟨hS.1, hS.2.mono (Nat.le_of_eq W.size.symm)⟩, hZ, hown, ext_wr hE W q1, hC.trans (CHr.wr W q3 hC.1), fun x hx => ?_, hW⟩
  obtain ⟨r1, r2, r3⟩ := hU x hx
  exact ⟨r1, by rw [W.size]; exact r2, Safe.wr W q3 hC.1 r3⟩
theorem g_putF (X : St p l e R s m args below meth c own bytes maxL ret nm Z EL nw us bs T h cells slots) {R0 O n d host C : String} {ix k : Nat} {ty : FieldType} {a : Addr} {v old : Value} (w : (Jvm.Cond.fieldLink own ix R0 n d).before a0 Z = true ∨ (Jvm.Cond.fieldLinkNest own ix R0 n d host).before a0 Z = true) (via : Via Z R0 O n d) (F : Fld Z h a O n d old) (E : Exa Z h a C)
    (L : (Jvm.Cond.lays C O n d).before a0 Z = true ∨ ((Jvm.Cond.laysFinal C O n d).before a0 Z = true ∧ own = O ∧ nm = "<init>")) (wi : (Jvm.Cond.instantiable C k).before a0 Z = true) (hty : parseFieldDescriptor d = some ty) (hn : narrow ty v = v) (hf : fits ty v = true) (ha : a ∈ us)
    (hd : decode bytes pc = .ok (.putfield ix, 3)) (pc' : Nat) (hp : pc + 3 = pc')
    (K : ∀ T' h', St p l e R s m args below meth c own bytes maxL ret nm Z EL nw us bs T' h' cells slots → Wr h h' a (Jvm.RoadKit.slotOf Z O n d) v → Fld Z h' a O n d v → Exa Z h' a C → Goes p e below s Z EL nw Q kk nn (T'.setTop (mkF m pc' Ls st))) : Goes p e below s Z EL nw Q kk nn (T.setTop (mkF m pc Ls (v :: .ref a :: st))) := by
  subst hp
  obtain ⟨cx, vm0, locs, Y, N, eT, hS, hZ, hown, hE, hC, hU, hW⟩ := X
  have L' : (Jvm.Cond.lays C O n d).before a0 Z = true ∨ ((Jvm.Cond.laysFinal C O n d).before a0 Z = true ∧ own = O ∧ meth.name = "<init>") := by
    rcases L with L | ⟨L1, L2, L3⟩
    · exact Or.inl L
    · exact Or.inr ⟨L1, L2, by rw [cx.2.2.2.2.1]; exact L3⟩
  obtain ⟨T', h', Y', e', W, stp⟩ := putF Y cx.1 hZ hown w via eT F E L' wi hty hn hf (g := mkF m pc Ls (v :: .ref a :: st)) rfl rfl (hb cx.2.1 hd)
  exact (K T' h' (St.wrote cx Y' N e' hS hZ hown hE hC hU hW W ha) W (F.same W) (E.wr W)).step stp
theorem g_castore (X : St p l e R s m args below meth c own bytes maxL ret nm Z EL nw us bs T h cells slots) {a : Addr} {k : ClassId} {z j x : Int32} {vs : List Value} {dv : Value} (A : Arv Z h a k .char z vs dv) (i : Nat) (hj : j.toNatClampNeg = i) (hj0 : ¬ j < 0) (hz : j < z) (hi : i < vs.length) (w : Int32) (hw : nar .char x = w) (ha : a ∈ us)
    (hd : decode bytes pc = .ok (.castore, 1)) (pc' : Nat) (hp : pc + 1 = pc')
    (K : ∀ T' h', St p l e R s m args below meth c own bytes maxL ret nm Z EL nw us bs T' h' cells slots → Wr h h' a i (.int w) → Arv Z h' a k .char z (vs.set i (.int w)) dv → Goes p e below s Z EL nw Q kk nn (T'.setTop (mkF m pc' Ls st))) : Goes p e below s Z EL nw Q kk nn (T.setTop (mkF m pc Ls (.int x :: .int j :: .ref a :: st))) := by
  subst hp hj hw
  obtain ⟨cx, vm0, locs, Y, N, eT, hS, hZ, hown, hE, hC, hU, hW⟩ := X
  obtain ⟨cl, Ar, q1, Sz, q3, H, Gt⟩ := A
  obtain ⟨T', h', Y', e', W, stp⟩ := stC Y cx.1 hZ eT Ar (inb_of Sz ⟨hj0, hz⟩) (g := mkF m pc Ls (.int x :: .int j :: .ref a :: st)) rfl rfl (hb cx.2.1 hd)
  exact (K T' h' (St.wrote cx Y' N e' hS hZ hown hE hC hU hW W ha) W (Arv.set Ar q1 Sz q3 H Gt (fits_nar_char x) W _ rfl hi)).step stp
theorem g_bastore (X : St p l e R s m args below meth c own bytes maxL ret nm Z EL nw us bs T h cells slots) {a : Addr} {k : ClassId} {z j x : Int32} {vs : List Value} {dv : Value} (A : Arv Z h a k .byte z vs dv) (i : Nat) (hj : j.toNatClampNeg = i) (hj0 : ¬ j < 0) (hz : j < z) (hi : i < vs.length) (w : Int32) (hw : nar .byte x = w) (ha : a ∈ us)
    (hd : decode bytes pc = .ok (.bastore, 1)) (pc' : Nat) (hp : pc + 1 = pc')
    (K : ∀ T' h', St p l e R s m args below meth c own bytes maxL ret nm Z EL nw us bs T' h' cells slots → Wr h h' a i (.int w) → Arv Z h' a k .byte z (vs.set i (.int w)) dv → Goes p e below s Z EL nw Q kk nn (T'.setTop (mkF m pc' Ls st))) : Goes p e below s Z EL nw Q kk nn (T.setTop (mkF m pc Ls (.int x :: .int j :: .ref a :: st))) := by
  subst hp hj hw
  obtain ⟨cx, vm0, locs, Y, N, eT, hS, hZ, hown, hE, hC, hU, hW⟩ := X
  obtain ⟨cl, Ar, q1, Sz, q3, H, Gt⟩ := A
  obtain ⟨T', h', Y', e', W, stp⟩ := stB Y cx.1 hZ eT Ar (inb_of Sz ⟨hj0, hz⟩) (g := mkF m pc Ls (.int x :: .int j :: .ref a :: st)) rfl rfl (hb cx.2.1 hd)
  exact (K T' h' (St.wrote cx Y' N e' hS hZ hown hE hC hU hW W ha) W (Arv.set Ar q1 Sz q3 H Gt (fits_nar_byte x) W _ rfl hi)).step stp
theorem arrOf {vm0 : Vm} {cl : Cell} {ty : FieldType} (hZ : Z.Warmed39 vm0) (q : Z.isArrayOf cl ty) : (s.setVm vm0).isArrayOf cl ty := State.isArrayOf_alike (show Z.vm.Alike (s.setVm vm0).vm from hZ.alike) q
theorem g_arrlen (X : St p l e R s m args below meth c own bytes maxL ret nm Z EL nw us bs T h cells slots) {a : Addr} {k : ClassId} {ty : FieldType} {z : Int32} {vs : List Value} {dv : Value} (A : Arv Z h a k ty z vs dv) (hd : decode bytes pc = .ok (.arraylength, 1)) (pc' : Nat) (hp : pc + 1 = pc')
    (K : Goes p e below s Z EL nw Q kk nn (T.setTop (mkF m pc' Ls (.int z :: st)))) : Goes p e below s Z EL nw Q kk nn (T.setTop (mkF m pc Ls (.ref a :: st))) := by
  subst hp
  obtain ⟨cx, vm0, locs, Y, N, eT, hS, hZ, r⟩ := X
  obtain ⟨cl, Ar, q1, Sz, q3, H, Gt⟩ := A
  refine K.step fun t k => Y.arraylength cx.1 (cell := cl) (by rw [eT]; exact Ar.1) (arrOf hZ Ar.2.1) (g := mkF m pc Ls (.ref a :: st)) rfl rfl (hb cx.2.1 hd) t ?_
  rw [len_of Sz q3]; exact k
theorem g_caload (X : St p l e R s m args below meth c own bytes maxL ret nm Z EL nw us bs T h cells slots) {a : Addr} {k : ClassId} {z j : Int32} {vs : List Value} {dv : Value} (A : Arv Z h a k .char z vs dv) (hj0 : ¬ j < 0) (hz : j < z) (v : Value) (hv : vs.getD j.toNatClampNeg dv = v) (hd : decode bytes pc = .ok (.caload, 1)) (pc' : Nat) (hp : pc + 1 = pc')
    (K : Goes p e below s Z EL nw Q kk nn (T.setTop (mkF m pc' Ls (v :: st)))) : Goes p e below s Z EL nw Q kk nn (T.setTop (mkF m pc Ls (.int j :: .ref a :: st))) := by
  subst hp
  obtain ⟨cx, vm0, locs, Y, N, eT, hS, hZ, r⟩ := X
  obtain ⟨cl, Ar, q1, Sz, q3, H, Gt⟩ := A
  have hin := inb_of Sz ⟨hj0, hz⟩
  exact K.step fun t k => Y.caload cx.1 (cell := cl) (by rw [eT]; exact Ar.1) (arrOf hZ Ar.2.1) Ar.2.2 hin (H.at hin hv) (g := mkF m pc Ls (.int j :: .ref a :: st)) rfl rfl (hb cx.2.1 hd) t k
theorem g_baload (X : St p l e R s m args below meth c own bytes maxL ret nm Z EL nw us bs T h cells slots) {a : Addr} {k : ClassId} {z j : Int32} {vs : List Value} {dv : Value} (A : Arv Z h a k .byte z vs dv) (hj0 : ¬ j < 0) (hz : j < z) (v : Value) (hv : vs.getD j.toNatClampNeg dv = v) (hd : decode bytes pc = .ok (.baload, 1)) (pc' : Nat) (hp : pc + 1 = pc')
    (K : Goes p e below s Z EL nw Q kk nn (T.setTop (mkF m pc' Ls (v :: st)))) : Goes p e below s Z EL nw Q kk nn (T.setTop (mkF m pc Ls (.int j :: .ref a :: st))) := by
  subst hp
  obtain ⟨cx, vm0, locs, Y, N, eT, hS, hZ, r⟩ := X
  obtain ⟨cl, Ar, q1, Sz, q3, H, Gt⟩ := A
  have hin := inb_of Sz ⟨hj0, hz⟩
  exact K.step fun t k => Y.baloadBytes cx.1 (cell := cl) (by rw [eT]; exact Ar.1) (arrOf hZ Ar.2.1) Ar.2.2 hin (H.at hin hv) (g := mkF m pc Ls (.int j :: .ref a :: st)) rfl rfl (hb cx.2.1 hd) t k
theorem g_aaload (X : St p l e R s m args below meth c own bytes maxL ret nm Z EL nw us bs T h cells slots) {a : Addr} {k : ClassId} {ty : FieldType} {z j : Int32} {vs : List Value} {dv : Value} (A : Arv Z h a k ty z vs dv) (hty : ty.isReference = true) (hj0 : ¬ j < 0) (hz : j < z) (v : Value) (hv : vs.getD j.toNatClampNeg dv = v) (hd : decode bytes pc = .ok (.aaload, 1)) (pc' : Nat) (hp : pc + 1 = pc')
    (K : Goes p e below s Z EL nw Q kk nn (T.setTop (mkF m pc' Ls (v :: st)))) : Goes p e below s Z EL nw Q kk nn (T.setTop (mkF m pc Ls (.int j :: .ref a :: st))) := by
  subst hp
  obtain ⟨cx, vm0, locs, Y, N, eT, hS, hZ, r⟩ := X
  obtain ⟨cl, Ar, q1, Sz, q3, H, Gt⟩ := A
  have hin := inb_of Sz ⟨hj0, hz⟩
  exact K.step fun t k => Y.aaload cx.1 (cell := cl) (by rw [eT]; exact Ar.1) (arrOf hZ Ar.2.1) hty Ar.2.2 hin (H.at hin hv) (g := mkF m pc Ls (.int j :: .ref a :: st)) rfl rfl (hb cx.2.1 hd) t k
theorem g_aaloadA (X : St p l e R s m args below meth c own bytes maxL ret nm Z EL nw us bs T h cells slots) {a : Addr} {cl : Cell} {ty : FieldType} {j : Int32} (A : Arr Z h a cl ty) (hty : ty.isReference = true) (hin : ¬ (j < 0 ∨ cl.slots.size ≤ j.toNatClampNeg)) {v : Value} (hv : cl.slots[j.toNatClampNeg]? = some v) (hd : decode bytes pc = .ok (.aaload, 1)) (pc' : Nat) (hp : pc + 1 = pc')
    (K : Goes p e below s Z EL nw Q kk nn (T.setTop (mkF m pc' Ls (v :: st)))) : Goes p e below s Z EL nw Q kk nn (T.setTop (mkF m pc Ls (.int j :: .ref a :: st))) := by
  subst hp
  obtain ⟨cx, vm0, locs, Y, N, eT, hS, hZ, r⟩ := X
  exact K.step fun t k => Y.aaload cx.1 (cell := cl) (by rw [eT]; exact A.1) (arrOf hZ A.2.1) hty A.2.2 hin hv (g := mkF m pc Ls (.int j :: .ref a :: st)) rfl rfl (hb cx.2.1 hd) t k
/-- System.arraycopy between two arrays of one primitive kind -/
theorem g_arrcopy (X : St p l e R s m args below meth c own bytes maxL ret nm Z EL nw us bs T h cells slots) {ix : Nat} {a b : Addr} {k k' : ClassId} {ty : FieldType} {z z' sp dp nn0 : Int32} {vs vd : List Value} {dv dd : Value} (w1 : (Jvm.Cond.methodLink own ix Jvm.Stand.acN).before a0 Z = true) (w2 : (Jvm.Cond.native Jvm.Stand.acN).before a0 Z = true) (w3 : (Jvm.Cond.static Jvm.Stand.acN).before a0 Z = true) (w4 : (Jvm.Cond.initialized "java/lang/System").before a0 Z = true)
    (A : Arv Z h a k ty z vs dv) (B : Arv Z h b k' ty z' vd dd) (hty : refKind ty = false) (h1 : ¬ sp < 0) (h2 : ¬ dp < 0) (h3 : ¬ nn0 < 0) (h4 : sp.toNatClampNeg + nn0.toNatClampNeg ≤ z.toNatClampNeg) (h5 : dp.toNatClampNeg + nn0.toNatClampNeg ≤ z'.toNatClampNeg) (hl : dp.toNatClampNeg + nn0.toNatClampNeg ≤ vd.length)
    (vr : List Value) (hvr : vd.take dp.toNatClampNeg ++ ((List.range nn0.toNatClampNeg).map fun i => vs.getD (sp.toNatClampNeg + i) dv) ++ vd.drop (dp.toNatClampNeg + nn0.toNatClampNeg) = vr) (hb' : b ∈ us) (hsize : Ls.size = maxL) (hd : decode bytes pc = .ok (.invokestatic ix, 3))
    (hf : 1 ≤ R.frames) (W : Nat) (hW : (st.map fun v => v.category).sum ≤ W) (hlo : W + (nativeFrameWords "java/lang/System" "arraycopy" 5 + 11) ≤ R.locals) (pc' : Nat) (hp : pc + 3 = pc')
    (K : ∀ T' h', St p l e R s m args below meth c own bytes maxL ret nm Z EL nw us bs T' h' cells slots → Keep h h' [b] → Arv Z h' b k' ty z' vr dd → Goes p e below s Z EL nw Q kk nn (T'.setTop (mkF m pc' Ls st))) : Goes p e below s Z EL nw Q kk nn (T.setTop (mkF m pc Ls (.int nn0 :: .int dp :: .ref b :: .int sp :: .ref a :: st))) := by
  subst hp hvr
  obtain ⟨cx, vm0, locs, Y, N, eT, hS, hZ, hown, hE, hC, hU, hWn⟩ := X
  obtain ⟨u1, u2, u3⟩ := hU b hb'
  obtain ⟨T', h', L, Y', e', N', K', A', stp⟩ := cpA Y cx.1 hZ hown w1 w2 w3 w4 eT A B (Or.inl ⟨rfl, hty⟩) h1 h2 h3 h4 h5 rfl hl N u1 (g := mkF m pc Ls (.int nn0 :: .int dp :: .ref b :: .int sp :: .ref a :: st)) rfl (by rw [cx.2.2.1]; exact hsize) rfl (hb cx.2.1 hd) hf (W := W) (by show 2 * 0 + _ ≤ _; omega) hlo
  have hsf : ∀ x ∈ [b], Safe Z EL vm0 h x := fun x hx => by cases List.mem_singleton.mp hx; exact u3
  exact (K T' h' ⟨cx, vm0, L, Y', N', e', ⟨hS.1, hS.2.mono K'.1⟩, hZ, hown, ext_keep hE K' (fun x hx => by cases List.mem_singleton.mp hx; exact u1), hC.trans (CHr.keep K' hsf hC.1), fun x hx => ⟨(hU x hx).1, Nat.lt_of_lt_of_le (hU x hx).2.1 K'.1, Safe.keep K' hsf hC.1 (hU x hx).2.2⟩, hWn⟩ K' A').step stp
/-- Object's constructor -/
theorem g_initO (X : St p l e R s m args below meth c own bytes maxL ret nm Z EL nw us bs T h cells slots) {ix : Nat} {a : Addr} (w1 : (Jvm.Cond.methodLink own ix Lib.objectInit).before a0 Z = true) (w2 : (Jvm.Cond.instanceMethod Lib.objectInit).before a0 Z = true) (w3 : (Jvm.Cond.code Lib.objectInit ⟨#[0xb1]⟩ 1 none).before a0 Z = true) (hsize : Ls.size = maxL)
    (hd : decode bytes pc = .ok (.invokespecial ix, 3)) (hf : 1 ≤ R.frames) (W : Nat) (hW : (st.map fun v => v.category).sum ≤ W) (hl : W + 12 ≤ R.locals) (pc' : Nat) (hp : pc + 3 = pc')
    (K : ∀ T', St p l e R s m args below meth c own bytes maxL ret nm Z EL nw us bs T' h cells slots → Goes p e below s Z EL nw Q kk nn (T'.setTop (mkF m pc' Ls st))) : Goes p e below s Z EL nw Q kk nn (T.setTop (mkF m pc Ls (.ref a :: st))) := by
  subst hp
  obtain ⟨cx, vm0, locs, Y, N, eT, hS, hZ, hown, r⟩ := X
  obtain ⟨T', Y', e', stp⟩ := initO Y cx.1 hZ hown w1 w2 w3 eT (g := mkF m pc Ls (.ref a :: st)) rfl (by rw [cx.2.2.1]; exact hsize) rfl (hb cx.2.1 hd) hf (W := W) (by show 2 * 0 + _ ≤ _; omega) hl
  exact (K T' ⟨cx, vm0, locs, Y', N, e', hS, hZ, hown, r⟩).step stp
/-- an array's clone -/
theorem g_clone (X : St p l e R s m args below meth c own bytes maxL ret nm Z EL nw us bs T h cells slots) {ad : String} {ix : Nat} {a : Addr} {k : ClassId} {ty : FieldType} {z : Int32} {vs : List Value} {dv : Value}
    (w1 : (Jvm.Cond.methodLink own ix ⟨ad, "clone", "()Ljava/lang/Object;"⟩).before a0 Z = true) (w2 : (Jvm.Cond.sameMethod ad "java/lang/Object" "clone" "()Ljava/lang/Object;").before a0 Z = true) (w3 : (Jvm.Cond.native ⟨"java/lang/Object", "clone", "()Ljava/lang/Object;"⟩).before a0 Z = true)
    (w4 : (Jvm.Cond.instanceMethod ⟨"java/lang/Object", "clone", "()Ljava/lang/Object;"⟩).before a0 Z = true) (w5 : (Jvm.Cond.selects ad ⟨ad, "clone", "()Ljava/lang/Object;"⟩ ⟨"java/lang/Object", "clone", "()Ljava/lang/Object;"⟩).before a0 Z = true) (w6 : (Jvm.Cond.castable ad "java/lang/Cloneable").before a0 Z = true)
    (A : Arv Z h a k ty z vs dv) (E : Exa Z h a ad) (hsize : Ls.size = maxL) (hd : decode bytes pc = .ok (.invokevirtual ix, 3)) (hf : 1 ≤ R.frames) (W : Nat) (hW : (st.map fun v => v.category).sum ≤ W) (hl : W + 14 ≤ R.locals) (cap : Nat) (hcap : z.toNatClampNeg ≤ cap)
    {ck cs : Nat} (hck : cells + 1 = ck) (hcs : slots + cap = cs) (hc : ck ≤ R.cells) (hs : cs ≤ R.slots) (pc' : Nat) (hp : pc + 3 = pc')
    (K : ∀ a' T' h', a' = h.size → St p l e R s m args below meth c own bytes maxL ret nm Z EL nw (a' :: us) bs T' h' ck cs → Ext h h' → Arv Z h' a' k ty z vs dv → Exa Z h' a' ad → Goes p e below s Z EL nw Q kk nn (T'.setTop (mkF m pc' Ls (.ref a' :: st)))) : Goes p e below s Z EL nw Q kk nn (T.setTop (mkF m pc Ls (.ref a :: st))) := by
  subst hp hck hcs
  obtain ⟨cx, vm0, locs, Y, N, eT, hS, hZ, hown, hE, hC, hU, hWn⟩ := X
  obtain ⟨T', h', Y', e', Ex, A', E', stp⟩ := cloneH Y cx.1 hZ hown w1 w2 w3 w4 w5 w6 eT A.arh E (g := mkF m pc Ls (.ref a :: st)) rfl (by rw [cx.2.2.1]; exact hsize) rfl (hb cx.2.1 hd) hf (W := W) (by show 2 * 0 + _ ≤ _; omega) hl hcap hc hs
  obtain ⟨cl, q1, q2, q3, q4, q5, q6⟩ := A'
  refine (K h.size T' h' rfl ⟨cx, vm0, locs, Y', N, e', ⟨hS.1, hS.2.mono Ex.1⟩, hZ, hown, hE.trans Ex, hC.trans (CHr.ext Ex hC.1), ?_, hWn⟩ Ex ⟨cl, q1, q2, q3, q4, fun i hi => q5 i hi, fun i hi => q6 i hi⟩ E').step stp
  intro x hx
  rcases List.mem_cons.mp hx with rfl | hx
  · exact ⟨hE.1, E'.lt, Safe.ext Ex hC.1 (Safe.new (Nat.le_refl _))⟩
  · obtain ⟨q1, q2, q3⟩ := hU x hx
    exact ⟨q1, Nat.lt_of_lt_of_le q2 Ex.1, Safe.ext Ex hC.1 q3⟩
end HeapOps
section CallOps
variable {p : Program} {l : Launch} {e : Env} {R : Room} {s : State} {m : MethodId} {args : Array Value} {below : List Frame} {meth : Method} {c : Code}
  {own : String} {bytes : ByteArray} {maxL : Nat} {ret : Option FieldType} {nm : String} {Z : State} {EL : List (String × Nat)} {nw : Bool} {us : List Addr} {bs : List (String × Nat × Addr)}
  {T : State} {h : Heap} {cells slots : Nat} {Q : Option Value → Heap → Prop} {kk nn : Nat} {a0 : Array Value} {pc : Nat} {Ls : Array Slot} {st : List Value}

/-- who pays a call: the callee's contract -/
theorem backC {y : MethodName} {cb : ByteArray} {cm : Nat} {cr : Option FieldType} {rm : Room} {len W : Nat} {as' : Array Value} {us' : List Addr} {Qc : Option Value → Heap → Prop} {vm0 : Vm}
    (hM : Ctr l Z EL nw y cb cm cr rm as' h us' Qc) (hZ : Z.Warmed39 vm0) (wc : (Jvm.Cond.code y cb cm cr).before a0 Z = true) (wz : (Jvm.Cond.initialized y.cls).before a0 Z = true) (hf : rm.frames + 1 ≤ R.frames) (hl : W + (cm + 11) + rm.locals ≤ R.locals)
    {a1 : Array Value} (hEL : EW Z a1 EL) (hE : Ext Z.heap h) (H : CHv Z EL vm0 h) (hU : ∀ x ∈ us', Z.heap.size ≤ x ∧ x < h.size ∧ Safe Z EL vm0 h x) :
    BackS l R p e below (s.setVm vm0) args y len W (fun A a => a = as' ∧ A.U.heap = h ∧ A.cells + rm.cells ≤ R.cells ∧ A.slots + rm.slots ≤ R.slots)
      (fun A _ v B => ∃ L, Qc v B.U.heap ∧ Fr Z.heap.size L ∧ Ext Z.heap B.U.heap ∧ B.locs = A.locs ++ L ∧ B.cells = A.cells + rm.cells ∧ B.slots = A.slots + rm.slots ∧ CHr Z EL vm0 h B.U.vm B.U.heap ∧ (nw = true → (s.setVm vm0).WarmedH B.U.vm)) :=
  BackS.of_freeW (bytes := cb) (maxL := cm) (ret := cr)
    (E := fun _ first o t L k n => k = rm.cells ∧ n = rm.slots ∧ (∃ v, o = .returned v ∧ Qc v t.heap) ∧ Fr Z.heap.size L ∧ Ext Z.heap t.heap ∧ CHr Z EL first.vm first.heap t.vm t.heap ∧ (nw = true → first.WarmedH t.vm)) (hM []) hf hl
    (fun m meth c A a Y hp => have hU : Z.Warmed39 A.U.vm := wtrans (s := s.setVm vm0) hZ Y.warmed
      ⟨by show (Jvm.Cond.and _ .tt).before a A.U = true; rw [Jvm.Cond.before_and, mv hU wc]; rfl, mv hU wc, mv hU wz, hp.2.2.1, hp.2.2.2⟩)
    (fun m meth c A a g mk Y hp => ⟨hp.1, wtrans (s := s.setVm vm0) hZ Y.warmed, hp.2.1, hE, (CHv.at Y hZ hEL H).1, fun x hx => ⟨(hU x hx).1, (hU x hx).2.1, (CHv.at Y hZ hEL H).safe (hU x hx).2.1 (hU x hx).2.2⟩⟩) (fun _ _ _ _ _ _ _ _ _ => trivial)
    (fun _ _ _ _ ⟨v, L, h1, h2, h3, h4, h5, h6, h7⟩ => ⟨L, _, _, h6, rfl, rfl, ⟨v, h1, h2⟩, h3, h4, h5, h7⟩)
    (fun m meth c A a g mk v t L k n Y hp _ _ ⟨e1, e2, ⟨v', e3, e4⟩, e5, e6, e7, e8⟩ => by
      cases e3; subst e1 e2
      refine ⟨L, e4, e5, e6, rfl, rfl, rfl, (CHv.at Y hZ hEL H).trans ?_, fun q => State.WarmedH.trans (t := A.U) Y.warmed (e8 q)⟩
      rw [← hp.2.1]; exact e7)
/-- behind a call -/
theorem St.back {vm0 : Vm} {locs : List Loc} {B : Pt} {L : List Loc} {ck cs : Nat}
    (cx : p.tables.exec = Jvm.exec ∧ c.code = bytes ∧ c.maxLocals = maxL ∧ meth.sig.returnType = ret ∧ meth.name = nm ∧ meth.locks = false ∧ ∃ a0, EW Z a0 EL)
    (N : Fr Z.heap.size locs) (hS : s.Since vm0 h.size) (hZ : Z.Warmed39 vm0) (hown : vm0.findClass own = some m.cls) (hC : CHr Z EL s.vm s.heap vm0 h)
    (hU : ∀ x ∈ us, Z.heap.size ≤ x ∧ x < h.size ∧ Safe Z EL vm0 h x) (hW : (nw = true → s.WarmedH vm0) ∧ ∀ q ∈ bs, Lit (s.setVm vm0) q.1 q.2.1 q.2.2)
    (Y : Stand p l e R ((s.setVm vm0).setVm B.U.vm) m args below meth c B.U B.locs B.cells B.slots) (h2 : (s.setVm vm0).Since B.U.vm B.U.heap.size) (hg : h.size ≤ B.U.heap.size)
    (N' : Fr Z.heap.size L) (hE : Ext Z.heap B.U.heap) (l1 : B.locs = locs ++ L) (l2 : B.cells = ck) (l3 : B.slots = cs) (hC' : CHr Z EL vm0 h B.U.vm B.U.heap) (hW' : nw = true → (s.setVm vm0).WarmedH B.U.vm) :
    St p l e R s m args below meth c own bytes maxL ret nm Z EL nw us bs B.U B.U.heap ck cs := by
  subst l2 l3
  rw [l1] at Y
  exact ⟨cx, B.U.vm, locs ++ L, Y, N.app N', rfl, hS.trans h2 hg, State.Warmed39.trans hZ h2.1, (h2.1.alike.findClass _ _).trans hown, hE, hC.trans hC', fun x hx => ⟨(hU x hx).1, Nat.lt_of_lt_of_le (hU x hx).2.1 hg, hC'.safe (hU x hx).2.1 (hU x hx).2.2⟩, fun q => State.WarmedH.trans (t := s.setVm vm0) (hW.1 q) (hW' q), fun q hq => (hW.2 q hq).stays h2.1⟩
theorem g_callS (X : St p l e R s m args below meth c own bytes maxL ret nm Z EL nw us bs T h cells slots) {y : MethodName} {cb : ByteArray} {cm : Nat} {cr : Option FieldType} {rm : Room} {as' : Array Value} {us' : List Addr} {Qc : Option Value → Heap → Prop} {ix : Nat}
    (w1 : (Jvm.Cond.methodLink own ix y).before a0 Z = true) (w2 : (Jvm.Cond.static y).before a0 Z = true) (w3 : (Jvm.Cond.initialized y.cls).before a0 Z = true) (w4 : (Jvm.Cond.code y cb cm cr).before a0 Z = true)
    (hy : y.cls ≠ "java/lang/invoke/MethodHandle" ∧ y.cls ≠ "java/lang/invoke/VarHandle") (hM : Ctr l Z EL nw y cb cm cr rm as' h us' Qc) (hus : ∀ x ∈ us', x ∈ us)
    {argsL rest : List Value} {ps : List FieldType} {rt : Option FieldType} (hpd : parseMethodDescriptor y.desc = some ⟨ps, rt⟩) (hlen : argsL.length = ps.length) (has : argsL.toArray = as') (hst : st = argsL.reverse ++ rest) (hsize : Ls.size = maxL)
    (W : Nat) (hW : (rest.map fun v => v.category).sum ≤ W) (hf : rm.frames + 1 ≤ R.frames) (hl : W + (cm + 11) + rm.locals ≤ R.locals) {ck cs : Nat} (hck : cells + rm.cells = ck) (hcs : slots + rm.slots = cs) (hc : ck ≤ R.cells) (hs : cs ≤ R.slots)
    (hd : decode bytes pc = .ok (.invokestatic ix, 3)) (pc' : Nat) (hp : pc + 3 = pc')
    (K : ∀ v T' h', St p l e R s m args below meth c own bytes maxL ret nm Z EL nw us bs T' h' ck cs → Qc v h' → Goes p e below s Z EL nw Q kk nn (T'.setTop (mkF m pc' Ls (v.toList ++ rest)))) : Goes p e below s Z EL nw Q kk nn (T.setTop (mkF m pc Ls st)) := by
  subst hp hck hcs
  obtain ⟨cx, vm0, locs, Y, N, eT, hS, hZ, hown, hE, hC, hU, hWn⟩ := X
  obtain ⟨a1, hEL⟩ := cx.2.2.2.2.2.2
  have w4' := mvT (s := s.setVm vm0) (args := args) hZ w4
  obtain ⟨mk, hnamed⟩ := Jvm.Cond.code_named w4'
  obtain ⟨methM, cM, hmethM, -, -, -, -, -, -, hsigM⟩ := Jvm.Cond.code_spec hnamed w4'
  obtain ⟨v, vm₁, B, -, Y', h2, hg, ⟨L, q1, q2, q3, q4, q5, q6, q7, q8⟩, stp⟩ := Y.staticBackS cx.1 (own := own) (index := ix) (y := y) hown (mvT (s := s.setVm vm0) hZ w1) (mvT (s := s.setVm vm0) hZ w2) (mvT (s := s.setVm vm0) hZ w3) hnamed hmethM hsigM hy
    (backC (W := W) hM hZ w4 w3 hf hl hEL hE hC.1 fun x hx => hU x (hus x hx)) (g := mkF m pc Ls st) rfl (by rw [cx.2.2.1]; exact hsize) (Steps.refl _) (argsL := argsL) (rest := rest) (lenOf hpd hlen) hst (by show 2 * 0 + _ ≤ _; omega) (hb cx.2.1 hd)
    (fun _ _ => ⟨has, eT, hc, hs⟩)
  exact (K v B.U B.U.heap (St.back cx N hS hZ hown hC hU hWn Y' h2 (by rw [← eT]; exact hg) q2 q3 q4 q5 q6 q7 q8) q1).step fun t k => stp.trans k
theorem g_callI (X : St p l e R s m args below meth c own bytes maxL ret nm Z EL nw us bs T h cells slots) {y : MethodName} {cb : ByteArray} {cm : Nat} {rm : Room} {as' : Array Value} {us' : List Addr} {Qc : Option Value → Heap → Prop} {ix : Nat} (hy1 : y.name = "<init>")
    (w1 : (Jvm.Cond.methodLink own ix y).before a0 Z = true) (w2 : (Jvm.Cond.instanceMethod y).before a0 Z = true) (w3 : (Jvm.Cond.initialized y.cls).before a0 Z = true) (w4 : (Jvm.Cond.code y cb cm none).before a0 Z = true)
    (hy : y.cls ≠ "java/lang/invoke/MethodHandle" ∧ y.cls ≠ "java/lang/invoke/VarHandle") (hM : Ctr l Z EL nw y cb cm none rm as' h us' Qc) (hus : ∀ x ∈ us', x ∈ us)
    {a : Addr} {argsL rest : List Value} {ps : List FieldType} {rt : Option FieldType} (hpd : parseMethodDescriptor y.desc = some ⟨ps, rt⟩) (hlen : argsL.length = ps.length) (has : (.ref a :: argsL).toArray = as') (hst : st = argsL.reverse ++ .ref a :: rest) (hsize : Ls.size = maxL)
    (W : Nat) (hW : (rest.map fun v => v.category).sum ≤ W) (hf : rm.frames + 1 ≤ R.frames) (hl : W + (cm + 11) + rm.locals ≤ R.locals) {ck cs : Nat} (hck : cells + rm.cells = ck) (hcs : slots + rm.slots = cs) (hc : ck ≤ R.cells) (hs : cs ≤ R.slots)
    (hd : decode bytes pc = .ok (.invokespecial ix, 3)) (pc' : Nat) (hp : pc + 3 = pc')
    (K : ∀ v T' h', St p l e R s m args below meth c own bytes maxL ret nm Z EL nw us bs T' h' ck cs → Qc v h' → Goes p e below s Z EL nw Q kk nn (T'.setTop (mkF m pc' Ls (v.toList ++ rest)))) : Goes p e below s Z EL nw Q kk nn (T.setTop (mkF m pc Ls st)) := by
  subst hp hck hcs
  obtain ⟨cx, vm0, locs, Y, N, eT, hS, hZ, hown, hE, hC, hU, hWn⟩ := X
  obtain ⟨a1, hEL⟩ := cx.2.2.2.2.2.2
  obtain ⟨v, vm₁, B, -, Y', h2, hg, ⟨L, q1, q2, q3, q4, q5, q6, q7, q8⟩, stp⟩ := Y.specialBackS cx.1 (own := own) (index := ix) (y := y) hy1 hown (mvT (s := s.setVm vm0) hZ w1) (mvT (s := s.setVm vm0) hZ w2) (mvT (s := s.setVm vm0) hZ w4) hy
    (backC (W := W) hM hZ w4 w3 hf hl hEL hE hC.1 fun x hx => hU x (hus x hx)) (g := mkF m pc Ls st) rfl (by rw [cx.2.2.1]; exact hsize) (Steps.refl _) (a := a) (argsL := argsL) (rest := rest) (lenOf hpd hlen) hst (by show 2 * 0 + _ ≤ _; omega) (hb cx.2.1 hd)
    (fun _ _ => ⟨has, eT, hc, hs⟩)
  exact (K v B.U B.U.heap (St.back cx N hS hZ hown hC hU hWn Y' h2 (by rw [← eT]; exact hg) q2 q3 q4 q5 q6 q7 q8) q1).step fun t k => stp.trans k
theorem nfSel {C : String} {y : MethodName} (w : (Jvm.Cond.selects C y y).before a0 Z = true) : ∀ s' : State, Z.Warmed39 s'.vm → NotFace s' y := fun s' hZ => notFace_of_selects (args := #[]) (mvT (s := s') hZ w)
theorem g_callV (X : St p l e R s m args below meth c own bytes maxL ret nm Z EL nw us bs T h cells slots) {C : String} {y z : MethodName} {cb : ByteArray} {cm : Nat} {cr : Option FieldType} {rm : Room} {as' : Array Value} {us' : List Addr} {Qc : Option Value → Heap → Prop} {ix : Nat}
    (w1 : (Jvm.Cond.methodLink own ix y).before a0 Z = true) (w2 : (Jvm.Cond.declares y).before a0 Z = true) (w3 : (Jvm.Cond.selects C y z).before a0 Z = true) (w4 : (Jvm.Cond.instanceMethod z).before a0 Z = true) (w5 : (Jvm.Cond.initialized z.cls).before a0 Z = true) (w6 : (Jvm.Cond.code z cb cm cr).before a0 Z = true)
    (hnf : ∀ s' : State, Z.Warmed39 s'.vm → NotFace s' y) (hy : y.cls ≠ "java/lang/invoke/MethodHandle" ∧ y.cls ≠ "java/lang/invoke/VarHandle") {a : Addr} (Ex : Exa Z h a C) (hM : Ctr l Z EL nw z cb cm cr rm as' h us' Qc) (hus : ∀ x ∈ us', x ∈ us)
    {argsL rest : List Value} {ps : List FieldType} {rt : Option FieldType} (hpd : parseMethodDescriptor y.desc = some ⟨ps, rt⟩) (hlen : argsL.length = ps.length) (has : (.ref a :: argsL).toArray = as') (hst : st = argsL.reverse ++ .ref a :: rest) (hsize : Ls.size = maxL)
    (W : Nat) (hW : (rest.map fun v => v.category).sum ≤ W) (hf : rm.frames + 1 ≤ R.frames) (hl : W + (cm + 11) + rm.locals ≤ R.locals) {ck cs : Nat} (hck : cells + rm.cells = ck) (hcs : slots + rm.slots = cs) (hc : ck ≤ R.cells) (hs : cs ≤ R.slots)
    (hd : decode bytes pc = .ok (.invokevirtual ix, 3)) (pc' : Nat) (hp : pc + 3 = pc')
    (K : ∀ v T' h', St p l e R s m args below meth c own bytes maxL ret nm Z EL nw us bs T' h' ck cs → Qc v h' → Goes p e below s Z EL nw Q kk nn (T'.setTop (mkF m pc' Ls (v.toList ++ rest)))) : Goes p e below s Z EL nw Q kk nn (T.setTop (mkF m pc Ls st)) := by
  subst hp hck hcs
  obtain ⟨cx, vm0, locs, Y, N, eT, hS, hZ, hown, hE, hC, hU, hWn⟩ := X
  obtain ⟨a1, hEL⟩ := cx.2.2.2.2.2.2
  obtain ⟨cq, kq, qa, qb, qc⟩ := isOf (s := s.setVm vm0) hZ eT Ex
  obtain ⟨v, vm₁, B, -, Y', h2, hg, ⟨L, q1, q2, q3, q4, q5, q6, q7, q8⟩, stp⟩ := Y.virtualBackS cx.1 (own := own) (index := ix) (y := y) (z := z) hown (mvT (s := s.setVm vm0) hZ w1) (mvT (s := s.setVm vm0) hZ w2) (hnf (s.setVm vm0) hZ) (mvT (s := s.setVm vm0) hZ w3) (mvT (s := s.setVm vm0) hZ w4) hy
    (backC (W := W) hM hZ w6 w5 hf hl hEL hE hC.1 fun x hx => hU x (hus x hx)) qa qc (g := mkF m pc Ls st) rfl (by rw [cx.2.2.1]; exact hsize) (Steps.refl _) (argsL := argsL) (rest := rest) (lenOf hpd hlen) hst (by show 2 * 0 + _ ≤ _; omega) (hb cx.2.1 hd)
    (fun _ _ => ⟨has, eT, hc, hs⟩)
  exact (K v B.U B.U.heap (St.back cx N hS hZ hown hC hU hWn Y' h2 (by rw [← eT]; exact hg) q2 q3 q4 q5 q6 q7 q8) q1).step fun t k => stp.trans k
theorem g_callSp (X : St p l e R s m args below meth c own bytes maxL ret nm Z EL nw us bs T h cells slots) {y : MethodName} {cb : ByteArray} {cm : Nat} {cr : Option FieldType} {rm : Room} {as' : Array Value} {us' : List Addr} {Qv : Value → Prop} {ix : Nat}
    (w1 : (Jvm.Cond.methodLink own ix y).before a0 Z = true) (w2 : (Jvm.Cond.static y).before a0 Z = true) (w3 : (Jvm.Cond.initialized y.cls).before a0 Z = true) (w4 : (Jvm.Cond.code y cb cm cr).before a0 Z = true)
    (hy : y.cls ≠ "java/lang/invoke/MethodHandle" ∧ y.cls ≠ "java/lang/invoke/VarHandle") (hM : Ctr l Z EL nw y cb cm cr rm as' h us' (PureQ h Qv)) (hus : ∀ x ∈ us', x ∈ us)
    {argsL rest : List Value} {ps : List FieldType} {rt : Option FieldType} (hpd : parseMethodDescriptor y.desc = some ⟨ps, rt⟩) (hlen : argsL.length = ps.length) (has : argsL.toArray = as') (hst : st = argsL.reverse ++ rest) (hsize : Ls.size = maxL)
    (W : Nat) (hW : (rest.map fun v => v.category).sum ≤ W) (hf : rm.frames + 1 ≤ R.frames) (hl : W + (cm + 11) + rm.locals ≤ R.locals) {ck cs : Nat} (hck : cells + rm.cells = ck) (hcs : slots + rm.slots = cs) (hc : ck ≤ R.cells) (hs : cs ≤ R.slots)
    (hd : decode bytes pc = .ok (.invokestatic ix, 3)) (pc' : Nat) (hp : pc + 3 = pc')
    (K : ∀ w T', St p l e R s m args below meth c own bytes maxL ret nm Z EL nw us bs T' h ck cs → Qv w → Goes p e below s Z EL nw Q kk nn (T'.setTop (mkF m pc' Ls (w :: rest)))) : Goes p e below s Z EL nw Q kk nn (T.setTop (mkF m pc Ls st)) :=
  g_callS X w1 w2 w3 w4 hy hM hus hpd hlen has hst hsize W hW hf hl hck hcs hc hs hd pc' hp (by
    intro v T' h' X' hq
    obtain ⟨rfl, w, rfl, hw⟩ := hq
    exact K w T' X' hw)
theorem g_callSv (X : St p l e R s m args below meth c own bytes maxL ret nm Z EL nw us bs T h cells slots) {y : MethodName} {cb : ByteArray} {cm : Nat} {cr : Option FieldType} {rm : Room} {as' : Array Value} {us' : List Addr} {Qv : Value → Heap → Prop} {ix : Nat}
    (w1 : (Jvm.Cond.methodLink own ix y).before a0 Z = true) (w2 : (Jvm.Cond.static y).before a0 Z = true) (w3 : (Jvm.Cond.initialized y.cls).before a0 Z = true) (w4 : (Jvm.Cond.code y cb cm cr).before a0 Z = true)
    (hy : y.cls ≠ "java/lang/invoke/MethodHandle" ∧ y.cls ≠ "java/lang/invoke/VarHandle") (hM : Ctr l Z EL nw y cb cm cr rm as' h us' (ValQ Qv)) (hus : ∀ x ∈ us', x ∈ us)
    {argsL rest : List Value} {ps : List FieldType} {rt : Option FieldType} (hpd : parseMethodDescriptor y.desc = some ⟨ps, rt⟩) (hlen : argsL.length = ps.length) (has : argsL.toArray = as') (hst : st = argsL.reverse ++ rest) (hsize : Ls.size = maxL)
    (W : Nat) (hW : (rest.map fun v => v.category).sum ≤ W) (hf : rm.frames + 1 ≤ R.frames) (hl : W + (cm + 11) + rm.locals ≤ R.locals) {ck cs : Nat} (hck : cells + rm.cells = ck) (hcs : slots + rm.slots = cs) (hc : ck ≤ R.cells) (hs : cs ≤ R.slots)
    (hd : decode bytes pc = .ok (.invokestatic ix, 3)) (pc' : Nat) (hp : pc + 3 = pc')
    (K : ∀ w T' h', St p l e R s m args below meth c own bytes maxL ret nm Z EL nw us bs T' h' ck cs → Qv w h' → Goes p e below s Z EL nw Q kk nn (T'.setTop (mkF m pc' Ls (w :: rest)))) : Goes p e below s Z EL nw Q kk nn (T.setTop (mkF m pc Ls st)) :=
  g_callS X w1 w2 w3 w4 hy hM hus hpd hlen has hst hsize W hW hf hl hck hcs hc hs hd pc' hp (by
    intro v T' h' X' hq
    obtain ⟨w, rfl, hw⟩ := hq
    exact K w T' h' X' hw)
theorem g_callSn (X : St p l e R s m args below meth c own bytes maxL ret nm Z EL nw us bs T h cells slots) {y : MethodName} {cb : ByteArray} {cm : Nat} {cr : Option FieldType} {rm : Room} {as' : Array Value} {us' : List Addr} {Qn : Heap → Prop} {ix : Nat}
    (w1 : (Jvm.Cond.methodLink own ix y).before a0 Z = true) (w2 : (Jvm.Cond.static y).before a0 Z = true) (w3 : (Jvm.Cond.initialized y.cls).before a0 Z = true) (w4 : (Jvm.Cond.code y cb cm cr).before a0 Z = true)
    (hy : y.cls ≠ "java/lang/invoke/MethodHandle" ∧ y.cls ≠ "java/lang/invoke/VarHandle") (hM : Ctr l Z EL nw y cb cm cr rm as' h us' (VoidQ Qn)) (hus : ∀ x ∈ us', x ∈ us)
    {argsL rest : List Value} {ps : List FieldType} {rt : Option FieldType} (hpd : parseMethodDescriptor y.desc = some ⟨ps, rt⟩) (hlen : argsL.length = ps.length) (has : argsL.toArray = as') (hst : st = argsL.reverse ++ rest) (hsize : Ls.size = maxL)
    (W : Nat) (hW : (rest.map fun v => v.category).sum ≤ W) (hf : rm.frames + 1 ≤ R.frames) (hl : W + (cm + 11) + rm.locals ≤ R.locals) {ck cs : Nat} (hck : cells + rm.cells = ck) (hcs : slots + rm.slots = cs) (hc : ck ≤ R.cells) (hs : cs ≤ R.slots)
    (hd : decode bytes pc = .ok (.invokestatic ix, 3)) (pc' : Nat) (hp : pc + 3 = pc')
    (K : ∀ T' h', St p l e R s m args below meth c own bytes maxL ret nm Z EL nw us bs T' h' ck cs → Qn h' → Goes p e below s Z EL nw Q kk nn (T'.setTop (mkF m pc' Ls rest))) : Goes p e below s Z EL nw Q kk nn (T.setTop (mkF m pc Ls st)) :=
  g_callS X w1 w2 w3 w4 hy hM hus hpd hlen has hst hsize W hW hf hl hck hcs hc hs hd pc' hp (by
    intro v T' h' X' hq
    obtain ⟨rfl, hw⟩ := hq
    exact K T' h' X' hw)
theorem g_callIn (X : St p l e R s m args below meth c own bytes maxL ret nm Z EL nw us bs T h cells slots) {y : MethodName} {cb : ByteArray} {cm : Nat} {rm : Room} {as' : Array Value} {us' : List Addr} {Qn : Heap → Prop} {ix : Nat} (hy1 : y.name = "<init>")
    (w1 : (Jvm.Cond.methodLink own ix y).before a0 Z = true) (w2 : (Jvm.Cond.instanceMethod y).before a0 Z = true) (w3 : (Jvm.Cond.initialized y.cls).before a0 Z = true) (w4 : (Jvm.Cond.code y cb cm none).before a0 Z = true)
    (hy : y.cls ≠ "java/lang/invoke/MethodHandle" ∧ y.cls ≠ "java/lang/invoke/VarHandle") (hM : Ctr l Z EL nw y cb cm none rm as' h us' (VoidQ Qn)) (hus : ∀ x ∈ us', x ∈ us)
    {a : Addr} {argsL rest : List Value} {ps : List FieldType} {rt : Option FieldType} (hpd : parseMethodDescriptor y.desc = some ⟨ps, rt⟩) (hlen : argsL.length = ps.length) (has : (.ref a :: argsL).toArray = as') (hst : st = argsL.reverse ++ .ref a :: rest) (hsize : Ls.size = maxL)
    (W : Nat) (hW : (rest.map fun v => v.category).sum ≤ W) (hf : rm.frames + 1 ≤ R.frames) (hl : W + (cm + 11) + rm.locals ≤ R.locals) {ck cs : Nat} (hck : cells + rm.cells = ck) (hcs : slots + rm.slots = cs) (hc : ck ≤ R.cells) (hs : cs ≤ R.slots)
    (hd : decode bytes pc = .ok (.invokespecial ix, 3)) (pc' : Nat) (hp : pc + 3 = pc')
    (K : ∀ T' h', St p l e R s m args below meth c own bytes maxL ret nm Z EL nw us bs T' h' ck cs → Qn h' → Goes p e below s Z EL nw Q kk nn (T'.setTop (mkF m pc' Ls rest))) : Goes p e below s Z EL nw Q kk nn (T.setTop (mkF m pc Ls st)) :=
  g_callI X hy1 w1 w2 w3 w4 hy hM hus hpd hlen has hst hsize W hW hf hl hck hcs hc hs hd pc' hp (by
    intro v T' h' X' hq
    obtain ⟨rfl, hw⟩ := hq
    exact K T' h' X' hw)
theorem g_callVp (X : St p l e R s m args below meth c own bytes maxL ret nm Z EL nw us bs T h cells slots) {C : String} {y z : MethodName} {cb : ByteArray} {cm : Nat} {cr : Option FieldType} {rm : Room} {as' : Array Value} {us' : List Addr} {Qv : Value → Prop} {ix : Nat}
    (w1 : (Jvm.Cond.methodLink own ix y).before a0 Z = true) (w2 : (Jvm.Cond.declares y).before a0 Z = true) (w3 : (Jvm.Cond.selects C y z).before a0 Z = true) (w4 : (Jvm.Cond.instanceMethod z).before a0 Z = true) (w5 : (Jvm.Cond.initialized z.cls).before a0 Z = true) (w6 : (Jvm.Cond.code z cb cm cr).before a0 Z = true)
    (hnf : ∀ s' : State, Z.Warmed39 s'.vm → NotFace s' y) (hy : y.cls ≠ "java/lang/invoke/MethodHandle" ∧ y.cls ≠ "java/lang/invoke/VarHandle") {a : Addr} (Ex : Exa Z h a C) (hM : Ctr l Z EL nw z cb cm cr rm as' h us' (PureQ h Qv)) (hus : ∀ x ∈ us', x ∈ us)
    {argsL rest : List Value} {ps : List FieldType} {rt : Option FieldType} (hpd : parseMethodDescriptor y.desc = some ⟨ps, rt⟩) (hlen : argsL.length = ps.length) (has : (.ref a :: argsL).toArray = as') (hst : st = argsL.reverse ++ .ref a :: rest) (hsize : Ls.size = maxL)
    (W : Nat) (hW : (rest.map fun v => v.category).sum ≤ W) (hf : rm.frames + 1 ≤ R.frames) (hl : W + (cm + 11) + rm.locals ≤ R.locals) {ck cs : Nat} (hck : cells + rm.cells = ck) (hcs : slots + rm.slots = cs) (hc : ck ≤ R.cells) (hs : cs ≤ R.slots)
    (hd : decode bytes pc = .ok (.invokevirtual ix, 3)) (pc' : Nat) (hp : pc + 3 = pc')
    (K : ∀ w T', St p l e R s m args below meth c own bytes maxL ret nm Z EL nw us bs T' h ck cs → Qv w → Goes p e below s Z EL nw Q kk nn (T'.setTop (mkF m pc' Ls (w :: rest)))) : Goes p e below s Z EL nw Q kk nn (T.setTop (mkF m pc Ls st)) :=
  g_callV X w1 w2 w3 w4 w5 w6 hnf hy Ex hM hus hpd hlen has hst hsize W hW hf hl hck hcs hc hs hd pc' hp (by
    intro v T' h' X' hq
    obtain ⟨rfl, w, rfl, hw⟩ := hq
    exact K w T' X' hw)
theorem g_callVv (X : St p l e R s m args below meth c own bytes maxL ret nm Z EL nw us bs T h cells slots) {C : String} {y z : MethodName} {cb : ByteArray} {cm : Nat} {cr : Option FieldType} {rm : Room} {as' : Array Value} {us' : List Addr} {Qv : Value → Heap → Prop} {ix : Nat}
    (w1 : (Jvm.Cond.methodLink own ix y).before a0 Z = true) (w2 : (Jvm.Cond.declares y).before a0 Z = true) (w3 : (Jvm.Cond.selects C y z).before a0 Z = true) (w4 : (Jvm.Cond.instanceMethod z).before a0 Z = true) (w5 : (Jvm.Cond.initialized z.cls).before a0 Z = true) (w6 : (Jvm.Cond.code z cb cm cr).before a0 Z = true)
    (hnf : ∀ s' : State, Z.Warmed39 s'.vm → NotFace s' y) (hy : y.cls ≠ "java/lang/invoke/MethodHandle" ∧ y.cls ≠ "java/lang/invoke/VarHandle") {a : Addr} (Ex : Exa Z h a C) (hM : Ctr l Z EL nw z cb cm cr rm as' h us' (ValQ Qv)) (hus : ∀ x ∈ us', x ∈ us)
    {argsL rest : List Value} {ps : List FieldType} {rt : Option FieldType} (hpd : parseMethodDescriptor y.desc = some ⟨ps, rt⟩) (hlen : argsL.length = ps.length) (has : (.ref a :: argsL).toArray = as') (hst : st = argsL.reverse ++ .ref a :: rest) (hsize : Ls.size = maxL)
    (W : Nat) (hW : (rest.map fun v => v.category).sum ≤ W) (hf : rm.frames + 1 ≤ R.frames) (hl : W + (cm + 11) + rm.locals ≤ R.locals) {ck cs : Nat} (hck : cells + rm.cells = ck) (hcs : slots + rm.slots = cs) (hc : ck ≤ R.cells) (hs : cs ≤ R.slots)
    (hd : decode bytes pc = .ok (.invokevirtual ix, 3)) (pc' : Nat) (hp : pc + 3 = pc')
    (K : ∀ w T' h', St p l e R s m args below meth c own bytes maxL ret nm Z EL nw us bs T' h' ck cs → Qv w h' → Goes p e below s Z EL nw Q kk nn (T'.setTop (mkF m pc' Ls (w :: rest)))) : Goes p e below s Z EL nw Q kk nn (T.setTop (mkF m pc Ls st)) :=
  g_callV X w1 w2 w3 w4 w5 w6 hnf hy Ex hM hus hpd hlen has hst hsize W hW hf hl hck hcs hc hs hd pc' hp (by
    intro v T' h' X' hq
    obtain ⟨w, rfl, hw⟩ := hq
    exact K w T' h' X' hw)
theorem g_callVn (X : St p l e R s m args below meth c own bytes maxL ret nm Z EL nw us bs T h cells slots) {C : String} {y z : MethodName} {cb : ByteArray} {cm : Nat} {cr : Option FieldType} {rm : Room} {as' : Array Value} {us' : List Addr} {Qn : Heap → Prop} {ix : Nat}
    (w1 : (Jvm.Cond.methodLink own ix y).before a0 Z = true) (w2 : (Jvm.Cond.declares y).before a0 Z = true) (w3 : (Jvm.Cond.selects C y z).before a0 Z = true) (w4 : (Jvm.Cond.instanceMethod z).before a0 Z = true) (w5 : (Jvm.Cond.initialized z.cls).before a0 Z = true) (w6 : (Jvm.Cond.code z cb cm cr).before a0 Z = true)
    (hnf : ∀ s' : State, Z.Warmed39 s'.vm → NotFace s' y) (hy : y.cls ≠ "java/lang/invoke/MethodHandle" ∧ y.cls ≠ "java/lang/invoke/VarHandle") {a : Addr} (Ex : Exa Z h a C) (hM : Ctr l Z EL nw z cb cm cr rm as' h us' (VoidQ Qn)) (hus : ∀ x ∈ us', x ∈ us)
    {argsL rest : List Value} {ps : List FieldType} {rt : Option FieldType} (hpd : parseMethodDescriptor y.desc = some ⟨ps, rt⟩) (hlen : argsL.length = ps.length) (has : (.ref a :: argsL).toArray = as') (hst : st = argsL.reverse ++ .ref a :: rest) (hsize : Ls.size = maxL)
    (W : Nat) (hW : (rest.map fun v => v.category).sum ≤ W) (hf : rm.frames + 1 ≤ R.frames) (hl : W + (cm + 11) + rm.locals ≤ R.locals) {ck cs : Nat} (hck : cells + rm.cells = ck) (hcs : slots + rm.slots = cs) (hc : ck ≤ R.cells) (hs : cs ≤ R.slots)
    (hd : decode bytes pc = .ok (.invokevirtual ix, 3)) (pc' : Nat) (hp : pc + 3 = pc')
    (K : ∀ T' h', St p l e R s m args below meth c own bytes maxL ret nm Z EL nw us bs T' h' ck cs → Qn h' → Goes p e below s Z EL nw Q kk nn (T'.setTop (mkF m pc' Ls rest))) : Goes p e below s Z EL nw Q kk nn (T.setTop (mkF m pc Ls st)) :=
  g_callV X w1 w2 w3 w4 w5 w6 hnf hy Ex hM hus hpd hlen has hst hsize W hW hf hl hck hcs hc hs hd pc' hp (by
    intro v T' h' X' hq
    obtain ⟨rfl, hw⟩ := hq
    exact K T' h' X' hw)
end CallOps
end Jvm.OwnKit
namespace Jvm.OwnKit
open Sem ClassFile Op Lib Jvm.Stand Jvm.Free Jvm.LawKit Jvm.RoadKit
section StartFacts
variable {args : Array Value} {s : State} {t X F : Term} {a y : Addr}
theorem own_eqr (hF : F.eval args s none [] s = some (.ref y)) (h : (Jvm.Cond.eq X F).value args s none s [] = some true) : X.eval args s none [] s = some (.ref y) := by
  obtain ⟨x, y', e1, e2, k1, k2⟩ := cmp_v (Or.inl h)
  cases hF.symm.trans e2
  have hx : x.isRef = true := by cases x <;> simp_all [Jvm.Cond.value, Value.isRef]
  have q := gotT (eq_R e1 hF hx rfl) h
  rw [e1, q]
theorem own_fldI {C n d : String} {v : Int32} (ht : t.eval args s none [] s = some (.ref a)) (h : (Jvm.Cond.eq (.field t C n d) (.int v)).value args s none s [] = some true) : Fld s s.heap a C n d (.int v) := by
  have e := eqv_i (Term.int_eval v) h
  rw [fld_at ht] at e
  exact Fld.start e
theorem own_fld0 {C n d : String} (ht : t.eval args s none [] s = some (.ref a)) (h : (Jvm.Cond.eq (.field t C n d) .null).value args s none s [] = some true) : Fld s s.heap a C n d .null := by
  have e := null_v h
  rw [fld_at ht] at e
  exact Fld.start e
theorem own_fldR {C n d : String} {F : Term} (ht : t.eval args s none [] s = some (.ref a)) (hF : F.eval args s none [] s = some (.ref y)) (h : (Jvm.Cond.eq (.field t C n d) F).value args s none s [] = some true) : Fld s s.heap a C n d (.ref y) := by
  have e := own_eqr hF h
  rw [fld_at ht] at e
  exact Fld.start e
theorem own_len {cl : Cell} {ty : FieldType} {z : Int32} (A : Arr s s.heap a cl ty) (ht : t.eval args s none [] s = some (.ref a)) (h : (Jvm.Cond.eq (.length t) (.int z)).value args s none s [] = some true) : cl.slots.size < 2 ^ 31 ∧ cl.slots.size.toInt32 = z := by
  have e := eqv_i (Term.int_eval z) h
  have ha := Arr.fin (U := s) (Vm.Alike.refl _) A
  have e2 : (Term.length t).eval args s none [] s = if cl.slots.size < 2 ^ 31 then some (.int cl.slots.size.toInt32) else none := by simp [Term.eval, ht, ha]
  rw [e2] at e
  by_cases q : cl.slots.size < 2 ^ 31
  · rw [if_pos q] at e
    exact ⟨q, Value.int.inj (Option.some.inj e)⟩
  · rw [if_neg q] at e; cases e
theorem own_elem {cl : Cell} {ty : FieldType} {j : Int32} {F : Term} (A : Arr s s.heap a cl ty) (ht : t.eval args s none [] s = some (.ref a)) (hF : F.eval args s none [] s = some (.ref y)) (h : (Jvm.Cond.eq (.elem t (.int j)) F).value args s none s [] = some true) : cl.slots[j.toNatClampNeg]? = some (.ref y) :=
  (elem_in (own_eqr hF h) ht (Term.int_eval j) A.1).2
end StartFacts
end Jvm.OwnKit
namespace Jvm.OwnKit
open Sem ClassFile Op Lib Jvm.Stand Jvm.Free Jvm.LawKit Jvm.RoadKit
/-- a String of the signs cs (each 0 to 255), apart from what is under construction -/
def Str (Z : State) (h : Heap) (us : List Addr) (a : Addr) (cs : List Int32) : Prop :=
  ∃ (t : Addr) (kb : ClassId), Exa Z h a "java/lang/String" ∧ Fld Z h a "java/lang/String" "coder" "B" (.int 0) ∧ Fld Z h a "java/lang/String" "value" "[B" (.ref t) ∧
    Arv Z h t kb .byte (Int32.ofNat cs.length) ((cs.map fun c => c.toInt8.toInt32).map Value.int) (.int 0) ∧ (∀ c ∈ cs, ¬ c < 0 ∧ ¬ (255 : Int32) < c) ∧ cs.length ≤ 4000 ∧ ∀ x ∈ us, x ≠ a ∧ x ≠ t
section StrFacts
variable {Z : State} {h h' : Heap} {us us' ws : List Addr} {a b : Addr} {cs : List Int32} {sl : Nat} {v : Value}
theorem Str.ext (F : Str Z h us a cs) (E : Ext h h') : Str Z h' us a cs := by
  obtain ⟨t, kb, h1, h2, h3, h4, h5, h6, h7⟩ := F
  exact ⟨t, kb, h1.ext E, h2.ext E, h3.ext E, h4.ext E, h5, h6, h7⟩
theorem Str.keep (F : Str Z h us a cs) (K : Keep h h' ws) (q : ∀ x ∈ ws, x ∈ us) : Str Z h' us a cs := by
  obtain ⟨t, kb, h1, h2, h3, h4, h5, h6, h7⟩ := F
  have na : a ∉ ws := fun r => (h7 a (q a r)).1 rfl
  have nt : t ∉ ws := fun r => (h7 t (q t r)).2 rfl
  exact ⟨t, kb, h1.keep K, h2.keep K na, h3.keep K na, h4.keep K nt, h5, h6, h7⟩
theorem Str.wr (F : Str Z h us a cs) (W : Wr h h' b sl v) (q : b ∈ us) : Str Z h' us a cs := F.keep (Keep.of_wr W) (fun x hx => by cases List.mem_singleton.mp hx; exact q)
theorem Str.sub (F : Str Z h us a cs) (q : ∀ x ∈ us', x ∈ us) : Str Z h us' a cs := by
  obtain ⟨t, kb, h1, h2, h3, h4, h5, h6, h7⟩ := F
  exact ⟨t, kb, h1, h2, h3, h4, h5, h6, fun x hx => h7 x (q x hx)⟩
theorem Str.grow (F : Str Z h us a cs) (E : Ext h h') (q : b = h.size) : Str Z h' (b :: us) a cs := by
  obtain ⟨t, kb, h1, h2, h3, h4, h5, h6, h7⟩ := F
  refine ⟨t, kb, h1.ext E, h2.ext E, h3.ext E, h4.ext E, h5, h6, fun x hx => ?_⟩
  rcases List.mem_cons.mp hx with rfl | hx
  · subst q; exact ⟨Nat.ne_of_gt h1.lt, Nat.ne_of_gt h4.lt⟩
  · exact h7 x hx
theorem Str.exa (F : Str Z h us a cs) : Exa Z h a "java/lang/String" := by obtain ⟨t, kb, h1, -⟩ := F; exact h1
theorem Str.lt (F : Str Z h us a cs) : a < h.size := F.exa.lt
theorem Str.ne (F : Str Z h us a cs) {x : Addr} (q : x ∈ us) : x ≠ a := by obtain ⟨t, kb, h1, h2, h3, h4, h5, h6, h7⟩ := F; exact (h7 x q).1
theorem str_of {h0 : Heap} (q : ∃ (t : Addr) (kb : ClassId), Exa Z h' a "java/lang/String" ∧ Fld Z h' a "java/lang/String" "coder" "B" (.int 0) ∧ Fld Z h' a "java/lang/String" "value" "[B" (.ref t) ∧ Arv Z h' t kb .byte (Int32.ofNat cs.length) ((cs.map fun c => c.toInt8.toInt32).map Value.int) (.int 0) ∧ (∀ c ∈ cs, ¬ c < 0 ∧ ¬ (255 : Int32) < c) ∧ cs.length ≤ 4000 ∧ h.size ≤ t)
    (hx : ∀ x ∈ us, x < h0.size) (h1 : h0.size ≤ a) (h2 : h0.size ≤ h.size) : Str Z h' us a cs := by
  obtain ⟨t, kb, e1, e2, e3, e4, e5, e6, e7⟩ := q
  exact ⟨t, kb, e1, e2, e3, e4, e5, e6, fun x q => ⟨Nat.ne_of_lt (Nat.lt_of_lt_of_le (hx x q) h1), Nat.ne_of_lt (Nat.lt_of_lt_of_le (hx x q) (Nat.le_trans h2 e7))⟩⟩
theorem and255 (x : Int32) : ¬ (x &&& 255) < 0 ∧ ¬ (255 : Int32) < (x &&& 255) := by
  have h := c_and x 255 (by decide)
  rw [Int32.lt_iff_toInt_lt, Int32.lt_iff_toInt_lt]
  have h2 : (255 : Int32).toInt = 255 := by decide
  have h3 : (0 : Int32).toInt = 0 := by decide
  omega
theorem nar255 {c : Int32} (h : ¬ c < 0 ∧ ¬ (255 : Int32) < c) : nar .char c = c := by
  obtain ⟨h1, h2⟩ := h
  have q := c_i2c c
  rw [Int32.lt_iff_toInt_lt] at h1 h2
  have e2 : (255 : Int32).toInt = 255 := by decide
  have e3 : (0 : Int32).toInt = 0 := by decide
  have : c.toUInt32.toUInt16.toUInt32.toInt32.toInt = c.toInt := by omega
  exact Int32.toInt_inj.mp this
/-- made since the heap h0: apart from whatever stood there -/
def StrN (Z : State) (h0 h : Heap) (a : Addr) (cs : List Int32) : Prop :=
  ∃ (t : Addr) (kb : ClassId), Exa Z h a "java/lang/String" ∧ Fld Z h a "java/lang/String" "coder" "B" (.int 0) ∧ Fld Z h a "java/lang/String" "value" "[B" (.ref t) ∧
    Arv Z h t kb .byte (Int32.ofNat cs.length) ((cs.map fun c => c.toInt8.toInt32).map Value.int) (.int 0) ∧ (∀ c ∈ cs, ¬ c < 0 ∧ ¬ (255 : Int32) < c) ∧ cs.length ≤ 4000 ∧ h0.size ≤ a ∧ h0.size ≤ t
theorem StrN.str {h0 : Heap} (F : StrN Z h0 h a cs) (q : ∀ x ∈ us, x < h0.size) : Str Z h us a cs := by
  obtain ⟨t, kb, h1, h2, h3, h4, h5, h6, h7, h8⟩ := F
  exact ⟨t, kb, h1, h2, h3, h4, h5, h6, fun x hx => ⟨Nat.ne_of_lt (Nat.lt_of_lt_of_le (q x hx) h7), Nat.ne_of_lt (Nat.lt_of_lt_of_le (q x hx) h8)⟩⟩
end StrFacts
section StrOps
variable {p : Program} {l : Launch} {e : Env} {R : Room} {s : State} {m : MethodId} {args : Array Value} {below : List Frame} {meth : Method} {c : Code}
  {own : String} {bytes : ByteArray} {maxL : Nat} {ret : Option FieldType} {nm : String} {Z : State} {EL : List (String × Nat)} {nw : Bool} {us : List Addr} {bs : List (String × Nat × Addr)}
  {T : State} {h : Heap} {cells slots : Nat} {Q : Option Value → Heap → Prop} {kk nn : Nat} {a0 : Array Value} {pc : Nat} {Ls : Array Slot} {st : List Value}

theorem St.news (X : St p l e R s m args below meth c own bytes maxL ret nm Z EL nw us bs T h cells slots) : ∀ x ∈ us, x < h.size := fun x hx => (X.new hx).2
theorem lt_ofNat {n : Nat} (q : n ≤ 4000) : ¬ (Int32.ofNat n) < 0 ∧ (Int32.ofNat n).toNatClampNeg = n := by
  have h1 : (Int32.ofNat n).toInt = n := by rw [Int32.toInt_ofNat_of_lt]; omega
  exact ⟨by rw [Int32.lt_iff_toInt_lt, h1]; simp, by simp [Int32.toNatClampNeg, h1]⟩
/-- ldc of a String constant -/
theorem g_ldcS (X : St p l e R s m args below meth c own bytes maxL ret nm Z EL nw us bs T h cells slots) {ix : Nat} {text : String} {cs : List Int32} (hnw : nw = false) (w : (Jvm.Cond.stringLink own ix text).before a0 Z = true) (wS : ∀ a ∈ Bundle.stringAtoms, a.before a0 Z = true) (hmem : (own, ix) ∈ EL)
    (ht : (∀ c ∈ text.toList, c.toNat < 256) ∧ text.toList.map (fun c => Value.int (Jvm.Lit.byteI c.toNat.toUInt16)) = (cs.map fun c => c.toInt8.toInt32).map Value.int) (hcs : ∀ c ∈ cs, ¬ c < 0 ∧ ¬ (255 : Int32) < c) (hlen : cs.length ≤ 4000)
    (hd : decode bytes pc = .ok (.ldc ix, 2)) (n : Nat) (hn : 4 * text.toList.length ≤ n) (hbig : n ≤ 536870912) {ck cs' : Nat} (hck : cells + 2 = ck) (hcs' : slots + (n + 4) = cs') (hc : ck ≤ R.cells) (hl : cs' ≤ R.slots) (pc' : Nat) (hp : pc + 2 = pc')
    (K : ∀ a T' h', St p l e R s m args below meth c own bytes maxL ret nm Z EL nw us ((own, ix, a) :: bs) T' h' ck cs' → Ext h h' → Str Z h' us a cs → Goes p e below s Z EL nw Q kk nn (T'.setTop (mkF m pc' Ls (.ref a :: st)))) : Goes p e below s Z EL nw Q kk nn (T.setTop (mkF m pc Ls st)) := by
  subst hp hck hcs'
  obtain ⟨cx, vm0, locs, Y, N, eT, hS, hZ, hown, hE, hC, hU, hW⟩ := X
  obtain ⟨a1, hEL⟩ := cx.2.2.2.2.2.2
  have hl32 : ¬ (Int32.ofNat cs.length) < 0 ∧ (Int32.ofNat cs.length).toNatClampNeg = ((cs.map fun c => c.toInt8.toInt32).map Value.int).length := by
    have := lt_ofNat hlen; simpa using this
  obtain ⟨a, T', h', k1, b, k, Y', e', E, hS2, hk1, hZ', hown', q1, q2, q3, q4, q5, q6, hC', hLit, hsafe, stp⟩ := ldcCH (s := s.setVm vm0) Y cx.1 hZ hown w wS eT ((State.WarmedH.refl (s.setVm vm0)).since h.size) (Nat.le_refl _) hEL hmem hC.1 ht hl32.1 hl32.2 (g := mkF m pc Ls st) rfl (hb cx.2.1 hd) hn hbig hc hl
  have hU' : ∀ x ∈ us, Z.heap.size ≤ x ∧ x < h'.size ∧ Safe Z EL T'.vm h' x := fun x hx => ⟨(hU x hx).1, Nat.lt_of_lt_of_le (hU x hx).2.1 E.1, hC'.safe (hU x hx).2.1 (hU x hx).2.2⟩
  have hS3 : s.Since T'.vm h'.size := hS.trans ⟨hS2.1, hS2.2.mono hk1⟩ E.1
  have hB : ∀ q ∈ (own, ix, a) :: bs, Lit (s.setVm T'.vm) q.1 q.2.1 q.2.2 := fun q hq => by
    rcases List.mem_cons.mp hq with rfl | hq
    · exact hLit
    · exact (hW.2 q hq).stays hS2.1
  exact (K a T' h' ⟨cx, T'.vm, locs, Y', N, e', hS3, hZ', hown', hE.trans E, hC.trans hC', hU', (fun q => by rw [hnw] at q; cases q), hB⟩ E ⟨b, k, q1, q2, q3, q4, hcs, hlen, fun x hx => hsafe x (hU' x hx).2.2⟩).step stp
/-- ldc of a String constant that this walk has loaded -/
theorem g_ldcA (X : St p l e R s m args below meth c own bytes maxL ret nm Z EL nw us bs T h cells slots) {ix : Nat} {text : String} {a : Addr} (w : (Jvm.Cond.stringLink own ix text).before a0 Z = true) (hm : (own, ix, a) ∈ bs) (hd : decode bytes pc = .ok (.ldc ix, 2)) (pc' : Nat) (hp : pc + 2 = pc')
    (K : Goes p e below s Z EL nw Q kk nn (T.setTop (mkF m pc' Ls (.ref a :: st)))) : Goes p e below s Z EL nw Q kk nn (T.setTop (mkF m pc Ls st)) := by
  subst hp
  obtain ⟨cx, vm0, locs, Y, N, eT, hS, hZ, hown, hE, hC, hU, hW⟩ := X
  exact K.step (ldcAgain Y cx.1 hZ hown w (hW.2 _ hm) (g := mkF m pc Ls st) rfl (hb cx.2.1 hd))
end StrOps
end Jvm.OwnKit
namespace Jvm.OwnKit
open Sem ClassFile Op Lib Jvm.Stand Jvm.Free Jvm.LawKit Jvm.RoadKit
section Bytes
abbrev lo (c : Int32) : Int32 := c.toInt8.toInt32
abbrev bys (cs : List Int32) : List Value := (cs.map fun c => c.toInt8.toInt32).map Value.int
theorem i0 : (0 : Int32).toInt = 0 := by decide
theorem i255 : (255 : Int32).toInt = 255 := by decide
theorem lo_mask {c : Int32} (h : ¬ c < 0 ∧ ¬ (255 : Int32) < c) : lo c &&& 255 = c := by
  obtain ⟨h1, h2⟩ := h
  rw [Int32.lt_iff_toInt_lt, i0] at h1
  rw [Int32.lt_iff_toInt_lt, i255] at h2
  have q := c_i2b c
  have r := c_mask (lo c) 255 8 (by decide) (by decide)
  apply Int32.toInt_inj.mp
  rw [r]
  have e : ((2 ^ 8 : Nat) : Int) = 256 := by decide
  rw [e]; simp only [lo]; omega
theorem lo_inj {c d : Int32} (h : ¬ c < 0 ∧ ¬ (255 : Int32) < c) (h' : ¬ d < 0 ∧ ¬ (255 : Int32) < d) (e : lo c = lo d) : c = d := by rw [← lo_mask h, ← lo_mask h', e]
theorem of_toInt {n : Nat} (h : n ≤ 4000) : (Int32.ofNat n).toInt = n := by rw [Int32.toInt_ofNat_of_lt]; omega
theorem of_nat {n : Nat} (h : n ≤ 4000) : (Int32.ofNat n).toNatClampNeg = n := by simp [Int32.toNatClampNeg, of_toInt h]
theorem of_nn {n : Nat} (h : n ≤ 4000) : ¬ Int32.ofNat n < 0 := by rw [Int32.lt_iff_toInt_lt, of_toInt h, i0]; omega
theorem of_lt {i n : Nat} (h : i < n) (hn : n ≤ 4000) : Int32.ofNat i < Int32.ofNat n := by rw [Int32.lt_iff_toInt_lt, of_toInt hn, of_toInt (by omega)]; omega
theorem of_le {i n : Nat} (h : n ≤ i) (hn : i ≤ 4000) : ¬ Int32.ofNat i < Int32.ofNat n := by rw [Int32.lt_iff_toInt_lt, of_toInt hn, of_toInt (by omega)]; omega
theorem of_succ (i : Nat) : Int32.ofNat i + 1 = Int32.ofNat (i + 1) := by simp [Int32.ofNat_add]
theorem of_eq {i n : Nat} (hi : i ≤ 4000) (hn : n ≤ 4000) (e : Int32.ofNat i = Int32.ofNat n) : i = n := by
  have := congrArg Int32.toInt e; rw [of_toInt hi, of_toInt hn] at this; omega
theorem bys_at (cs : List Int32) (i : Nat) (h : i ≤ 4000) : (bys cs).getD (Int32.ofNat i).toNatClampNeg (.int 0) = .int (lo (cs.getD i 0)) := by
  rw [of_nat h]
  by_cases q : i < cs.length
  · simp [List.getD, q]
  · have e : cs.getD i 0 = 0 := by simp [List.getD, q]
    rw [e]
    simp [List.getD, q]
    decide
theorem shr0 (x : Int32) : x >>> ((0 : Int32) &&& 31) = x := by
  apply Int32.toInt_inj.mp
  rw [c_ishr x 0 0 (by decide)]
  simp
theorem take_eq {cs ds : List Int32} (hl : cs.length = ds.length) (h : cs.take cs.length = ds.take cs.length) : cs = ds := by
  rw [List.take_length] at h; rw [hl, List.take_length] at h; exact h
theorem take_more {cs ds : List Int32} {i : Nat} (hi : i < cs.length) (hj : i < ds.length) (h : cs.take i = ds.take i) (e : cs.getD i 0 = ds.getD i 0) : cs.take (i + 1) = ds.take (i + 1) := by
  simp only [List.getD, List.getElem?_eq_getElem hi, List.getElem?_eq_getElem hj, Option.getD_some] at e
  rw [List.take_succ_eq_append_getElem hi, List.take_succ_eq_append_getElem hj, h, e]
theorem mem_at {cs : List Int32} {i : Nat} (hi : i < cs.length) : cs.getD i 0 ∈ cs := by
  simp [List.getD, List.getElem?_eq_getElem hi]
theorem str_inj {Z : State} {h : Heap} {us us' : List Addr} {a b : Addr} {cs ds : List Int32} (F : Str Z h us a cs) (G : Str Z h us' b ds) (q : a = b) : cs = ds := by
  subst q
  obtain ⟨t, kb, -, -, f3, f4, f5, f6, -⟩ := F
  obtain ⟨u, kb', -, -, g3, g4, g5, g6, -⟩ := G
  have e : t = u := Classical.byContradiction fun n => (Fld.ne f3 g3 (fun r => n (Value.ref.inj r))) rfl
  subst e
  have hl : cs.length = ds.length := Classical.byContradiction fun n => (arv_ne f4 g4 (Or.inl (by rw [of_nat f6, of_nat g6]; exact n))) rfl
  refine List.ext_getElem hl fun i hi hj => ?_
  have e2 : (bys cs).getD i (.int 0) = (bys ds).getD i (.int 0) := Classical.byContradiction fun n => (arv_ne f4 g4 (Or.inr ⟨i, by rw [of_nat f6]; exact hi, n⟩)) rfl
  simp [List.getD, hi, hj] at e2
  exact lo_inj (f5 _ (List.getElem_mem hi)) (g5 _ (List.getElem_mem hj)) e2
end Bytes
end Jvm.OwnKit
namespace Jvm.OwnKit
open Sem ClassFile Op Lib Jvm.Stand Jvm.Free Jvm.LawKit Jvm.RoadKit
section SbFacts
def padB (cap : Nat) (cs : List Int32) : List Value := bys cs ++ List.replicate (cap - cs.length) (.int (0 : Int32))
theorem padB_len {cap : Nat} {cs : List Int32} (h : cs.length ≤ cap) : (padB cap cs).length = cap := by
  unfold padB
  rw [List.length_append, List.length_map, List.length_map, List.length_replicate]; omega
theorem of_add (n m : Nat) : Int32.ofNat n + Int32.ofNat m = Int32.ofNat (n + m) := by simp [Int32.ofNat_add]
theorem of_sub {n m : Nat} (h : m ≤ n) (hn : n ≤ 4000) : Int32.ofNat n - Int32.ofNat m = Int32.ofNat (n - m) := by
  apply Int32.toInt_inj.mp
  have q := c_isub (Int32.ofNat n) (Int32.ofNat m)
  have l1 := Int32.toInt_lt (Int32.ofNat n - Int32.ofNat m)
  have l2 := Int32.le_toInt (Int32.ofNat n - Int32.ofNat m)
  rw [of_toInt hn, of_toInt (by omega)] at q
  rw [of_toInt (by omega)]
  omega
theorem sub_le {k cap : Nat} (h : k ≤ cap) (hc : cap ≤ 4000) : ¬ (0 : Int32) < Int32.ofNat k - Int32.ofNat cap := by
  have q := c_isub (Int32.ofNat k) (Int32.ofNat cap)
  have l1 := Int32.toInt_lt (Int32.ofNat k - Int32.ofNat cap)
  have l2 := Int32.le_toInt (Int32.ofNat k - Int32.ofNat cap)
  rw [of_toInt hc, of_toInt (by omega)] at q
  rw [Int32.lt_iff_toInt_lt, i0]
  omega
theorem sub_gt {k cap : Nat} (h : cap < k) (hc : k ≤ 4000) : (0 : Int32) < Int32.ofNat k - Int32.ofNat cap := by
  rw [of_sub (by omega) hc, Int32.lt_iff_toInt_lt, i0, of_toInt (by omega)]; omega
theorem shl0 (x : Int32) : x <<< ((0 : Int32) &&& 31) = x := by
  apply Int32.toInt_inj.mp
  have q := c_ishl x 0 0 (by decide)
  have l1 := Int32.toInt_lt (x <<< ((0 : Int32) &&& 31))
  have l2 := Int32.le_toInt (x <<< ((0 : Int32) &&& 31))
  have l3 := Int32.toInt_lt x
  have l4 := Int32.le_toInt x
  have e : ((2 ^ 0 : Nat) : Int) = 1 := by decide
  rw [e] at q
  omega
theorem clamp0 : (0 : Int32).toNatClampNeg = 0 := by decide
theorem range_get (l l' : List Value) (d : Value) : (List.range l.length).map (fun i => (l ++ l').getD (0 + i) d) = l := by
  refine List.ext_getElem (by simp) fun i h1 h2 => ?_
  rw [List.getElem_map, List.getElem_range]
  simp only [Nat.zero_add, List.getD, List.getElem?_append_left h2, List.getElem?_eq_getElem h2, Option.getD_some]
theorem bys_len (cs : List Int32) : (bys cs).length = cs.length := by rw [List.length_map, List.length_map]
theorem bys_app (cs ds : List Int32) : bys (cs ++ ds) = bys cs ++ bys ds := by simp [bys]
theorem pad_put {cap : Nat} {cs ds : List Int32} (h : cs.length + ds.length ≤ cap) (hc : cap ≤ 4000) :
    (padB cap cs).take (Int32.ofNat cs.length).toNatClampNeg ++ ((List.range (Int32.ofNat ds.length).toNatClampNeg).map fun i => (bys ds).getD ((0 : Int32).toNatClampNeg + i) (.int (0 : Int32))) ++ (padB cap cs).drop ((Int32.ofNat cs.length).toNatClampNeg + (Int32.ofNat ds.length).toNatClampNeg) = padB cap (cs ++ ds) := by
  rw [of_nat (by omega), of_nat (by omega), clamp0]
  have r : (List.range ds.length).map (fun i => (bys ds).getD (0 + i) (.int (0 : Int32))) = bys ds := by
    have q := range_get (bys ds) [] (.int (0 : Int32))
    rw [List.append_nil, bys_len] at q
    exact q
  have t : (padB cap cs).take cs.length = bys cs := List.take_left' (bys_len cs)
  have d : (padB cap cs).drop (cs.length + ds.length) = List.replicate (cap - (cs ++ ds).length) (.int (0 : Int32)) := by
    unfold padB
    rw [List.drop_append, List.drop_eq_nil_of_le (by rw [bys_len]; omega), List.nil_append, List.drop_replicate, bys_len, List.length_append]
    congr 1
    omega
  rw [r, t, d, ← bys_app]; rfl
theorem pad_get {cap : Nat} {cs : List Int32} (h : cs.length ≤ cap) (hc : cap ≤ 4000) (n0 : Nat) (hn : n0 = cs.length) :
    (List.replicate n0 (Value.int (0 : Int32))).take (0 : Int32).toNatClampNeg ++ ((List.range (Int32.ofNat cs.length).toNatClampNeg).map fun i => (padB cap cs).getD ((0 : Int32).toNatClampNeg + i) (.int (0 : Int32))) ++ (List.replicate n0 (Value.int (0 : Int32))).drop ((0 : Int32).toNatClampNeg + (Int32.ofNat cs.length).toNatClampNeg) = bys cs := by
  subst hn
  rw [of_nat (by omega), clamp0]
  have r : (List.range cs.length).map (fun i => (padB cap cs).getD (0 + i) (.int (0 : Int32))) = bys cs := by
    have q := range_get (bys cs) (List.replicate (cap - cs.length) (.int (0 : Int32))) (.int (0 : Int32))
    rw [bys_len] at q
    exact q
  rw [r, List.take_zero, List.nil_append, List.drop_eq_nil_of_le (by rw [List.length_replicate]; omega), List.append_nil]
theorem of_big {n : Nat} {M : Int32} (h : n ≤ 4000) (hM : 4000 ≤ M.toInt) : ¬ M < Int32.ofNat n := by
  rw [Int32.lt_iff_toInt_lt, of_toInt h]; omega
theorem of_ne {n : Nat} {M : Int32} (h : n ≤ 4000) (hM : 4000 < M.toInt) : ¬ Int32.ofNat n = M := fun q => by
  have e := congrArg Int32.toInt q
  rw [of_toInt h] at e; omega
theorem pad_grow {cap cp : Nat} {cs : List Int32} (h : cs.length ≤ cap) (hc : cap ≤ cp) (hp : cp ≤ 4000) :
    (List.replicate cp (Value.int (0 : Int32))).take (0 : Int32).toNatClampNeg ++ ((List.range (Int32.ofNat cap).toNatClampNeg).map fun i => (padB cap cs).getD ((0 : Int32).toNatClampNeg + i) (.int (0 : Int32))) ++ (List.replicate cp (Value.int (0 : Int32))).drop ((0 : Int32).toNatClampNeg + (Int32.ofNat cap).toNatClampNeg) = padB cp cs := by
  rw [of_nat (by omega), clamp0]
  have r : (List.range cap).map (fun i => (padB cap cs).getD (0 + i) (.int (0 : Int32))) = padB cap cs := by
    have q := range_get (padB cap cs) [] (.int (0 : Int32))
    rw [List.append_nil, padB_len h] at q
    exact q
  rw [r, List.take_zero, List.nil_append, Nat.zero_add, List.drop_replicate]
  unfold padB
  rw [List.append_assoc, List.replicate_append_replicate]
  congr 2
  omega
/-- a StringBuilder of the signs cs (each 0 to 255), its array of cap bytes -/
def Sb (Z : State) (h : Heap) (a b : Addr) (kb : ClassId) (cap : Nat) (cs : List Int32) : Prop :=
  Exa Z h a "java/lang/StringBuilder" ∧ Fld Z h a "java/lang/AbstractStringBuilder" "coder" "B" (.int (0 : Int32)) ∧ Fld Z h a "java/lang/AbstractStringBuilder" "count" "I" (.int (Int32.ofNat cs.length)) ∧ Fld Z h a "java/lang/AbstractStringBuilder" "value" "[B" (.ref b) ∧
    Arv Z h b kb .byte (Int32.ofNat cap) (padB cap cs) (.int (0 : Int32)) ∧ (∀ c ∈ cs, ¬ c < 0 ∧ ¬ (255 : Int32) < c) ∧ cs.length ≤ cap ∧ cap ≤ 4000 ∧ a ≠ b
variable {Z : State} {h h' h0 : Heap} {us ws : List Addr} {a b : Addr} {kb : ClassId} {cap : Nat} {cs ds : List Int32}
theorem Sb.ext (F : Sb Z h a b kb cap cs) (E : Ext h h') : Sb Z h' a b kb cap cs := by
  obtain ⟨h1, h2, h3, h4, h5, r⟩ := F
  exact ⟨h1.ext E, h2.ext E, h3.ext E, h4.ext E, h5.ext E, r⟩
theorem Sb.keep (F : Sb Z h a b kb cap cs) (K : Keep h h' ws) (qa : a ∉ ws) (qb : b ∉ ws) : Sb Z h' a b kb cap cs := by
  obtain ⟨h1, h2, h3, h4, h5, r⟩ := F
  exact ⟨h1.keep K, h2.keep K qa, h3.keep K qa, h4.keep K qa, h5.keep K qb, r⟩
theorem Sb.lt (F : Sb Z h a b kb cap cs) : a < h.size := F.1.lt
theorem Sb.arv (F : Sb Z h a b kb cap cs) : Arv Z h b kb .byte (Int32.ofNat cap) (padB cap cs) (.int (0 : Int32)) := F.2.2.2.2.1
theorem ok_app (h1 : ∀ c ∈ cs, ¬ c < 0 ∧ ¬ (255 : Int32) < c) (h2 : ∀ c ∈ ds, ¬ c < 0 ∧ ¬ (255 : Int32) < c) : ∀ c ∈ cs ++ ds, ¬ c < 0 ∧ ¬ (255 : Int32) < c := fun c hc => (List.mem_append.mp hc).elim (h1 c) (h2 c)
theorem Str.growK (F : Str Z h us a cs) (K : Keep h h' ws) (q : ∀ x ∈ ws, x ∈ us) (hb : h.size ≤ b) : Str Z h' (b :: us) a cs := by
  have G := F.keep K q
  obtain ⟨t, kb, h1, h2, h3, h4, h5, h6, h7⟩ := F
  obtain ⟨t', kb', g1, g2, g3, g4, g5, g6, g7⟩ := G
  have e : t' = t := by
    have na : a ∉ ws := fun r => (h7 a (q a r)).1 rfl
    have g3' := h3.keep K na
    exact Classical.byContradiction fun n => (Fld.ne g3 g3' (fun r => n (Value.ref.inj r))) rfl
  subst e
  refine ⟨t', kb', g1, g2, g3, g4, g5, g6, fun x hx => ?_⟩
  rcases List.mem_cons.mp hx with rfl | hx
  · exact ⟨Nat.ne_of_gt (Nat.lt_of_lt_of_le h1.lt hb), Nat.ne_of_gt (Nat.lt_of_lt_of_le h4.lt hb)⟩
  · exact g7 x hx
theorem StrN.mono {h1 : Heap} (F : StrN Z h0 h a cs) (q : h1.size ≤ h0.size) : StrN Z h1 h a cs := by
  obtain ⟨t, kb, e1, e2, e3, e4, e5, e6, e7, e8⟩ := F
  exact ⟨t, kb, e1, e2, e3, e4, e5, e6, Nat.le_trans q e7, Nat.le_trans q e8⟩
theorem strN_of {h1 : Heap} (q : ∃ (t : Addr) (kb : ClassId), Exa Z h' a "java/lang/String" ∧ Fld Z h' a "java/lang/String" "coder" "B" (.int (0 : Int32)) ∧ Fld Z h' a "java/lang/String" "value" "[B" (.ref t) ∧ Arv Z h' t kb .byte (Int32.ofNat cs.length) (bys cs) (.int (0 : Int32)) ∧ (∀ c ∈ cs, ¬ c < 0 ∧ ¬ (255 : Int32) < c) ∧ cs.length ≤ 4000 ∧ h1.size ≤ t)
    (l1 : h0.size ≤ a) (l2 : h0.size ≤ h1.size) : StrN Z h0 h' a cs := by
  obtain ⟨t, kb, e1, e2, e3, e4, e5, e6, e7⟩ := q
  exact ⟨t, kb, e1, e2, e3, e4, e5, e6, l1, Nat.le_trans l2 e7⟩
end SbFacts
end Jvm.OwnKit
namespace Jvm.OwnKit
open Sem ClassFile Op Lib Jvm.Stand Jvm.Free Jvm.LawKit Jvm.RoadKit Bundle
section UpOps
variable {p : Program} {l : Launch} {e : Env} {R : Room} {s : State} {m : MethodId} {args : Array Value} {below : List Frame} {meth : Method} {c : Code}
  {own : String} {bytes : ByteArray} {maxL : Nat} {ret : Option FieldType} {nm : String} {Z : State} {EL : List (String × Nat)} {nw : Bool} {us : List Addr} {bs : List (String × Nat × Addr)}
  {T : State} {h : Heap} {cells slots : Nat} {Q : Option Value → Heap → Prop} {kk nn : Nat} {a0 : Array Value} {pc : Nat} {Ls : Array Slot} {st : List Value}

/-- an instance method with code is declared -/
theorem own_declares {y : MethodName} {cb : ByteArray} {cm : Nat} {cr : Option FieldType} (wi : (Jvm.Cond.instanceMethod y).before a0 Z = true) (wc : (Jvm.Cond.code y cb cm cr).before a0 Z = true) : (Jvm.Cond.declares y).before a0 Z = true := by
  obtain ⟨mk, methM, hnamed, hmethM, hst, -⟩ := Jvm.Cond.instanceMethod_spec wi
  obtain ⟨m2, cM, q1, -, -, -, -, -, -, hsig⟩ := Jvm.Cond.code_spec hnamed wc
  cases hmethM.symm.trans q1
  simp [Jvm.Cond.before, Jvm.Cond.holds, Jvm.Cond.value, hnamed, hmethM, hst, hsig]
/-- a class that declares a method itself finds it; it is no interface, since a call lands in it -/
theorem own_same {C : String} {y z : MethodName} (wi : (Jvm.Cond.instanceMethod y).before a0 Z = true) (ws : (Jvm.Cond.selects C z z).before a0 Z = true) (hz : z.cls = y.cls) (hy : y.cls ≠ "java/lang/invoke/MethodHandle" ∧ y.cls ≠ "java/lang/invoke/VarHandle") : (Jvm.Cond.sameMethod y.cls y.cls y.name y.desc).before a0 Z = true := by
  obtain ⟨mk, methM, hnamed, -⟩ := Jvm.Cond.instanceMethod_spec wi
  obtain ⟨c2, r2, m2, -, -, q3, -, kP, hkP, hkPi⟩ := Jvm.Cond.selects_spec ws
  have h1 := findClass_of_methodNamed q3
  have h2 := findClass_of_methodNamed hnamed
  rw [hz] at h1
  have e : m2.cls = mk.cls := Option.some.inj (h1.symm.trans h2)
  rw [e] at hkP
  have hf := State.methodFound?_of_named hnamed hy
  have hn' : Z.methodNamed? ⟨y.cls, y.name, y.desc⟩ = some mk := hnamed
  simp [Jvm.Cond.before, Jvm.Cond.holds, Jvm.Cond.value, h2, hf, hnamed, hn', hkP, hkPi]
theorem nfOf {C : String} {y z : MethodName} (ws : (Jvm.Cond.selects C z z).before a0 Z = true) (hz : z.cls = y.cls) : ∀ s' : State, Z.Warmed39 s'.vm → NotFace s' y := fun s' hZ r0 h0 => by
  obtain ⟨c2, r2, m2, -, -, q3, -, kP, hkP, hkPi⟩ := Jvm.Cond.selects_spec (mvT (s := s') (args := #[]) hZ ws)
  have h1 := findClass_of_methodNamed q3
  have h2 := findClass_of_methodNamed h0
  rw [hz] at h1
  have e : m2.cls = r0.cls := Option.some.inj (h1.symm.trans h2)
  exact ⟨kP, e ▸ hkP, hkPi⟩
/-- 'invokespecial' of a superclass's method (super.m(..)) by a contract -/
theorem g_callU (X : St p l e R s m args below meth c own bytes maxL ret nm Z EL nw us bs T h cells slots) {C : String} {y : MethodName} {cb : ByteArray} {cm : Nat} {cr : Option FieldType} {rm : Room} {as' : Array Value} {us' : List Addr} {Qc : Option Value → Heap → Prop} {ix : Nat} (hy1 : y.name ≠ "<init>")
    (w1 : (Jvm.Cond.methodLink own ix y).before a0 Z = true) (w2 : (Jvm.Cond.sameMethod y.cls y.cls y.name y.desc).before a0 Z = true) (w3 : (Jvm.Cond.instanceMethod y).before a0 Z = true) (w4 : (Jvm.Cond.superclass own y.cls).before a0 Z = true) (w5 : (Jvm.Cond.initialized y.cls).before a0 Z = true) (w6 : (Jvm.Cond.code y cb cm cr).before a0 Z = true)
    {a : Addr} (Ex : Exa Z h a C) (hM : Ctr l Z EL nw y cb cm cr rm as' h us' Qc) (hus : ∀ x ∈ us', x ∈ us)
    {argsL rest : List Value} {ps : List FieldType} {rt : Option FieldType} (hpd : parseMethodDescriptor y.desc = some ⟨ps, rt⟩) (hlen : argsL.length = ps.length) (has : (.ref a :: argsL).toArray = as') (hst : st = argsL.reverse ++ .ref a :: rest) (hsize : Ls.size = maxL)
    (W : Nat) (hW : (rest.map fun v => v.category).sum ≤ W) (hf : rm.frames + 1 ≤ R.frames) (hl : W + (cm + 11) + rm.locals ≤ R.locals) {ck cs : Nat} (hck : cells + rm.cells = ck) (hcs : slots + rm.slots = cs) (hc : ck ≤ R.cells) (hs : cs ≤ R.slots)
    (hd : decode bytes pc = .ok (.invokespecial ix, 3)) (pc' : Nat) (hp : pc + 3 = pc')
    (K : ∀ v T' h', St p l e R s m args below meth c own bytes maxL ret nm Z EL nw us bs T' h' ck cs → Qc v h' → Goes p e below s Z EL nw Q kk nn (T'.setTop (mkF m pc' Ls (v.toList ++ rest)))) : Goes p e below s Z EL nw Q kk nn (T.setTop (mkF m pc Ls st)) := by
  subst hp hck hcs
  obtain ⟨cx, vm0, locs, Y, N, eT, hS, hZ, hown, hE, hC, hU, hWn⟩ := X
  obtain ⟨a1, hEL⟩ := cx.2.2.2.2.2.2
  obtain ⟨v, vm₁, B, -, Y', h2, hg, ⟨L, q1, q2, q3, q4, q5, q6, q7, q8⟩, stp⟩ := superBackS (s := s.setVm vm0) Y cx.1 hZ (own := own) (index := ix) (y := y) hown w1 w2 w3 w4 hy1
    (backC (W := W) hM hZ w6 w5 hf hl hEL hE hC.1 fun x hx => hU x (hus x hx)) eT (Ins.self Ex) (g := mkF m pc Ls st) rfl (by rw [cx.2.2.1]; exact hsize) w6 (argsL := argsL) (rest := rest) (lenOf hpd hlen) hst (by show 2 * 0 + _ ≤ _; omega) (hb cx.2.1 hd)
    (fun _ _ => ⟨has, eT, hc, hs⟩)
  exact (K v B.U B.U.heap (St.back cx N hS hZ hown hC hU hWn Y' h2 (by rw [← eT]; exact hg) q2 q3 q4 q5 q6 q7 q8) q1).step fun t k => stp.trans k
theorem g_callUp (X : St p l e R s m args below meth c own bytes maxL ret nm Z EL nw us bs T h cells slots) {C : String} {y : MethodName} {cb : ByteArray} {cm : Nat} {cr : Option FieldType} {rm : Room} {as' : Array Value} {us' : List Addr} {Qv : Value → Prop} {ix : Nat} (hy1 : y.name ≠ "<init>")
    (w1 : (Jvm.Cond.methodLink own ix y).before a0 Z = true) (w2 : (Jvm.Cond.sameMethod y.cls y.cls y.name y.desc).before a0 Z = true) (w3 : (Jvm.Cond.instanceMethod y).before a0 Z = true) (w4 : (Jvm.Cond.superclass own y.cls).before a0 Z = true) (w5 : (Jvm.Cond.initialized y.cls).before a0 Z = true) (w6 : (Jvm.Cond.code y cb cm cr).before a0 Z = true)
    {a : Addr} (Ex : Exa Z h a C) (hM : Ctr l Z EL nw y cb cm cr rm as' h us' (PureQ h Qv)) (hus : ∀ x ∈ us', x ∈ us)
    {argsL rest : List Value} {ps : List FieldType} {rt : Option FieldType} (hpd : parseMethodDescriptor y.desc = some ⟨ps, rt⟩) (hlen : argsL.length = ps.length) (has : (.ref a :: argsL).toArray = as') (hst : st = argsL.reverse ++ .ref a :: rest) (hsize : Ls.size = maxL)
    (W : Nat) (hW : (rest.map fun v => v.category).sum ≤ W) (hf : rm.frames + 1 ≤ R.frames) (hl : W + (cm + 11) + rm.locals ≤ R.locals) {ck cs : Nat} (hck : cells + rm.cells = ck) (hcs : slots + rm.slots = cs) (hc : ck ≤ R.cells) (hs : cs ≤ R.slots)
    (hd : decode bytes pc = .ok (.invokespecial ix, 3)) (pc' : Nat) (hp : pc + 3 = pc')
    (K : ∀ w T', St p l e R s m args below meth c own bytes maxL ret nm Z EL nw us bs T' h ck cs → Qv w → Goes p e below s Z EL nw Q kk nn (T'.setTop (mkF m pc' Ls (w :: rest)))) : Goes p e below s Z EL nw Q kk nn (T.setTop (mkF m pc Ls st)) :=
  g_callU X hy1 w1 w2 w3 w4 w5 w6 Ex hM hus hpd hlen has hst hsize W hW hf hl hck hcs hc hs hd pc' hp (by
    intro v T' h' X' hq
    obtain ⟨rfl, w, rfl, hw⟩ := hq
    exact K w T' X' hw)
theorem g_callUv (X : St p l e R s m args below meth c own bytes maxL ret nm Z EL nw us bs T h cells slots) {C : String} {y : MethodName} {cb : ByteArray} {cm : Nat} {cr : Option FieldType} {rm : Room} {as' : Array Value} {us' : List Addr} {Qv : Value → Heap → Prop} {ix : Nat} (hy1 : y.name ≠ "<init>")
    (w1 : (Jvm.Cond.methodLink own ix y).before a0 Z = true) (w2 : (Jvm.Cond.sameMethod y.cls y.cls y.name y.desc).before a0 Z = true) (w3 : (Jvm.Cond.instanceMethod y).before a0 Z = true) (w4 : (Jvm.Cond.superclass own y.cls).before a0 Z = true) (w5 : (Jvm.Cond.initialized y.cls).before a0 Z = true) (w6 : (Jvm.Cond.code y cb cm cr).before a0 Z = true)
    {a : Addr} (Ex : Exa Z h a C) (hM : Ctr l Z EL nw y cb cm cr rm as' h us' (ValQ Qv)) (hus : ∀ x ∈ us', x ∈ us)
    {argsL rest : List Value} {ps : List FieldType} {rt : Option FieldType} (hpd : parseMethodDescriptor y.desc = some ⟨ps, rt⟩) (hlen : argsL.length = ps.length) (has : (.ref a :: argsL).toArray = as') (hst : st = argsL.reverse ++ .ref a :: rest) (hsize : Ls.size = maxL)
    (W : Nat) (hW : (rest.map fun v => v.category).sum ≤ W) (hf : rm.frames + 1 ≤ R.frames) (hl : W + (cm + 11) + rm.locals ≤ R.locals) {ck cs : Nat} (hck : cells + rm.cells = ck) (hcs : slots + rm.slots = cs) (hc : ck ≤ R.cells) (hs : cs ≤ R.slots)
    (hd : decode bytes pc = .ok (.invokespecial ix, 3)) (pc' : Nat) (hp : pc + 3 = pc')
    (K : ∀ w T' h', St p l e R s m args below meth c own bytes maxL ret nm Z EL nw us bs T' h' ck cs → Qv w h' → Goes p e below s Z EL nw Q kk nn (T'.setTop (mkF m pc' Ls (w :: rest)))) : Goes p e below s Z EL nw Q kk nn (T.setTop (mkF m pc Ls st)) :=
  g_callU X hy1 w1 w2 w3 w4 w5 w6 Ex hM hus hpd hlen has hst hsize W hW hf hl hck hcs hc hs hd pc' hp (by
    intro v T' h' X' hq
    obtain ⟨w, rfl, hw⟩ := hq
    exact K w T' h' X' hw)
/-- a byte array whose length no constant's text has is no constant's array -/
theorem safe_len {vm : Vm} {x : Addr} {k : ClassId} {z : Int32} {vs : List Value} {dv : Value} (hZ : Z.Warmed39 vm) (w : ∀ p ∈ EL, ∃ text : String, (Jvm.Cond.stringLink p.1 p.2 text).before a0 Z = true ∧ (∀ c ∈ text.toList, c.toNat < 256) ∧ text.toList.length ≠ z.toNatClampNeg) (A : Arv Z h x k .byte z vs dv) : Safe Z EL vm h x := fun B => by
  have hal : Z.vm.Alike vm := hZ.alike
  obtain ⟨cl, ⟨A1, ⟨_, kA, hkA, compA, hkindA⟩, _⟩, _, hsz, _⟩ := A
  obtain ⟨kA', hkA', ekA⟩ := hal.2.2 _ _ hkA
  obtain ⟨p, hp, u, a, hb, q, hq, F, hy⟩ := B
  obtain ⟨text, wl, ht, hl⟩ := w p hp
  rcases hy with rfl | rfl
  · cases (show h[q.sa]? = some q.sC from F.ha).symm.trans A1
    obtain ⟨cS, ⟨-, -, e⟩, ⟨kS, g1, g2, -⟩, -⟩ := F
    subst e
    cases (show vm.classes[q.sC.cls]? = some kS from g1).symm.trans hkA'
    rw [ekA] at g2
    have := hkindA.symm.trans g2
    cases this
  · cases (show h[q.sd]? = some q.SA from F.hd).symm.trans A1
    obtain ⟨c, k', cf, i, hc', hk', hcf', hpool, hu, -⟩ := hb
    have wl' : (Jvm.Cond.stringLink p.1 p.2 text).before a0 (Wst Z vm h) = true := mvS (s := { Z with heap := h }) hZ wl
    obtain ⟨k2, cf0, i0, units0, hk, hcf, hp0, hu0, hnm, htext, -⟩ := Jvm.Cond.stringLink_spec (s := Wst Z vm h) hc' wl'
    cases hk'.symm.trans hk
    cases hcf'.symm.trans hcf
    cases hpool.symm.trans hp0
    cases hu.symm.trans hu0
    obtain ⟨cS, -, -, -, hbyt⟩ := F
    have hs2 : q.SA.slots.size = u.size := by rw [hbyt, Jvm.Free.SBG.stringBytes_lat (Jvm.ClassFile.lat_of_text htext ht), Array.size_map]
    have e2 : u.toList.length = text.toList.length := by rw [Jvm.ClassFile.units_of_text htext ht, List.length_map]
    rw [Array.length_toList] at e2
    exact hl (by rw [← e2, ← hs2]; exact hsz)
/-- an array that a callee has made may be written from now on -/
theorem St.add (X : St p l e R s m args below meth c own bytes maxL ret nm Z EL nw us bs T h cells slots) {b : Addr} {k : ClassId} {z : Int32} {vs : List Value} {dv : Value} (w : ∀ p ∈ EL, ∃ text : String, (Jvm.Cond.stringLink p.1 p.2 text).before a0 Z = true ∧ (∀ c ∈ text.toList, c.toNat < 256) ∧ text.toList.length ≠ z.toNatClampNeg) (A : Arv Z h b k .byte z vs dv) (hb' : Z.heap.size ≤ b) :
    St p l e R s m args below meth c own bytes maxL ret nm Z EL nw (b :: us) bs T h cells slots := by
  obtain ⟨cx, vm0, locs, Y, N, eT, hS, hZ, hown, hE, hC, hU, hWn⟩ := X
  refine ⟨cx, vm0, locs, Y, N, eT, hS, hZ, hown, hE, hC, ?_, hWn⟩
  intro x hx
  rcases List.mem_cons.mp hx with rfl | hx
  · exact ⟨hb', A.lt, safe_len hZ w A⟩
  · exact hU x hx
/-- an object of a class that is neither String nor byte[] may be written from now on -/
theorem St.addO (X : St p l e R s m args below meth c own bytes maxL ret nm Z EL nw us bs T h cells slots) {b : Addr} {C : String} (E : Exa Z h b C) (h1 : C ≠ "java/lang/String") (h2 : C ≠ "[B") (hb' : Z.heap.size ≤ b) :
    St p l e R s m args below meth c own bytes maxL ret nm Z EL nw (b :: us) bs T h cells slots := by
  obtain ⟨cx, vm0, locs, Y, N, eT, hS, hZ, hown, hE, hC, hU, hWn⟩ := X
  refine ⟨cx, vm0, locs, Y, N, eT, hS, hZ, hown, hE, hC, ?_, hWn⟩
  intro x hx
  rcases List.mem_cons.mp hx with rfl | hx
  · exact ⟨hb', E.lt, Safe.exa hZ.alike E h1 h2⟩
  · exact hU x hx
end UpOps
end Jvm.OwnKit
/- laws to paste: Road.backV (cut by pick.py; bodies as the Statement names them) -/
namespace Jvm.Pilot.@@N@@
namespace StrChars
open Jvm Sem ClassFile Op Lib Jvm.Stand Jvm.Free.XT Jvm.Free.ALB Jvm.Free.JM Jvm.Free
open Jvm.Lib.Cold (StaticIs)
/-- a char array whose places are chars -/
def Ch (a : Addr) (A : Cell) (U : State) : Prop := Arr .char a A U ∧ Typed .char A
theorem Ch.mv {a : Addr} {A : Cell} {U U' : State} (h : Ch a A U) (hal : U.vm.Alike U'.vm) (hh : U'.heap = U.heap) : Ch a A U' := ⟨h.1.mv hal hh, h.2⟩
theorem Ch.keep {a : Addr} {A : Cell} {U U' : State} (h : Ch a A U) (hal : U.vm.Alike U'.vm) (hk : U'.heap[a]? = some A) : Ch a A U' := ⟨h.1.keep hal hk, h.2⟩
/-- what place i of a char[]'s cell holds -/
def cv (A : Cell) (i : Nat) : Int32 := match A.slots[i]? with | some (.int x) => x | _ => 0
theorem Ch.get {a : Addr} {A : Cell} {U : State} (h : Ch a A U) {i : Nat} (hi : i < A.slots.size) : A.slots[i]? = some (.int (cv A i)) := by
  have e := Array.getElem?_eq_getElem hi
  have f := h.2 i _ e
  unfold cv; rw [e]
  generalize A.slots[i] = v at f
  cases v <;> simp [fits] at f ⊢
/-- the byte that i2b leaves of a char -/
def lo8 (x : Int32) : Int32 := x.toInt8.toInt32
theorem fits_lo8 (y : Int32) : fits .byte (.int (lo8 y)) = true := by
  have h1 := y.toInt8.le_toInt
  have h2 := y.toInt8.toInt_lt
  simp only [lo8, fits, Bool.and_eq_true, decide_eq_true_eq, Int32.le_iff_toInt_le, Int8.toInt_toInt32, show (-128 : Int32).toInt = -128 from by decide, show (127 : Int32).toInt = 127 from by decide]
  omega
/-- A' is A but that each place j of lo .. hi - 1 holds f j -/
def Laid (A A' : Cell) (lo hi : Nat) (f : Nat → Value) : Prop := A'.cls = A.cls ∧ A'.vm = A.vm ∧ A'.slots.size = A.slots.size ∧ ∀ i, A'.slots[i]? = if lo ≤ i ∧ i < hi then some (f i) else A.slots[i]?
theorem Laid.zero (A : Cell) (lo : Nat) (f : Nat → Value) : Laid A A lo (lo + 0) f := ⟨rfl, rfl, rfl, fun i => by rw [if_neg (by omega)]⟩
theorem Laid.step {A Ak : Cell} {lo k : Nat} {f : Nat → Value} {v : Value} (h : Laid A Ak lo k f) (hlo : lo ≤ k) (hk : k < Ak.slots.size) (hv : v = f k) : Laid A (Ak.setSlot k v) lo (k + 1) f := by
  refine ⟨h.1, h.2.1, by simpa [Cell.setSlot] using h.2.2.1, fun i => ?_⟩
  by_cases e : k = i
  · subst e; rw [Cell.slots_setSlot_self v hk, if_pos (by omega), hv]
  · rw [Cell.slots_setSlot_ne v e, h.2.2.2 i]
    by_cases q : lo ≤ i ∧ i < k
    · rw [if_pos q, if_pos (by omega)]
    · rw [if_neg q, if_neg (by omega)]
def U16 : String := "java/lang/StringUTF16"
namespace Cmp5
def yN : MethodName := ⟨"java/lang/StringUTF16", "compress", "([CI[BII)I"⟩
abbrev yB : ByteArray := jdk_52_method_21_code
theorem d0 : decode yB 0 = .ok (.iconst 0, 1) := by decide +kernel
theorem d1 : decode yB 1 = .ok (.istore 5, 2) := by decide +kernel
theorem d3 : decode yB 3 = .ok (.iload 5, 2) := by decide +kernel
theorem d5 : decode yB 5 = .ok (.iload 4, 2) := by decide +kernel
theorem d7 : decode yB 7 = .ok (.if_icmp (.ge) 37, 3) := by decide +kernel
theorem d10 : decode yB 10 = .ok (.aload_n 0, 1) := by decide +kernel
theorem d11 : decode yB 11 = .ok (.iload_n 1, 1) := by decide +kernel
theorem d12 : decode yB 12 = .ok (.caload, 1) := by decide +kernel
theorem d13 : decode yB 13 = .ok (.istore 6, 2) := by decide +kernel
theorem d15 : decode yB 15 = .ok (.iload 6, 2) := by decide +kernel
theorem d17 : decode yB 17 = .ok (.sipush 255, 3) := by decide +kernel
theorem d20 : decode yB 20 = .ok (.if_icmp (.le) 6, 3) := by decide +kernel
theorem d26 : decode yB 26 = .ok (.aload_n 2, 1) := by decide +kernel
theorem d27 : decode yB 27 = .ok (.iload_n 3, 1) := by decide +kernel
theorem d28 : decode yB 28 = .ok (.iload 6, 2) := by decide +kernel
theorem d30 : decode yB 30 = .ok (.i2b, 1) := by decide +kernel
theorem d31 : decode yB 31 = .ok (.bastore, 1) := by decide +kernel
theorem d32 : decode yB 32 = .ok (.iinc 1 1, 3) := by decide +kernel
theorem d35 : decode yB 35 = .ok (.iinc 3 1, 3) := by decide +kernel
theorem d38 : decode yB 38 = .ok (.iinc 5 1, 3) := by decide +kernel
theorem d41 : decode yB 41 = .ok (.goto (-38), 3) := by decide +kernel
theorem d44 : decode yB 44 = .ok (.iload 4, 2) := by decide +kernel
theorem d46 : decode yB 46 = .ok (.ireturn, 1) := by decide +kernel
def site : List Cond := []
def tab : Cond := tabOf yN yB 7 (some .int) site
def P (b : Addr) (A : Cell) (d : Addr) (B : Cell) (o q len : Nat) (args : Array Value) (s : State) : Prop := args = #[.ref b, .int (Int32.ofNat o), .ref d, .int (Int32.ofNat q), .int (Int32.ofNat len)] ∧ Ch b A s ∧ Arr .byte d B s ∧ b ≠ d ∧ o + len ≤ A.slots.size ∧ q + len ≤ B.slots.size ∧ ∀ i, i < len → ¬ 255 < cv A (o + i)
def E (b : Addr) (A : Cell) (d : Addr) (B : Cell) (o q len : Nat) (r : Option Value) (s u : State) : Prop := r = some (.int (Int32.ofNat len)) ∧ ∃ B', Put d B' s u ∧ Laid B B' q (q + len) (fun j => Value.int (lo8 (cv A (o + (j - q)))))
/-- no char of the range above 255: len; the places written hold each char's low byte -/
theorem law (l : Launch) (b : Addr) (A : Cell) (d : Addr) (B : Cell) (o q len : Nat) : Law l yN 5 5 0 0 yB 7 (some .int) site (P b A d B o q len) (E b A d B o q len) (copyLocs d q len) 0 0 := by
  refine Law.of_walk (plainFor_of_name (by decide +kernel)) (by decide +kernel) (by decide +kernel) (by decide) (fun _ _ h => by rw [h.1]; rfl) (fun _ U U' hal hh h => ⟨h.1, h.2.1.mv hal hh, h.2.2.1.mv hal hh, h.2.2.2⟩) (fun r U U' V V' h1 hal h2 h => ⟨h.1, h.2.elim fun B' q => ⟨B', q.1.mv h1 h2, q.2⟩⟩) ?_
  intro p e s m args below meth c s₁ X0 hexec hbytes hml hret hlk hnm hown hh0 W hP
  obtain ⟨rfl, hA, hB, hne, l1, l2, hp⟩ := hP
  have c1 : Steps p.tables e below (s₁.setTop (entryFrame m #[.ref b, .int (Int32.ofNat o), .ref d, .int (Int32.ofNat q), .int (Int32.ofNat len)] 7)) (s₁.setTop (mkF m 0 #[.val (.ref b), .val (.int (Int32.ofNat o)), .val (.ref d), .val (.int (Int32.ofNat q)), .val (.int (Int32.ofNat len)), .unset, .unset] [])) := entry rfl
  have hA0 := hA.1.mv X0.warmed.alike hh0
  have hB0 := hB.mv X0.warmed.alike hh0
  have a31 := hA.1.2.2.2
  have c2 : Steps p.tables e below (s₁.setTop (entryFrame m #[.ref b, .int (Int32.ofNat o), .ref d, .int (Int32.ofNat q), .int (Int32.ofNat len)] 7)) (s₁.setTop (mkF m 3 #[.val (.ref b), .val (.int (Int32.ofNat o)), .val (.ref d), .val (.int (Int32.ofNat q)), .val (.int (Int32.ofNat len)), .val (.int 0), .unset] [])) := c1.trans (by
    refine iconstV X0.here hexec rfl 0 (hb hbytes d0) (by decide) ?_
    refine XS.istore X0.here hexec rfl (hb hbytes d1) rfl rfl ?_
    exact Steps.refl _)
  have loop : ∀ (r i : Nat), i + r = len → ∀ (z : Slot), (z = .unset ∨ ∃ w, z = .val w ∧ w.category = 1) → ∀ (Tl : State) (Bk : Cell), Stand p l e { frames := 0, locals := 0, cells := 0, slots := 0 } s m #[.ref b, .int (Int32.ofNat o), .ref d, .int (Int32.ofNat q), .int (Int32.ofNat len)] below meth c Tl ([] ++ copyLocs d q i) 0 0 → Put d Bk s₁ Tl → Laid B Bk q (q + i) (fun j => Value.int (lo8 (cv A (o + (j - q))))) →
      Steps p.tables e below (s₁.setTop (entryFrame m #[.ref b, .int (Int32.ofNat o), .ref d, .int (Int32.ofNat q), .int (Int32.ofNat len)] 7)) (Tl.setTop (mkF m 3 #[.val (.ref b), .val (.int (Int32.ofNat (o + i))), .val (.ref d), .val (.int (Int32.ofNat (q + i))), .val (.int (Int32.ofNat len)), .val (.int (Int32.ofNat i)), z] [])) → ∃ (T' : State) (B' : Cell) (z' : Slot), Stand p l e { frames := 0, locals := 0, cells := 0, slots := 0 } s m #[.ref b, .int (Int32.ofNat o), .ref d, .int (Int32.ofNat q), .int (Int32.ofNat len)] below meth c T' ([] ++ copyLocs d q len) 0 0 ∧ Put d B' s₁ T' ∧ Laid B B' q (q + len) (fun j => Value.int (lo8 (cv A (o + (j - q))))) ∧
      Steps p.tables e below (s₁.setTop (entryFrame m #[.ref b, .int (Int32.ofNat o), .ref d, .int (Int32.ofNat q), .int (Int32.ofNat len)] 7)) (T'.setTop (mkF m 3 #[.val (.ref b), .val (.int (Int32.ofNat (o + len))), .val (.ref d), .val (.int (Int32.ofNat (q + len))), .val (.int (Int32.ofNat len)), .val (.int (Int32.ofNat len)), z'] [])) := by
    intro r
    induction r with
    | zero =>
      intro i hi z hz Tl Bk Xl pl fl cl
      have hil : i = len := by omega
      rw [hil] at Xl fl cl
      exact ⟨Tl, Bk, z, Xl, pl, fl, cl⟩
    | succ r ih =>
      intro i hi z hz Tl Bk Xl pl fl cl
      have all := X0.warmed.alike.symm.trans Xl.warmed.alike
      have hAl := hA0.keep all (pl.other hne hA0.1)
      have hBk := hB0.like all pl.1 fl.1 fl.2.1 fl.2.2.1
      have hlt : q + i < Bk.slots.size := by rw [fl.2.2.1]; omega
      have c3 : Steps p.tables e below (s₁.setTop (entryFrame m #[.ref b, .int (Int32.ofNat o), .ref d, .int (Int32.ofNat q), .int (Int32.ofNat len)] 7)) (Tl.setTop (mkF m 12 #[.val (.ref b), .val (.int (Int32.ofNat (o + i))), .val (.ref d), .val (.int (Int32.ofNat (q + i))), .val (.int (Int32.ofNat len)), .val (.int (Int32.ofNat i)), z] [.int (Int32.ofNat (o + i)), .ref b])) := cl.trans (by
        refine XS.iload Xl.here hexec rfl (hb hbytes d3) rfl ?_
        refine XS.iload Xl.here hexec rfl (hb hbytes d5) rfl ?_
        refine XS.icmpNo Xl.here hexec rfl (hb hbytes d7) rfl (ii_ge_f (lt32 (by omega) (by omega))) ?_
        refine XS.aloadN Xl.here hexec rfl (hb hbytes d10) rfl rfl ?_
        refine XS.iloadN Xl.here hexec rfl (hb hbytes d11) rfl ?_
        exact Steps.refl _)
      have c4 : Steps p.tables e below (s₁.setTop (entryFrame m #[.ref b, .int (Int32.ofNat o), .ref d, .int (Int32.ofNat q), .int (Int32.ofNat len)] 7)) (Tl.setTop (mkF m 13 #[.val (.ref b), .val (.int (Int32.ofNat (o + i))), .val (.ref d), .val (.int (Int32.ofNat (q + i))), .val (.int (Int32.ofNat len)), .val (.int (Int32.ofNat i)), z] [.int (cv A (o + i))])) := c3.trans (by
        refine Xl.aget hexec hAl rfl (hA.get (i := o + i) (by omega)) rfl rfl (hb hbytes d12) ?_
        exact Steps.refl _)
      have c5 : Steps p.tables e below (s₁.setTop (entryFrame m #[.ref b, .int (Int32.ofNat o), .ref d, .int (Int32.ofNat q), .int (Int32.ofNat len)] 7)) (Tl.setTop (mkF m 15 #[.val (.ref b), .val (.int (Int32.ofNat (o + i))), .val (.ref d), .val (.int (Int32.ofNat (q + i))), .val (.int (Int32.ofNat len)), .val (.int (Int32.ofNat i)), .val (.int (cv A (o + i)))] [])) := c4.trans (by
        refine XS.istoreS Xl.here hexec rfl (hb hbytes d13) rfl rfl hz ?_
        exact Steps.refl _)
      have c6 : Steps p.tables e below (s₁.setTop (entryFrame m #[.ref b, .int (Int32.ofNat o), .ref d, .int (Int32.ofNat q), .int (Int32.ofNat len)] 7)) (Tl.setTop (mkF m 31 #[.val (.ref b), .val (.int (Int32.ofNat (o + i))), .val (.ref d), .val (.int (Int32.ofNat (q + i))), .val (.int (Int32.ofNat len)), .val (.int (Int32.ofNat i)), .val (.int (cv A (o + i)))] [.int (lo8 (cv A (o + i))), .int (Int32.ofNat (q + i)), .ref d])) := c5.trans (by
        refine XS.iload Xl.here hexec rfl (hb hbytes d15) rfl ?_
        refine sipushV Xl.here hexec rfl 255 (hb hbytes d17) (by decide) ?_
        refine XS.icmpYes Xl.here hexec rfl (pc0 := 20) rfl (hb hbytes d20) rfl (ii_le_t (hp i (by omega))) (by decide) rfl ?_
        refine XS.aloadN Xl.here hexec rfl (hb hbytes d26) rfl rfl ?_
        refine XS.iloadN Xl.here hexec rfl (hb hbytes d27) rfl ?_
        refine XS.iload Xl.here hexec rfl (hb hbytes d28) rfl ?_
        refine i2b Xl.here hexec rfl (hb hbytes d30) rfl ?_
        exact Steps.refl _)
      obtain ⟨T7, X7, p7, st7⟩ := Xl.aput hexec hBk rfl hlt rfl (fits_lo8 (cv A (o + i))) (g := (mkF m 31 #[.val (.ref b), .val (.int (Int32.ofNat (o + i))), .val (.ref d), .val (.int (Int32.ofNat (q + i))), .val (.int (Int32.ofNat len)), .val (.int (Int32.ofNat i)), .val (.int (cv A (o + i)))] [.int (lo8 (cv A (o + i))), .int (Int32.ofNat (q + i)), .ref d])) rfl (rest := []) rfl (hb hbytes d31)
      have c8 : Steps p.tables e below (s₁.setTop (entryFrame m #[.ref b, .int (Int32.ofNat o), .ref d, .int (Int32.ofNat q), .int (Int32.ofNat len)] 7)) (T7.setTop (mkF m 32 #[.val (.ref b), .val (.int (Int32.ofNat (o + i))), .val (.ref d), .val (.int (Int32.ofNat (q + i))), .val (.int (Int32.ofNat len)), .val (.int (Int32.ofNat i)), .val (.int (cv A (o + i)))] [])) := c6.trans (st7 _ (Steps.refl _))
      have c9 : Steps p.tables e below (s₁.setTop (entryFrame m #[.ref b, .int (Int32.ofNat o), .ref d, .int (Int32.ofNat q), .int (Int32.ofNat len)] 7)) (T7.setTop (mkF m 3 #[.val (.ref b), .val (.int (Int32.ofNat (o + i) + 1)), .val (.ref d), .val (.int (Int32.ofNat (q + i) + 1)), .val (.int (Int32.ofNat len)), .val (.int (Int32.ofNat i + 1)), .val (.int (cv A (o + i)))] [])) := c8.trans (by
        refine iincV X7.here hexec rfl 1 (hb hbytes d32) (by decide) rfl rfl ?_
        refine iincV X7.here hexec rfl 1 (hb hbytes d35) (by decide) rfl rfl ?_
        refine iincV X7.here hexec rfl 1 (hb hbytes d38) (by decide) rfl rfl ?_
        refine XS.goto X7.here hexec rfl (pc0 := 41) rfl (hb hbytes d41) (by decide) rfl ?_
        exact Steps.refl _)
      have c10 : Steps p.tables e below (s₁.setTop (entryFrame m #[.ref b, .int (Int32.ofNat o), .ref d, .int (Int32.ofNat q), .int (Int32.ofNat len)] 7)) (T7.setTop (mkF m 3 #[.val (.ref b), .val (.int (Int32.ofNat (o + (i + 1)))), .val (.ref d), .val (.int (Int32.ofNat (q + (i + 1)))), .val (.int (Int32.ofNat len)), .val (.int (Int32.ofNat (i + 1))), .val (.int (cv A (o + i)))] [])) := by
        have := c9
        rw [succ32, succ32, succ32] at this
        exact this
      exact ih (i + 1) (by omega) _ (Or.inr ⟨_, rfl, rfl⟩) T7 _ (by rw [copyLocs_step, ← List.append_assoc]; exact X7) (pl.trans p7) (fl.step (by omega) hlt (by simp)) c10
  obtain ⟨T9, B9, z9, X9, p9, f9, g9⟩ := loop len 0 (by omega) .unset (Or.inl rfl) s₁ B (by simpa [copyLocs] using X0) ⟨hB0.1, fun _ _ => rfl, rfl⟩ (Laid.zero _ _ _) c2
  have c11 : Steps p.tables e below (s₁.setTop (entryFrame m #[.ref b, .int (Int32.ofNat o), .ref d, .int (Int32.ofNat q), .int (Int32.ofNat len)] 7)) (T9.setTop (mkF m 46 #[.val (.ref b), .val (.int (Int32.ofNat (o + len))), .val (.ref d), .val (.int (Int32.ofNat (q + len))), .val (.int (Int32.ofNat len)), .val (.int (Int32.ofNat len)), z9] [.int (Int32.ofNat len)])) := g9.trans (by
    refine XS.iload X9.here hexec rfl (hb hbytes d3) rfl ?_
    refine XS.iload X9.here hexec rfl (hb hbytes d5) rfl ?_
    refine XS.icmpYes X9.here hexec rfl (pc0 := 7) rfl (hb hbytes d7) rfl (ii_ge_t (nlt32 (by omega) (Nat.le_refl _))) (by decide) rfl ?_
    refine XS.iload X9.here hexec rfl (hb hbytes d44) rfl ?_
    exact Steps.refl _)
  exact ⟨T9, some (.int (Int32.ofNat len)), _, _, _, X9, by simp, rfl, rfl, (fun h => by cases h), ⟨rfl, B9, p9.from hh0, f9⟩, fun fs hl => c11.trans (X9.ireturnOut hexec hret rfl (Or.inl rfl) (hb hbytes d46) hl)⟩
end Cmp5
namespace Cmp3
def yN : MethodName := ⟨"java/lang/StringUTF16", "compress", "([CII)[B"⟩
abbrev yB : ByteArray := jdk_52_method_16_code
theorem d0 : decode yB 0 = .ok (.iload_n 2, 1) := by decide +kernel
theorem d1 : decode yB 1 = .ok (.newarray .byte, 2) := by decide +kernel
theorem d3 : decode yB 3 = .ok (.astore_n 3, 1) := by decide +kernel
theorem d4 : decode yB 4 = .ok (.aload_n 0, 1) := by decide +kernel
theorem d5 : decode yB 5 = .ok (.iload_n 1, 1) := by decide +kernel
theorem d6 : decode yB 6 = .ok (.aload_n 3, 1) := by decide +kernel
theorem d7 : decode yB 7 = .ok (.iconst 0, 1) := by decide +kernel
theorem d8 : decode yB 8 = .ok (.iload_n 2, 1) := by decide +kernel
theorem d9 : decode yB 9 = .ok (.invokestatic 115, 3) := by decide +kernel
theorem d12 : decode yB 12 = .ok (.istore 4, 2) := by decide +kernel
theorem d14 : decode yB 14 = .ok (.iload 4, 2) := by decide +kernel
theorem d16 : decode yB 16 = .ok (.iload_n 2, 1) := by decide +kernel
theorem d17 : decode yB 17 = .ok (.if_icmp (.eq) 40, 3) := by decide +kernel
theorem d57 : decode yB 57 = .ok (.aload_n 3, 1) := by decide +kernel
theorem d58 : decode yB 58 = .ok (.areturn, 1) := by decide +kernel
def site : List Cond := [.arrayClass .byte, Cmp5.tab] ++ staticW U16 115 Cmp5.yN
def tab : Cond := tabOf yN yB 6 (some (.array .byte)) site
def P (b : Addr) (A : Cell) (o len : Nat) (args : Array Value) (s : State) : Prop := args = #[.ref b, .int (Int32.ofNat o), .int (Int32.ofNat len)] ∧ Ch b A s ∧ o + len ≤ A.slots.size ∧ len ≤ 536870912 ∧ ∀ i, i < len → ¬ 255 < cv A (o + i)
def E (b : Addr) (A : Cell) (o len : Nat) (r : Option Value) (s u : State) : Prop := NewArr .byte "[B" len (fun j => .int (lo8 (cv A (o + j)))) r s u ∧ u.heap.size = s.heap.size + 1
/-- no char of the range above 255: a new byte[] of their low bytes -/
theorem law (l : Launch) (b : Addr) (A : Cell) (o len : Nat) : Law l yN 3 3 1 18 yB 6 (some (.array .byte)) site (P b A o len) (E b A o len) [] 1 len := by
  refine Law.of_walk (plainFor_of_name (by decide +kernel)) (by decide +kernel) (by decide +kernel) (by decide) (fun _ _ h => by rw [h.1]; rfl) (fun _ U U' hal hh h => ⟨h.1, h.2.1.mv hal hh, h.2.2⟩) (fun r U U' V V' h1 hal h2 h => ⟨NewArr.mv r U U' V V' h1 hal h2 h.1, by rw [h1, h2]; exact h.2⟩) ?_
  intro p e s m args below meth c s₁ X0 hexec hbytes hml hret hlk hnm hown hh0 W hP
  obtain ⟨rfl, hA, l1, l2, hp⟩ := hP
  have a31 := hA.1.2.2.2
  have c1 : Steps p.tables e below (s₁.setTop (entryFrame m #[.ref b, .int (Int32.ofNat o), .int (Int32.ofNat len)] 6)) (s₁.setTop (mkF m 0 #[.val (.ref b), .val (.int (Int32.ofNat o)), .val (.int (Int32.ofNat len)), .unset, .unset, .unset] [])) := entry rfl
  have c2 : Steps p.tables e below (s₁.setTop (entryFrame m #[.ref b, .int (Int32.ofNat o), .int (Int32.ofNat len)] 6)) (s₁.setTop (mkF m 1 #[.val (.ref b), .val (.int (Int32.ofNat o)), .val (.int (Int32.ofNat len)), .unset, .unset, .unset] [.int (Int32.ofNat len)])) := c1.trans (by
    refine XS.iloadN X0.here hexec rfl (hb hbytes d0) rfl ?_
    exact Steps.refl _)
  obtain ⟨T3, B3, X3, ba3, bs3, bv3, bh3, bf3, st3⟩ := X0.anew hexec (atype := .byte) (wk W (.arrayClass .byte)) rfl (by show len * 1 ≤ _; omega) (by omega) (g := (mkF m 1 #[.val (.ref b), .val (.int (Int32.ofNat o)), .val (.int (Int32.ofNat len)), .unset, .unset, .unset] [.int (Int32.ofNat len)])) rfl (hb hbytes d1) (rest := []) rfl (Nat.le_refl _) (by show 0 + len ≤ len; omega)
  rw [hh0] at ba3 st3
  have kp3 : XT.Kept s T3 := (XT.Kept.of_eq hh0).push bh3
  have hA3 := hA.keep X3.warmed.alike (kp3 _ _ hA.1.1)
  have hne : b ≠ s.heap.size := hA.1.ne
  have c4 : Steps p.tables e below (s₁.setTop (entryFrame m #[.ref b, .int (Int32.ofNat o), .int (Int32.ofNat len)] 6)) (T3.setTop (mkF m 3 #[.val (.ref b), .val (.int (Int32.ofNat o)), .val (.int (Int32.ofNat len)), .unset, .unset, .unset] [.ref s.heap.size])) := c2.trans (st3 _ (Steps.refl _))
  have c5 : Steps p.tables e below (s₁.setTop (entryFrame m #[.ref b, .int (Int32.ofNat o), .int (Int32.ofNat len)] 6)) (T3.setTop (mkF m 9 #[.val (.ref b), .val (.int (Int32.ofNat o)), .val (.int (Int32.ofNat len)), .val (.ref s.heap.size), .unset, .unset] [.int (Int32.ofNat len), .int 0, .ref s.heap.size, .int (Int32.ofNat o), .ref b])) := c4.trans (by
    refine XS.astoreN X3.here hexec rfl (hb hbytes d3) rfl rfl rfl ?_
    refine XS.aloadN X3.here hexec rfl (hb hbytes d4) rfl rfl ?_
    refine XS.iloadN X3.here hexec rfl (hb hbytes d5) rfl ?_
    refine XS.aloadN X3.here hexec rfl (hb hbytes d6) rfl rfl ?_
    refine iconstV X3.here hexec rfl 0 (hb hbytes d7) (by decide) ?_
    refine XS.iloadN X3.here hexec rfl (hb hbytes d8) rfl ?_
    exact Steps.refl _)
  obtain ⟨v6, T6, X6, E6, g6⟩ := X3.callS hexec (Cmp5.law l b A s.heap.size B3 o 0 len) hown (wks W (staticW U16 115 Cmp5.yN)) (wk W Cmp5.tab) (W := 0) (Nat.le_of_ble_eq_true rfl) (Nat.le_of_ble_eq_true rfl) (Nat.le_refl _) (by show 0 + len + 0 ≤ len; omega) (g := (mkF m 9 #[.val (.ref b), .val (.int (Int32.ofNat o)), .val (.int (Int32.ofNat len)), .val (.ref s.heap.size), .unset, .unset] [.int (Int32.ofNat len), .int (Int32.ofNat 0), .ref s.heap.size, .int (Int32.ofNat o), .ref b])) rfl (by rw [hml]; rfl) c5 (argsL := [.ref b, .int (Int32.ofNat o), .ref s.heap.size, .int (Int32.ofNat 0), .int (Int32.ofNat len)]) (rest := []) rfl rfl (by show 2 * 0 + 0 ≤ _; decide) (hb hbytes d9) (⟨rfl, hA3, ba3, hne, l1, by rw [bs3]; simp, hp⟩)
  obtain ⟨rfl, B6, p6, f6⟩ := E6
  have c7 : Steps p.tables e below (s₁.setTop (entryFrame m #[.ref b, .int (Int32.ofNat o), .int (Int32.ofNat len)] 6)) (T6.setTop (mkF m 12 #[.val (.ref b), .val (.int (Int32.ofNat o)), .val (.int (Int32.ofNat len)), .val (.ref s.heap.size), .unset, .unset] [.int (Int32.ofNat len)])) := g6
  have c8 : Steps p.tables e below (s₁.setTop (entryFrame m #[.ref b, .int (Int32.ofNat o), .int (Int32.ofNat len)] 6)) (T6.setTop (mkF m 58 #[.val (.ref b), .val (.int (Int32.ofNat o)), .val (.int (Int32.ofNat len)), .val (.ref s.heap.size), .val (.int (Int32.ofNat len)), .unset] [.ref s.heap.size])) := c7.trans (by
    refine XS.istore X6.here hexec rfl (hb hbytes d12) rfl rfl ?_
    refine XS.iload X6.here hexec rfl (hb hbytes d14) rfl ?_
    refine XS.iloadN X6.here hexec rfl (hb hbytes d16) rfl ?_
    refine XS.icmpYes X6.here hexec rfl (pc0 := 17) rfl (hb hbytes d17) rfl (ii_eq_t rfl) (by decide) rfl ?_
    refine XS.aloadN X6.here hexec rfl (hb hbytes d57) rfl rfl ?_
    exact Steps.refl _)
  have X8 := X6.wide (L' := []) (cells' := 1) (slots' := len) (fun x hx hlt => by
    simp only [List.nil_append, copyLocs, List.mem_map, List.mem_range] at hx
    obtain ⟨i, -, rfl⟩ := hx
    exact absurd hlt (Nat.lt_irrefl _)) (Nat.le_refl _) (by omega)
  exact ⟨T6, some (.ref s.heap.size), _, _, _, X8, rfl, rfl, rfl, (fun h => by cases h), ⟨⟨rfl, B6, ba3.like (X3.warmed.alike.symm.trans X6.warmed.alike) p6.1 f6.1 f6.2.1 f6.2.2.1, f6.2.1.trans bv3, by rw [X6.warmed.alike.findClass, f6.1]; exact bf3, by rw [f6.2.2.1, bs3]; simp, fun j hj => by rw [f6.2.2.2 j, if_pos (by omega)]; rfl, kp3.put p6 (Nat.le_refl _)⟩, by rw [p6.2.2, bh3, hh0]; simp⟩, fun fs hl => c8.trans (X8.areturnOut hexec rfl hret rfl (hb hbytes d58) hl)⟩
end Cmp3
namespace CodL
def yN : MethodName := ⟨"java/lang/StringUTF16", "coderFromArrayLen", "([BI)B"⟩
abbrev yB : ByteArray := jdk_52_method_15_code
theorem d0 : decode yB 0 = .ok (.iload_n 1, 1) := by decide +kernel
theorem d1 : decode yB 1 = .ok (.aload_n 0, 1) := by decide +kernel
theorem d2 : decode yB 2 = .ok (.arraylength, 1) := by decide +kernel
theorem d3 : decode yB 3 = .ok (.isub, 1) := by decide +kernel
theorem d4 : decode yB 4 = .ok (.bipush 31, 2) := by decide +kernel
theorem d6 : decode yB 6 = .ok (.iushr, 1) := by decide +kernel
theorem d7 : decode yB 7 = .ok (.i2b, 1) := by decide +kernel
theorem d8 : decode yB 8 = .ok (.ireturn, 1) := by decide +kernel
def site : List Cond := []
def tab : Cond := tabOf yN yB 2 (some .byte) site
def P (d : Addr) (B : Cell) (args : Array Value) (s : State) : Prop := args = #[.ref d, .int (Int32.ofNat B.slots.size)] ∧ Arr .byte d B s
def E (r : Option Value) (s u : State) : Prop := XT.PureE (some (.int 0)) r s u
/-- an array as long as the number of chars: LATIN1 -/
theorem law (l : Launch) (d : Addr) (B : Cell) : Law l yN 2 2 0 0 yB 2 (some .byte) site (P d B) E [] 0 0 := by
  refine Law.of_walk (plainFor_of_name (by decide +kernel)) (by decide +kernel) (by decide +kernel) (by decide) (fun _ _ h => by rw [h.1]; rfl) (fun _ U U' hal hh h => ⟨h.1, h.2.mv hal hh⟩) (fun r U U' V V' h1 hal h2 h => XT.PureE.mv r U U' V V' h1 hal h2 h) ?_
  intro p e s m args below meth c s₁ X0 hexec hbytes hml hret hlk hnm hown hh0 W hP
  obtain ⟨rfl, hB⟩ := hP
  have hB0 := hB.mv X0.warmed.alike hh0
  have c1 : Steps p.tables e below (s₁.setTop (entryFrame m #[.ref d, .int (Int32.ofNat B.slots.size)] 2)) (s₁.setTop (mkF m 0 #[.val (.ref d), .val (.int (Int32.ofNat B.slots.size))] [])) := entry rfl
  have c2 : Steps p.tables e below (s₁.setTop (entryFrame m #[.ref d, .int (Int32.ofNat B.slots.size)] 2)) (s₁.setTop (mkF m 2 #[.val (.ref d), .val (.int (Int32.ofNat B.slots.size))] [.ref d, .int (Int32.ofNat B.slots.size)])) := c1.trans (by
    refine XS.iloadN X0.here hexec rfl (hb hbytes d0) rfl ?_
    refine XS.aloadN X0.here hexec rfl (hb hbytes d1) rfl rfl ?_
    exact Steps.refl _)
  have c3 : Steps p.tables e below (s₁.setTop (entryFrame m #[.ref d, .int (Int32.ofNat B.slots.size)] 2)) (s₁.setTop (mkF m 8 #[.val (.ref d), .val (.int (Int32.ofNat B.slots.size))] [.int (lo8 (ushr (Int32.ofNat B.slots.size - Int32.ofNat B.slots.size) 31))])) := c2.trans (by
    refine X0.alen hexec hB0 rfl rfl (hb hbytes d2) ?_
    refine XS.isub X0.here hexec rfl (hb hbytes d3) rfl ?_
    refine bipushV X0.here hexec rfl 31 (hb hbytes d4) (by decide) ?_
    refine iushr X0.here hexec rfl (hb hbytes d6) rfl ?_
    refine i2b X0.here hexec rfl (hb hbytes d7) rfl ?_
    exact Steps.refl _)
  have e0 : lo8 (ushr (Int32.ofNat B.slots.size - Int32.ofNat B.slots.size) 31) = 0 := by rw [Int32.sub_self]; decide
  rw [e0] at c3
  exact ⟨s₁, some (.int 0), _, _, _, X0, rfl, rfl, rfl, (fun h => by cases h), ⟨rfl, hh0⟩, fun fs hl => c3.trans (X0.ireturnOut hexec hret rfl (Or.inr (Or.inr (Or.inl rfl))) (hb hbytes d8) hl)⟩
end CodL
/-- the String at a is Latin-1 over a new byte[] (the heap's one new cell): the low bytes of the len chars of A from o on; every cell but a is kept -/
def Got (a : Addr) (D : Cell) (fV fC : Field) (A : Cell) (o len : Nat) (r : Option Value) (s u : State) : Prop := r = none ∧ ∃ D' V : Cell, Blank "java/lang/String" a D' u ∧ Same D D' [fV.slot, fC.slot] ∧ D'.slots[fV.slot]? = some (.ref s.heap.size) ∧ D'.slots[fC.slot]? = some (.int 0) ∧ Arr .byte s.heap.size V u ∧ V.vm = .none ∧ u.vm.findClass "[B" = some V.cls ∧ V.slots.size = len ∧ (∀ j, j < len → V.slots[j]? = some (.int (lo8 (cv A (o + j))))) ∧ (∀ (y : Addr) (c : Cell), y ≠ a → s.heap[y]? = some c → u.heap[y]? = some c) ∧ u.heap.size = s.heap.size + 1
theorem Got.mv {a : Addr} {D A : Cell} {fV fC : Field} {o len : Nat} : ∀ r (U U' V V' : State), U'.heap = U.heap → V.vm.Alike V'.vm → V'.heap = V.heap → Got a D fV fC A o len r U V → Got a D fV fC A o len r U' V' :=
  fun r U U' V V' h1 hal h2 ⟨e0, D', X, a1, a2, a3, a4, a5, a6, a7, a8, a9, a10, a11⟩ => ⟨e0, D', X, a1.mv hal h2, a2, by rw [h1]; exact a3, a4, by rw [h1]; exact a5.mv hal h2, a6, by rw [hal.findClass]; exact a7, a8, a9, by rw [h1, h2]; exact a10, by rw [h1, h2]; exact a11⟩
namespace New4
def yN : MethodName := ⟨"java/lang/String", "<init>", "([CIILjava/lang/Void;)V"⟩
abbrev yB : ByteArray := jdk_42_method_149_code
theorem d0 : decode yB 0 = .ok (.aload_n 0, 1) := by decide +kernel
theorem d1 : decode yB 1 = .ok (.invokespecial 1, 3) := by decide +kernel
theorem d4 : decode yB 4 = .ok (.iload_n 3, 1) := by decide +kernel
theorem d5 : decode yB 5 = .ok (.ifCond (.ne) 22, 3) := by decide +kernel
theorem d27 : decode yB 27 = .ok (.getstatic 38, 3) := by decide +kernel
theorem d30 : decode yB 30 = .ok (.ifCond (.eq) 28, 3) := by decide +kernel
theorem d33 : decode yB 33 = .ok (.aload_n 1, 1) := by decide +kernel
theorem d34 : decode yB 34 = .ok (.iload_n 2, 1) := by decide +kernel
theorem d35 : decode yB 35 = .ok (.iload_n 3, 1) := by decide +kernel
theorem d36 : decode yB 36 = .ok (.invokestatic 177, 3) := by decide +kernel
theorem d39 : decode yB 39 = .ok (.astore 5, 2) := by decide +kernel
theorem d41 : decode yB 41 = .ok (.aload_n 0, 1) := by decide +kernel
theorem d42 : decode yB 42 = .ok (.aload 5, 2) := by decide +kernel
theorem d44 : decode yB 44 = .ok (.iload_n 3, 1) := by decide +kernel
theorem d45 : decode yB 45 = .ok (.invokestatic 47, 3) := by decide +kernel
theorem d48 : decode yB 48 = .ok (.putfield 15, 3) := by decide +kernel
theorem d51 : decode yB 51 = .ok (.aload_n 0, 1) := by decide +kernel
theorem d52 : decode yB 52 = .ok (.aload 5, 2) := by decide +kernel
theorem d54 : decode yB 54 = .ok (.putfield 9, 3) := by decide +kernel
theorem d57 : decode yB 57 = .ok (.return_, 1) := by decide +kernel
def site : List Cond := [.fieldLink "java/lang/String" 38 "java/lang/String" "COMPACT_STRINGS" "Z", Cmp3.tab, CodL.tab, .laysFinal "java/lang/String" "java/lang/String" "value" "[B", .fieldLink "java/lang/String" 9 "java/lang/String" "value" "[B", .laysFinal "java/lang/String" "java/lang/String" "coder" "B", .fieldLink "java/lang/String" 15 "java/lang/String" "coder" "B"] ++ objW "java/lang/String" 1 ++ staticW "java/lang/String" 177 Cmp3.yN ++ staticW "java/lang/String" 47 CodL.yN
def tab : Cond := tabOf yN yB 6 none site
def P (a : Addr) (D : Cell) (fV fC : Field) (b : Addr) (A : Cell) (z : Int32) (o len : Nat) (args : Array Value) (s : State) : Prop := args = #[.ref a, .ref b, .int (Int32.ofNat o), .int (Int32.ofNat len), .null] ∧ Blank "java/lang/String" a D s ∧ Found "java/lang/String" "value" "[B" fV s ∧ Found "java/lang/String" "coder" "B" fC s ∧ Ch b A s ∧ StaticIs s "java/lang/String" "COMPACT_STRINGS" "Z" (.int z) ∧ ¬ z = 0 ∧ 0 < len ∧ o + len ≤ A.slots.size ∧ len ≤ 536870912 ∧ ∀ i, i < len → ¬ 255 < cv A (o + i)
def E (a : Addr) (D : Cell) (fV fC : Field) (A : Cell) (o len : Nat) (r : Option Value) (s u : State) : Prop := Got a D fV fC A o len r s u
/-- len > 0, no char of the range above 255: a Latin-1 String of their low bytes -/
theorem law (l : Launch) (a : Addr) (D : Cell) (fV fC : Field) (b : Addr) (A : Cell) (z : Int32) (o len : Nat) : Law l yN 5 4 2 35 yB 6 none site (P a D fV fC b A z o len) (E a D fV fC A o len) [⟨a, fC.slot⟩, ⟨a, fV.slot⟩] 1 len := by
  refine Law.of_walk (plainFor_of_name (by decide +kernel)) (by decide +kernel) (by decide +kernel) (by decide) (fun _ _ h => by rw [h.1]; rfl) (fun _ U U' hal hh h => ⟨h.1, h.2.1.mv hal hh, h.2.2.1.al hal, h.2.2.2.1.al hal, h.2.2.2.2.1.mv hal hh, h.2.2.2.2.2.1.there hal hh, h.2.2.2.2.2.2⟩) (fun r U U' V V' h1 hal h2 h => Got.mv r U U' V V' h1 hal h2 h) ?_
  intro p e s m args below meth c s₁ X0 hexec hbytes hml hret hlk hnm hown hh0 W hP
  obtain ⟨rfl, hB, f1, f2, hA, s1, hz, l0, l1, l2, hp⟩ := hP
  have a31 := hA.1.2.2.2
  have c1 : Steps p.tables e below (s₁.setTop (entryFrame m #[.ref a, .ref b, .int (Int32.ofNat o), .int (Int32.ofNat len), .null] 6)) (s₁.setTop (mkF m 0 #[.val (.ref a), .val (.ref b), .val (.int (Int32.ofNat o)), .val (.int (Int32.ofNat len)), .val .null, .unset] [])) := entry rfl
  have c2 : Steps p.tables e below (s₁.setTop (entryFrame m #[.ref a, .ref b, .int (Int32.ofNat o), .int (Int32.ofNat len), .null] 6)) (s₁.setTop (mkF m 1 #[.val (.ref a), .val (.ref b), .val (.int (Int32.ofNat o)), .val (.int (Int32.ofNat len)), .val .null, .unset] [.ref a])) := c1.trans (by
    refine XS.aloadN X0.here hexec rfl (hb hbytes d0) rfl rfl ?_
    exact Steps.refl _)
  obtain ⟨T3, X3, q3, st3⟩ := X0.oinit hexec hown (wks W (objW "java/lang/String" 1)) (g := (mkF m 1 #[.val (.ref a), .val (.ref b), .val (.int (Int32.ofNat o)), .val (.int (Int32.ofNat len)), .val .null, .unset] [.ref a])) rfl (by rw [hml]; rfl) (rest := []) rfl (hb hbytes d1) (W := 0) (by show 2 * 0 + 0 ≤ _; decide) (Nat.le_of_ble_eq_true rfl) (Nat.le_of_ble_eq_true rfl)
  have hh3 := q3.trans hh0
  have c4 : Steps p.tables e below (s₁.setTop (entryFrame m #[.ref a, .ref b, .int (Int32.ofNat o), .int (Int32.ofNat len), .null] 6)) (T3.setTop (mkF m 27 #[.val (.ref a), .val (.ref b), .val (.int (Int32.ofNat o)), .val (.int (Int32.ofNat len)), .val .null, .unset] [])) := (c2.trans (st3 _ (Steps.refl _))).trans (by
    refine XS.iloadN X3.here hexec rfl (hb hbytes d4) rfl ?_
    refine XS.ifYes X3.here hexec rfl (pc0 := 5) rfl (hb hbytes d5) rfl (i0_ne_t (nz32 (by omega) l0)) (by decide) rfl ?_
    exact Steps.refl _)
  obtain ⟨T5, X5, q5, st5⟩ := X3.sget hexec hown (wk W (.fieldLink "java/lang/String" 38 "java/lang/String" "COMPACT_STRINGS" "Z")) s1 (fun _ _ h => by rw [hh3]; exact h) (g := (mkF m 27 #[.val (.ref a), .val (.ref b), .val (.int (Int32.ofNat o)), .val (.int (Int32.ofNat len)), .val .null, .unset] [])) rfl (hb hbytes d27)
  have hh5 := q5.trans hh3
  have c6 : Steps p.tables e below (s₁.setTop (entryFrame m #[.ref a, .ref b, .int (Int32.ofNat o), .int (Int32.ofNat len), .null] 6)) (T5.setTop (mkF m 30 #[.val (.ref a), .val (.ref b), .val (.int (Int32.ofNat o)), .val (.int (Int32.ofNat len)), .val .null, .unset] [.int z])) := c4.trans (st5 _ (Steps.refl _))
  have c7 : Steps p.tables e below (s₁.setTop (entryFrame m #[.ref a, .ref b, .int (Int32.ofNat o), .int (Int32.ofNat len), .null] 6)) (T5.setTop (mkF m 36 #[.val (.ref a), .val (.ref b), .val (.int (Int32.ofNat o)), .val (.int (Int32.ofNat len)), .val .null, .unset] [.int (Int32.ofNat len), .int (Int32.ofNat o), .ref b])) := c6.trans (by
    refine XS.ifNo X5.here hexec rfl (hb hbytes d30) rfl (i0_eq_f hz) ?_
    refine XS.aloadN X5.here hexec rfl (hb hbytes d33) rfl rfl ?_
    refine XS.iloadN X5.here hexec rfl (hb hbytes d34) rfl ?_
    refine XS.iloadN X5.here hexec rfl (hb hbytes d35) rfl ?_
    exact Steps.refl _)
  obtain ⟨v8, T8, X8, E8, g8⟩ := X5.callS hexec (Cmp3.law l b A o len) hown (wks W (staticW "java/lang/String" 177 Cmp3.yN)) (wk W Cmp3.tab) (W := 0) (Nat.le_of_ble_eq_true rfl) (Nat.le_of_ble_eq_true rfl) (Nat.le_refl _) (by show 0 + len ≤ len; omega) (g := (mkF m 36 #[.val (.ref a), .val (.ref b), .val (.int (Int32.ofNat o)), .val (.int (Int32.ofNat len)), .val .null, .unset] [.int (Int32.ofNat len), .int (Int32.ofNat o), .ref b])) rfl (by rw [hml]; rfl) c7 (argsL := [.ref b, .int (Int32.ofNat o), .int (Int32.ofNat len)]) (rest := []) rfl rfl (by show 2 * 0 + 0 ≤ _; decide) (hb hbytes d36) (⟨rfl, hA.mv X5.warmed.alike hh5, l1, l2, hp⟩)
  obtain ⟨e8, z8⟩ := E8
  obtain ⟨rfl, N, n1, n2, n3, n4, n5, n6⟩ := NewArr.mv _ T5 s _ _ hh5.symm (Vm.Alike.refl _) rfl e8
  rw [hh5] at z8
  have hB1 := hB.keep X8.warmed.alike (n6 _ _ hB.1)
  have hne : s.heap.size ≠ a := (Nat.ne_of_lt (Array.getElem?_eq_some_iff.mp hB.1).1).symm
  have c9 : Steps p.tables e below (s₁.setTop (entryFrame m #[.ref a, .ref b, .int (Int32.ofNat o), .int (Int32.ofNat len), .null] 6)) (T8.setTop (mkF m 39 #[.val (.ref a), .val (.ref b), .val (.int (Int32.ofNat o)), .val (.int (Int32.ofNat len)), .val .null, .unset] [.ref s.heap.size])) := g8
  have c10 : Steps p.tables e below (s₁.setTop (entryFrame m #[.ref a, .ref b, .int (Int32.ofNat o), .int (Int32.ofNat len), .null] 6)) (T8.setTop (mkF m 45 #[.val (.ref a), .val (.ref b), .val (.int (Int32.ofNat o)), .val (.int (Int32.ofNat len)), .val .null, .val (.ref s.heap.size)] [.int (Int32.ofNat N.slots.size), .ref s.heap.size, .ref a])) := by
    have hc : Steps p.tables e below (s₁.setTop (entryFrame m #[.ref a, .ref b, .int (Int32.ofNat o), .int (Int32.ofNat len), .null] 6)) (T8.setTop (mkF m 45 #[.val (.ref a), .val (.ref b), .val (.int (Int32.ofNat o)), .val (.int (Int32.ofNat len)), .val .null, .val (.ref s.heap.size)] [.int (Int32.ofNat len), .ref s.heap.size, .ref a])) := c9.trans (by
      refine XS.astore X8.here hexec rfl (hb hbytes d39) rfl rfl rfl ?_
      refine XS.aloadN X8.here hexec rfl (hb hbytes d41) rfl rfl ?_
      refine XS.aload X8.here hexec rfl (hb hbytes d42) rfl rfl ?_
      refine XS.iloadN X8.here hexec rfl (hb hbytes d44) rfl ?_
      exact Steps.refl _)
    rw [n4]; exact hc
  obtain ⟨v11, T11, X11, E11, g11⟩ := X8.callS hexec (CodL.law l s.heap.size N) hown (wks W (staticW "java/lang/String" 47 CodL.yN)) (wk W CodL.tab) (W := 1) (Nat.le_of_ble_eq_true rfl) (Nat.le_of_ble_eq_true rfl) (Nat.le_refl _) (by show 0 + len + 0 ≤ len; omega) (g := (mkF m 45 #[.val (.ref a), .val (.ref b), .val (.int (Int32.ofNat o)), .val (.int (Int32.ofNat len)), .val .null, .val (.ref s.heap.size)] [.int (Int32.ofNat N.slots.size), .ref s.heap.size, .ref a])) rfl (by rw [hml]; rfl) c10 (argsL := [.ref s.heap.size, .int (Int32.ofNat N.slots.size)]) (rest := [.ref a]) rfl rfl (by show 2 * 0 + (1 + 0) ≤ _; decide) (hb hbytes d45) (⟨rfl, n1⟩)
  obtain ⟨rfl, q11⟩ := E11
  have hB11 := hB1.mv (X8.warmed.alike.symm.trans X11.warmed.alike) q11
  have c12 : Steps p.tables e below (s₁.setTop (entryFrame m #[.ref a, .ref b, .int (Int32.ofNat o), .int (Int32.ofNat len), .null] 6)) (T11.setTop (mkF m 48 #[.val (.ref a), .val (.ref b), .val (.int (Int32.ofNat o)), .val (.int (Int32.ofNat len)), .val .null, .val (.ref s.heap.size)] [.int 0, .ref a])) := g11
  obtain ⟨T13, X13, p13, bl13, sl13, st13⟩ := X11.finit hexec hown (wk W (.fieldLink "java/lang/String" 15 "java/lang/String" "coder" "B")) (Or.inr ⟨_, (wk W (.laysFinal "java/lang/String" "java/lang/String" "coder" "B"))⟩) (Or.inl ⟨rfl, hnm⟩) f2 (Or.inl rfl) hB11 (t := .byte) (by decide +kernel) rfl (g := (mkF m 48 #[.val (.ref a), .val (.ref b), .val (.int (Int32.ofNat o)), .val (.int (Int32.ofNat len)), .val .null, .val (.ref s.heap.size)] [.int 0, .ref a])) rfl (rest := []) rfl (hb hbytes d48)
  have c14 : Steps p.tables e below (s₁.setTop (entryFrame m #[.ref a, .ref b, .int (Int32.ofNat o), .int (Int32.ofNat len), .null] 6)) (T13.setTop (mkF m 54 #[.val (.ref a), .val (.ref b), .val (.int (Int32.ofNat o)), .val (.int (Int32.ofNat len)), .val .null, .val (.ref s.heap.size)] [.ref s.heap.size, .ref a])) := (c12.trans (st13 _ (Steps.refl _))).trans (by
    refine XS.aloadN X13.here hexec rfl (hb hbytes d51) rfl rfl ?_
    refine XS.aload X13.here hexec rfl (hb hbytes d52) rfl rfl ?_
    exact Steps.refl _)
  obtain ⟨T15, X15, p15, bl15, sl15, st15⟩ := X13.finit hexec hown (wk W (.fieldLink "java/lang/String" 9 "java/lang/String" "value" "[B")) (Or.inr ⟨_, (wk W (.laysFinal "java/lang/String" "java/lang/String" "value" "[B"))⟩) (Or.inl ⟨rfl, hnm⟩) f1 (Or.inl rfl) bl13 (t := (.array .byte)) (by decide +kernel) rfl (g := (mkF m 54 #[.val (.ref a), .val (.ref b), .val (.int (Int32.ofNat o)), .val (.int (Int32.ofNat len)), .val .null, .val (.ref s.heap.size)] [.ref s.heap.size, .ref a])) rfl (rest := []) rfl (hb hbytes d54)
  have c16 : Steps p.tables e below (s₁.setTop (entryFrame m #[.ref a, .ref b, .int (Int32.ofNat o), .int (Int32.ofNat len), .null] 6)) (T15.setTop (mkF m 57 #[.val (.ref a), .val (.ref b), .val (.int (Int32.ofNat o)), .val (.int (Int32.ofNat len)), .val .null, .val (.ref s.heap.size)] [])) := c14.trans (st15 _ (Steps.refl _))
  have ap := apart (Or.inr ⟨_, (wk W (.laysFinal "java/lang/String" "java/lang/String" "value" "[B"))⟩) (Or.inr ⟨_, (wk W (.laysFinal "java/lang/String" "java/lang/String" "coder" "B"))⟩) f1 f2 (t₁ := .array .byte) (t₂ := .byte) (by decide +kernel) (by decide +kernel) (by decide)
  have al := X8.warmed.alike.symm.trans X15.warmed.alike
  have n7 : T11.heap[s.heap.size]? = some N := by rw [q11]; exact n1.1
  exact ⟨T15, none, _, _, _, X15, by simp, rfl, by omega, (fun _ => rfl), ⟨rfl, _, N, bl15, ((Same.refl D _).set _ (by simp)).set _ (by simp), sl15, (Cell.slots_setSlot_ne _ ap).trans sl13, n1.keep al (p15.other hne (p13.other hne n7)), n2, by rw [al.findClass]; exact n3, n4, n5, fun y c h1 h2 => p15.other h1 (p13.other h1 (by rw [q11]; exact n6 y c h2)), by rw [p15.2.2, p13.2.2, q11]; exact z8⟩, fun fs hl => c16.trans (X15.returnOut hexec hret (hb hbytes d57) hl)⟩
end New4
namespace New1
def yN : MethodName := ⟨"java/lang/String", "<init>", "([C)V"⟩
abbrev yB : ByteArray := jdk_42_method_3_code
theorem d0 : decode yB 0 = .ok (.aload_n 0, 1) := by decide +kernel
theorem d1 : decode yB 1 = .ok (.aload_n 1, 1) := by decide +kernel
theorem d2 : decode yB 2 = .ok (.iconst 0, 1) := by decide +kernel
theorem d3 : decode yB 3 = .ok (.aload_n 1, 1) := by decide +kernel
theorem d4 : decode yB 4 = .ok (.arraylength, 1) := by decide +kernel
theorem d5 : decode yB 5 = .ok (.aconst_null, 1) := by decide +kernel
theorem d6 : decode yB 6 = .ok (.invokespecial 27, 3) := by decide +kernel
theorem d9 : decode yB 9 = .ok (.return_, 1) := by decide +kernel
def site : List Cond := [New4.tab] ++ initW "java/lang/String" 27 New4.yN
def tab : Cond := tabOf yN yB 2 none site
def P (a : Addr) (D : Cell) (fV fC : Field) (b : Addr) (A : Cell) (z : Int32) (args : Array Value) (s : State) : Prop := args = #[.ref a, .ref b] ∧ Blank "java/lang/String" a D s ∧ Found "java/lang/String" "value" "[B" fV s ∧ Found "java/lang/String" "coder" "B" fC s ∧ Ch b A s ∧ StaticIs s "java/lang/String" "COMPACT_STRINGS" "Z" (.int z) ∧ ¬ z = 0 ∧ 0 < A.slots.size ∧ A.slots.size ≤ 536870912 ∧ ∀ i, i < A.slots.size → ¬ 255 < cv A i
def E (a : Addr) (D : Cell) (fV fC : Field) (A : Cell) (r : Option Value) (s u : State) : Prop := Got a D fV fC A 0 A.slots.size r s u
/-- new String(chars), not empty, no char above 255: a Latin-1 String of their low bytes -/
theorem law (l : Launch) (a : Addr) (D : Cell) (fV fC : Field) (b : Addr) (A : Cell) (z : Int32) : Law l yN 2 1 3 52 yB 2 none site (P a D fV fC b A z) (E a D fV fC A) [⟨a, fC.slot⟩, ⟨a, fV.slot⟩] 1 A.slots.size := by
  refine Law.of_walk (plainFor_of_name (by decide +kernel)) (by decide +kernel) (by decide +kernel) (by decide) (fun _ _ h => by rw [h.1]; rfl) (fun _ U U' hal hh h => ⟨h.1, h.2.1.mv hal hh, h.2.2.1.al hal, h.2.2.2.1.al hal, h.2.2.2.2.1.mv hal hh, h.2.2.2.2.2.1.there hal hh, h.2.2.2.2.2.2⟩) (fun r U U' V V' h1 hal h2 h => Got.mv r U U' V V' h1 hal h2 h) ?_
  intro p e s m args below meth c s₁ X0 hexec hbytes hml hret hlk hnm hown hh0 W hP
  obtain ⟨rfl, hB, f1, f2, hA, s1, hz, l0, l2, hp⟩ := hP
  have c1 : Steps p.tables e below (s₁.setTop (entryFrame m #[.ref a, .ref b] 2)) (s₁.setTop (mkF m 0 #[.val (.ref a), .val (.ref b)] [])) := entry rfl
  have c2 : Steps p.tables e below (s₁.setTop (entryFrame m #[.ref a, .ref b] 2)) (s₁.setTop (mkF m 6 #[.val (.ref a), .val (.ref b)] [.null, .int (Int32.ofNat A.slots.size), .int 0, .ref b, .ref a])) := c1.trans (by
    refine XS.aloadN X0.here hexec rfl (hb hbytes d0) rfl rfl ?_
    refine XS.aloadN X0.here hexec rfl (hb hbytes d1) rfl rfl ?_
    refine iconstV X0.here hexec rfl 0 (hb hbytes d2) (by decide) ?_
    refine XS.aloadN X0.here hexec rfl (hb hbytes d3) rfl rfl ?_
    refine X0.alen hexec (hA.1.mv X0.warmed.alike hh0) rfl rfl (hb hbytes d4) ?_
    refine XS.aconstNull X0.here hexec rfl (hb hbytes d5) ?_
    exact Steps.refl _)
  obtain ⟨v3, T3, X3, E3, g3⟩ := X0.callN hexec (New4.law l a D fV fC b A z 0 A.slots.size) rfl hown (wks W (initW "java/lang/String" 27 New4.yN)) (W New4.tab (by simp only [site, List.mem_cons, List.mem_append, true_or, or_true])) (W := 0) (Nat.le_of_ble_eq_true rfl) (Nat.le_of_ble_eq_true rfl) (Nat.le_refl _) (by show 0 + A.slots.size ≤ A.slots.size; omega) (g := (mkF m 6 #[.val (.ref a), .val (.ref b)] [.null, .int (Int32.ofNat A.slots.size), .int (Int32.ofNat 0), .ref b, .ref a])) rfl (by rw [hml]; rfl) c2 (argsL := [.ref b, .int (Int32.ofNat 0), .int (Int32.ofNat A.slots.size), .null]) (rest := []) rfl rfl (by show 2 * 0 + 0 ≤ _; decide) (hb hbytes d6) (⟨rfl, hB.mv X0.warmed.alike hh0, f1.al X0.warmed.alike, f2.al X0.warmed.alike, hA.mv X0.warmed.alike hh0, s1.there X0.warmed.alike hh0, hz, l0, by omega, l2, fun i hi => by rw [Nat.zero_add]; exact hp i hi⟩)
  have e0 := Got.mv _ s₁ s _ _ hh0.symm (Vm.Alike.refl _) rfl E3
  obtain rfl := e0.1
  have c4 : Steps p.tables e below (s₁.setTop (entryFrame m #[.ref a, .ref b] 2)) (T3.setTop (mkF m 9 #[.val (.ref a), .val (.ref b)] [])) := g3
  exact ⟨T3, none, _, _, _, X3, by simp, rfl, by omega, (fun _ => rfl), e0, fun fs hl => c4.trans (X3.returnOut hexec hret (hb hbytes d9) hl)⟩
theorem pays {l : Launch} {R : Room} {p : Program} {e : Env} {below : List Frame} {s : State} {sargs : Array Value} {len W : Nat} (a : Addr) (D : Cell) (fV fC : Field) (b : Addr) (A : Cell) (z : Int32) (htab : tab.before sargs s = true) (hfr : 4 ≤ R.frames) (hlo : W + 65 ≤ R.locals) :
    Back l R p e below s sargs yN len W (fun A₁ a₁ => A₁.cells + 1 ≤ R.cells ∧ A₁.slots + A.slots.size ≤ R.slots ∧ P a D fV fC b A z a₁ A₁.U) (fun A₁ _ v₁ B₁ => E a D fV fC A v₁ A₁.U B₁.U ∧ B₁.locs = A₁.locs ++ [⟨a, fC.slot⟩, ⟨a, fV.slot⟩] ∧ B₁.cells = A₁.cells + 1 ∧ B₁.slots = A₁.slots + A.slots.size) :=
  (law l a D fV fC b A z).pays htab hfr (by omega)
end New1
end StrChars
namespace StrChars.Road
open Jvm Sem ClassFile Op Lib Jvm.Stand Jvm.Free Jvm.Free.XT
open Jvm.Lib.Cold (StaticIs)
abbrev ST : String := "java/lang/String"
/-- every table word that New1's law asks, flat -/
abbrev words : List Jvm.Cond := [.code New1.yN New1.yB 2 none, .initialized ST, .methodLink ST 27 New4.yN, .instanceMethod New4.yN,
  .code New4.yN New4.yB 6 none, .fieldLink ST 38 ST "COMPACT_STRINGS" "Z", .laysFinal ST ST "value" "[B", .fieldLink ST 9 ST "value" "[B", .laysFinal ST ST "coder" "B", .fieldLink ST 15 ST "coder" "B",
  .methodLink ST 1 Lib.objectInit, .instanceMethod Lib.objectInit, .code Lib.objectInit ⟨#[0xb1]⟩ 1 none, .methodLink ST 177 Cmp3.yN, .static Cmp3.yN, .methodLink ST 47 CodL.yN, .static CodL.yN,
  .code Cmp3.yN Cmp3.yB 6 (some (.array .byte)), .initialized U16, .arrayClass .byte, .methodLink U16 115 Cmp5.yN, .static Cmp5.yN, .code Cmp5.yN Cmp5.yB 7 (some .int), .code CodL.yN CodL.yB 2 (some .byte)]
theorem tab_of {a : Array Value} {s : State} (h : ∀ w ∈ words, w.before a s = true) : New1.tab.before a s = true := by
  have h5 : Cmp5.tab.before a s = true := unparts (wk h (.code Cmp5.yN Cmp5.yB 7 (some .int))) (wks h (.initialized Cmp5.yN.cls :: Cmp5.site))
  have hc : CodL.tab.before a s = true := unparts (wk h (.code CodL.yN CodL.yB 2 (some .byte))) (wks h (.initialized CodL.yN.cls :: CodL.site))
  have q5 : ∀ w ∈ Cmp5.tab :: words, w.before a s = true := fun w hw => (List.mem_cons.mp hw).elim (fun e => e ▸ h5) (h w)
  have h3 : Cmp3.tab.before a s = true := unparts (wk q5 (.code Cmp3.yN Cmp3.yB 6 (some (.array .byte)))) (wks q5 (.initialized Cmp3.yN.cls :: Cmp3.site))
  have q3 : ∀ w ∈ Cmp3.tab :: CodL.tab :: words, w.before a s = true := fun w hw => (List.mem_cons.mp hw).elim (fun e => e ▸ h3) fun hw => (List.mem_cons.mp hw).elim (fun e => e ▸ hc) (h w)
  have h4 : New4.tab.before a s = true := unparts (wk q3 (.code New4.yN New4.yB 6 none)) (wks q3 (.initialized New4.yN.cls :: New4.site))
  have q4 : ∀ w ∈ New4.tab :: words, w.before a s = true := fun w hw => (List.mem_cons.mp hw).elim (fun e => e ▸ h4) (h w)
  exact unparts (wk q4 (.code New1.yN New1.yB 2 none)) (wks q4 (.initialized New1.yN.cls :: New1.site))
/-- the words ride from the start Z to the walk's own state -/
theorem moved {Z s : State} {a0 args : Array Value} (hZ : Z.Warmed39 s.vm) (hw : ∀ d ∈ words, d.before a0 Z = true) : ∀ d ∈ words, d.before args s = true := fun d hd => by
  have q := hw d hd
  have t : ∀ d ∈ words, d = .arrayClass .byte ∨ (d.onTables && d.keepsFace) = true := by decide +kernel
  rcases t d hd with rfl | t
  · exact RoadKit.mvA hZ q
  · exact RoadKit.mv hZ q t
/-- WHAT COMES BACK, over the tables of the start Z: h the heap at the call, h' behind it -/
def Q (Z : State) (x : Addr) (A : Cell) (h : Heap) (v : Option Value) (h' : Heap) (L : List Loc) : Prop := v = none ∧ (∀ y ∈ L, y.base = x) ∧ RoadKit.Keep h h' [x] ∧ h'.size = h.size + 1 ∧ RoadKit.Exa Z h' x ST ∧ RoadKit.Fld Z h' x ST "value" "[B" (.ref h.size) ∧ RoadKit.Fld Z h' x ST "coder" "B" (.int 0) ∧
  (∃ V : Cell, RoadKit.Arr Z h' h.size V .byte ∧ V.vm = .none ∧ Z.vm.findClass "[B" = some V.cls ∧ V.slots.size = A.slots.size ∧ ∀ j, j < A.slots.size → V.slots[j]? = some (.int (lo8 (cv A j)))) ∧
  ∀ (O n d : String) (w : Value), RoadKit.Fld Z h x O n d w → RoadKit.slotOf Z O n d ≠ RoadKit.slotOf Z ST "value" "[B" → RoadKit.slotOf Z O n d ≠ RoadKit.slotOf Z ST "coder" "B" → RoadKit.Fld Z h' x O n d w
/-- **new String(chars) AT A CALL, IN THE ROAD'S FORM**: for specialBack behind newO: x the fresh String, b the char[] with the cell A -/
theorem back {p : Program} {l : Launch} {e : Env} {R : Room} {s : State} {args : Array Value} {below : List Frame} {len W : Nat} {Z : State} {a0 : Array Value} {h : Heap} (hZ : Z.Warmed39 s.vm) (hw : ∀ d ∈ words, d.before a0 Z = true) {kI : Nat} (wi : (Jvm.Cond.instantiable ST kI).before a0 Z = true)
    {x b : Addr} {A : Cell} {z : Int32} {v0 c0 : Value} (E : RoadKit.Exa Z h x ST) (V : RoadKit.Fld Z h x ST "value" "[B" v0) (C : RoadKit.Fld Z h x ST "coder" "B" c0) (K : RoadKit.Arr Z h b A .char) (hty : Typed .char A) (S : RoadKit.Sta Z h ST "COMPACT_STRINGS" "Z" (.int z)) (hz : ¬ z = 0)
    (l0 : 0 < A.slots.size) (l2 : A.slots.size ≤ 536870912) (hp : ∀ i, i < A.slots.size → ¬ 255 < cv A i) (hfr : 4 ≤ R.frames) (hlo : W + 65 ≤ R.locals) :
    Back l R p e below s args New1.yN len W (fun P a => a = #[.ref x, .ref b] ∧ P.U.heap = h ∧ P.cells + 1 ≤ R.cells ∧ P.slots + A.slots.size ≤ R.slots)
      (fun P _ v B => ∃ L, Q Z x A h v B.U.heap L ∧ B.locs = P.locs ++ L ∧ B.cells = P.cells + 1 ∧ B.slots = P.slots + A.slots.size) := by
  intro m meth c P g ig mk a X hg hsize hdg hW hn hp'
  obtain ⟨rfl, rfl, r1, r2⟩ := hp'
  have al : Z.vm.Alike P.U.vm := hZ.alike.trans X.warmed.alike
  obtain ⟨D, cfV, kV, iV, fV, hD, gV, stV, knV, obV, asV, slV⟩ := id V
  obtain ⟨D', cfC, kC, iC, fC, hD', gC, stC, -, -, asC, slC⟩ := id C
  cases hD.symm.trans hD'
  obtain ⟨D2, kD, e1, e2, e3, e4, e5⟩ := id E
  cases hD.symm.trans e1
  obtain ⟨c2, k2, i1, i2, i3, -⟩ := Cond.instantiable_spec wi
  cases e2.symm.trans i1
  cases e3.symm.trans i2
  obtain ⟨kU, u1, u2⟩ := al.2.2 _ _ e3
  have hB : Blank ST x D P.U := ⟨hD, ⟨knV, fun q hq => by rw [hq] at obV; cases obV⟩, by rw [al.findClass]; exact e2, kU, u1, by rw [u2]; exact i3, by rw [u2]; exact e5 i3⟩
  have F1 : Found ST "value" "[B" fV P.U := ⟨SBG.found_only al ⟨cfV, kV, iV, gV⟩, stV⟩
  have F2 : Found ST "coder" "B" fC P.U := ⟨SBG.found_only al ⟨cfC, kC, iC, gC⟩, stC⟩
  have hA : Ch b A P.U := ⟨⟨K.1, State.isArrayOf_alike al K.2.1, K.2.2, by omega⟩, hty⟩
  have hS : StaticIs P.U ST "COMPACT_STRINGS" "Z" (.int z) := by
    obtain ⟨cfS, iS, kS, fS, st, cS, t1, t2, t3, t4, t5, t6, t7⟩ := S
    exact StaticIs.there (s := { Z with heap := P.U.heap }) ⟨cfS, iS, kS, fS, st, cS, t1, t2, t3, t4, t5, (fun q => by rw [q] at t6; cases t6), t7⟩ al rfl
  obtain ⟨v, B, X', ⟨⟨hv, E', V', q1, q2, q3, q4, q5, q6, q7, q8, q9, q10, q11⟩, hl, hc, hs⟩, st⟩ := New1.pays x D fV fC b A z (tab_of (moved hZ hw)) hfr hlo m meth c P g ig mk _ X hg hsize hdg hW hn ⟨r1, r2, rfl, hB, F1, F2, hA, hS, hz, l0, l2, hp⟩
  have al' : Z.vm.Alike B.U.vm := hZ.alike.trans X'.warmed.alike
  have hsz : E'.slots.size = D.slots.size := by
    obtain ⟨-, -, -, kB, w1, w2, w3⟩ := q1
    obtain ⟨kB', y1, y2⟩ := al'.2.2 _ _ e3
    rw [q2.2.1] at w1
    cases w1.symm.trans y1
    rw [w3, e5 i3, y2]
  refine ⟨v, B, X', ⟨_, ⟨hv, ?_, ⟨by omega, fun y cy hy hn' => q10 y cy (by simpa using hn') hy, fun y cy hy => ?_⟩, q11, ⟨E', _, q1.1, by rw [q2.2.1]; exact e2, by rw [q2.2.1]; exact e3, by rw [q2.1]; exact obV, fun _ => by rw [hsz]; exact e5 i3⟩,
    ⟨E', cfV, kV, iV, fV, q1.1, gV, stV, by rw [q2.1]; exact knV, by rw [q2.1]; exact obV, by rw [q2.2.1]; exact asV, q3⟩, ⟨E', cfC, kC, iC, fC, q1.1, gC, stC, by rw [q2.1]; exact knV, by rw [q2.1]; exact obV, by rw [q2.2.1]; exact asC, q4⟩,
    ⟨V', ⟨q5.1, State.isArrayOf_alike al'.symm q5.2.1, q5.2.2.1⟩, q6, by rw [← al'.findClass]; exact q7, q8, fun j hj => by have := q9 j hj; rwa [Nat.zero_add] at this⟩, fun O n d w F n1 n2 => ?_⟩, hl, hc, hs⟩, st⟩
  · intro y hy
    simp only [List.mem_cons, List.not_mem_nil, or_false] at hy
    rcases hy with rfl | rfl <;> rfl
  · by_cases q : y = x
    · subst q
      cases hD.symm.trans hy
      exact ⟨E', q1.1, q2.2.1, q2.1, hsz⟩
    · exact ⟨cy, q10 y cy q hy, rfl, rfl, rfl⟩
  · obtain ⟨D3, cf, k, i, f, g1, g2, g3, g4, g5, g6, g7⟩ := F
    cases hD.symm.trans g1
    simp only [RoadKit.slotOf, g2, gV, gC, Option.map_some, Option.getD_some] at n1 n2
    exact ⟨E', cf, k, i, f, q1.1, g2, g3, by rw [q2.1]; exact g4, by rw [q2.1]; exact g5, by rw [q2.2.1]; exact g6, by rw [q2.2.2 f.slot (by simp [n1, n2])]; exact g7⟩
end StrChars.Road
namespace StrChars.Road
open Jvm Sem ClassFile Op Lib Jvm.Stand Jvm.Free Jvm.Free.XT
/-- WHAT COMES BACK, the byte[] as a list of values -/
def QA (Z : State) (x : Addr) (zn : Int32) (cs : List Int32) (h : Heap) (v : Option Value) (h' : Heap) (L : List Loc) : Prop := v = none ∧ (∀ y ∈ L, y.base = x) ∧ RoadKit.Keep h h' [x] ∧ h'.size = h.size + 1 ∧ RoadKit.Exa Z h' x ST ∧ RoadKit.Fld Z h' x ST "value" "[B" (.ref h.size) ∧ RoadKit.Fld Z h' x ST "coder" "B" (.int 0) ∧
  (∃ kb, Z.vm.findClass "[B" = some kb ∧ RoadKit.Arv Z h' h.size kb .byte zn (cs.map fun c => .int (lo8 c)) (.int 0)) ∧
  ∀ (O n d : String) (w : Value), RoadKit.Fld Z h x O n d w → RoadKit.slotOf Z O n d ≠ RoadKit.slotOf Z ST "value" "[B" → RoadKit.slotOf Z O n d ≠ RoadKit.slotOf Z ST "coder" "B" → RoadKit.Fld Z h' x O n d w
/-- **new String(chars) AT A CALL, THE ARRAYS AS LISTS**: the char[] at b holds cs, not empty, no char above 255 -/
theorem backArv {p : Program} {l : Launch} {e : Env} {R : Room} {s : State} {args : Array Value} {below : List Frame} {len W : Nat} {Z : State} {a0 : Array Value} {h : Heap} (hZ : Z.Warmed39 s.vm) (hw : ∀ d ∈ words, d.before a0 Z = true) {kI : Nat} (wi : (Jvm.Cond.instantiable ST kI).before a0 Z = true)
    {x b : Addr} {k : ClassId} {zn z : Int32} {cs : List Int32} {dv v0 c0 : Value} (E : RoadKit.Exa Z h x ST) (V : RoadKit.Fld Z h x ST "value" "[B" v0) (C : RoadKit.Fld Z h x ST "coder" "B" c0) (K : RoadKit.Arv Z h b k .char zn (cs.map Value.int) dv) (S : RoadKit.Sta Z h ST "COMPACT_STRINGS" "Z" (.int z)) (hz : ¬ z = 0)
    (hlen : zn.toNatClampNeg = cs.length) (h0 : 0 < cs.length) (hbig : cs.length ≤ 536870912) (hall : ∀ c ∈ cs, ¬ 255 < c) (hfr : 4 ≤ R.frames) (hlo : W + 65 ≤ R.locals) :
    Back l R p e below s args New1.yN len W (fun P a => a = #[.ref x, .ref b] ∧ P.U.heap = h ∧ P.cells + 1 ≤ R.cells ∧ P.slots + cs.length ≤ R.slots)
      (fun P _ v B => ∃ L, QA Z x zn cs h v B.U.heap L ∧ B.locs = P.locs ++ L ∧ B.cells = P.cells + 1 ∧ B.slots = P.slots + cs.length) := by
  obtain ⟨A, K1, K2, K3, K4, K5, K6⟩ := K
  have e : A.slots.size = cs.length := K3.trans hlen
  have hat : ∀ (i : Nat) (hi : i < cs.length), A.slots[i]? = some (.int cs[i]) := fun i hi => by rw [K5 i (by omega)]; simp [List.getD_eq_getElem?_getD, hi]
  have hcv : ∀ (i : Nat) (hi : i < cs.length), cv A i = cs[i] := fun i hi => by unfold cv; rw [hat i hi]
  have hty : Typed .char A := fun i v hv => by
    have hi : i < A.slots.size := (Array.getElem?_eq_some_iff.mp hv).1
    have q := K5 i hi
    rw [hv] at q
    rw [Option.some.inj q]
    exact K6 i hi
  refine Back.mono (back hZ hw wi E V C K1 hty S hz (by omega) (by omega) (fun i hi => by rw [hcv i (by omega)]; exact hall _ (List.getElem_mem _)) hfr hlo) (fun P a hp => ⟨hp.1, hp.2.1, hp.2.2.1, by rw [e]; exact hp.2.2.2⟩) (fun P a v B hp hq => ?_)
  obtain ⟨L, ⟨q1, q2, q3, q4, q5, q6, q7, ⟨V', v1, v2, v3, v4, v5⟩, q9⟩, hl, hc, hs⟩ := hq
  refine ⟨L, ⟨q1, q2, q3, q4, q5, q6, q7, ⟨V'.cls, v3, V', v1, rfl, by rw [v4, e, hlen], K4, fun i hi => ?_, fun i hi => ?_⟩, q9⟩, hl, hc, by rw [hs, e]⟩
  · have hi' : i < cs.length := by omega
    rw [v5 i (by omega), hcv i hi']; simp [List.getD_eq_getElem?_getD, hi']
  · have hi' : i < cs.length := by omega
    simp only [List.getD_eq_getElem?_getD, List.getElem?_map, List.getElem?_eq_getElem hi', Option.map_some, Option.getD_some]
    exact fits_lo8 _
end StrChars.Road
namespace StrChars.Road
open Jvm Sem ClassFile Op Lib Jvm.Stand Jvm.Free Jvm.Free.XT
/-- WHAT COMES BACK, in the writer's own shape -/
def QV (Z : State) (x : Addr) (N : Int32) (bs : List Int32) (h : Heap) (n0 : Nat) (v : Option Value) (h' : Heap) (L : List Loc) : Prop := v = none ∧ RoadKit.Fr n0 L ∧ RoadKit.Keep h h' [x] ∧ RoadKit.Exa Z h' x ST ∧ RoadKit.Fld Z h' x ST "coder" "B" (.int 0) ∧
  ∃ (t : Addr) (kb : ClassId), n0 ≤ t ∧ h.size ≤ t ∧ ¬ t = x ∧ RoadKit.Fld Z h' x ST "value" "[B" (.ref t) ∧ RoadKit.Arv Z h' t kb .byte N (bs.map Value.int) (.int 0)
/-- **new String(chars) AT A CALL, FOR THE WRITER**: a char[] of n known ints, each 0 to 255 -/
theorem backV {p : Program} {l : Launch} {e : Env} {R : Room} {s : State} {args : Array Value} {below : List Frame} {len W : Nat} {Z : State} {a0 : Array Value} {h : Heap} (hZ : Z.Warmed39 s.vm) (hw : ∀ d ∈ words, d.before a0 Z = true) {kI : Nat} (wi : (Jvm.Cond.instantiable ST kI).before a0 Z = true)
    {x b : Addr} {kC : ClassId} {cs bs : List Int32} {d v0 c0 : Value} {z N : Int32} {n n0 : Nat} (hx0 : n0 ≤ x) (hh0 : n0 ≤ h.size) (E : RoadKit.Exa Z h x ST) (V : RoadKit.Fld Z h x ST "value" "[B" v0) (C : RoadKit.Fld Z h x ST "coder" "B" c0) (K : RoadKit.Arv Z h b kC .char N (cs.map Value.int) d) (S : RoadKit.Sta Z h ST "COMPACT_STRINGS" "Z" (.int z)) (hz : ¬ z = 0)
    (hn : cs.length = n) (hN : N = Int32.ofNat n) (l0 : 0 < n) (l2 : n ≤ 4000) (hp : ∀ c ∈ cs, ¬ c < 0 ∧ ¬ (255 : Int32) < c) (hb : bs = cs.map (fun c => c.toInt8.toInt32)) (hfr : 4 ≤ R.frames) (hlo : W + 65 ≤ R.locals) :
    Back l R p e below s args (⟨"java/lang/String", "<init>", "([C)V"⟩ : MethodName) len W (fun P a => a = #[.ref x, .ref b] ∧ P.U.heap = h ∧ P.cells + 1 ≤ R.cells ∧ P.slots + n ≤ R.slots)
      (fun P _ v B => ∃ L, QV Z x N bs h n0 v B.U.heap L ∧ B.locs = P.locs ++ L ∧ B.cells = P.cells + 1 ∧ B.slots = P.slots + n) := by
  subst hn hN hb
  refine Back.mono (backArv hZ hw wi E V C K S hz (n32 (by omega)) l0 (by omega) (fun c hc => (hp c hc).2) hfr hlo) (fun P a hp => hp) (fun P a v B hp hq => ?_)
  obtain ⟨L, ⟨q1, q2, q3, q4, q5, q6, q7, ⟨kb, v1, v2⟩, q9⟩, hl, hc, hs⟩ := hq
  exact ⟨L, ⟨q1, fun y hy => by rw [q2 y hy]; exact hx0, q3, q5, q7, h.size, kb, hh0, Nat.le_refl _, Nat.ne_of_gt E.lt, q6, by rw [List.map_map]; exact v2⟩, hl, hc, hs⟩
end StrChars.Road
end Jvm.Pilot.@@N@@
namespace Jvm.Pilot.@@N@@
open Jvm Jvm.ClassFile Sem Op Lib Jvm.Free Jvm.Stand Jvm.LawKit Jvm.RoadKit Bundle Jvm.OwnKit Jvm.Pilot.@@N@@.Jvm.D
section StrCalls
variable {p : Program} {l : Launch} {e : Env} {R : Room} {s : State} {m : MethodId} {args : Array Value} {below : List Frame} {meth : Method} {c : Code}
  {own : String} {bytes : ByteArray} {maxL : Nat} {ret : Option FieldType} {nm : String} {Z : State} {EL : List (String × Nat)} {nw : Bool} {us : List Addr} {bs : List (String × Nat × Addr)}
  {T : State} {h : Heap} {cells slots : Nat} {Q : Option Value → Heap → Prop} {kk nn : Nat} {a0 : Array Value} {pc : Nat} {Ls : Array Slot} {st : List Value}

theorem pd_len : parseMethodDescriptor "()I" = some ⟨[], some .int⟩ := by decide +kernel
theorem pd_cha : parseMethodDescriptor "(I)C" = some ⟨[.int], some .char⟩ := by decide +kernel
theorem pd_seq : parseMethodDescriptor "(Ljava/lang/Object;)Z" = some ⟨[.object "java/lang/Object"], some .boolean⟩ := by decide +kernel
theorem pd_emp : parseMethodDescriptor "()Z" = some ⟨[], some .boolean⟩ := by decide +kernel
theorem pd_sin : parseMethodDescriptor "([C)V" = some ⟨[.array .char], none⟩ := by decide +kernel
abbrev yLen : MethodName := ⟨"java/lang/String", "length", "()I"⟩
abbrev yCha : MethodName := ⟨"java/lang/String", "charAt", "(I)C"⟩
abbrev ySeq : MethodName := ⟨"java/lang/String", "equals", "(Ljava/lang/Object;)Z"⟩
abbrev yEmp : MethodName := ⟨"java/lang/String", "isEmpty", "()Z"⟩
abbrev ySin : MethodName := ⟨"java/lang/String", "<init>", "([C)V"⟩
theorem up255 {cs : List Int32} (h : ∀ c ∈ cs, ¬ c < 0 ∧ ¬ (255 : Int32) < c) : ∀ c ∈ cs, ¬ c < 0 ∧ ¬ (65535 : Int32) < c := fun c hc => ⟨(h c hc).1, fun q => (h c hc).2 (by
  have h1 := (h c hc).2
  rw [Int32.lt_iff_toInt_lt] at q ⊢
  have : (65535 : Int32).toInt = 65535 := by decide
  have : (255 : Int32).toInt = 255 := by decide
  omega)⟩
/-- new String(char[]) of one or more signs below 256 -/
theorem g_strNew (X : St p l e R s m args below meth c own bytes maxL ret nm Z EL nw us bs T h cells slots) {ix : Nat} {a b : Addr} {kC : ClassId} {cs : List Int32} {vs : List Value} {dv v0 c0 : Value} {zc N0 : Int32} {k : Nat} (w1 : (Jvm.Cond.methodLink own ix ySin).before a0 Z = true) (w2 : (Jvm.Cond.instanceMethod ySin).before a0 Z = true) (w4 : (Jvm.Cond.code ySin StrChars.New1.yB 2 none).before a0 Z = true)
    (hws : ∀ d ∈ StrChars.Road.words, d.before a0 Z = true) (wI : (Jvm.Cond.instantiable "java/lang/String" k).before a0 Z = true) (C : Sta Z h "java/lang/String" "COMPACT_STRINGS" "Z" (.int zc)) (hz : ¬ zc = 0) (E : Exa Z h a "java/lang/String") (V : Fld Z h a "java/lang/String" "value" "[B" v0) (Co : Fld Z h a "java/lang/String" "coder" "B" c0)
    (A : Arv Z h b kC .char N0 vs dv) (hvs : vs = cs.map Value.int) (n : Nat) (hn : cs.length = n) (hN : N0 = Int32.ofNat n) (l0 : 0 < n) (l2 : n ≤ 4000) (hp255 : ∀ c ∈ cs, ¬ c < 0 ∧ ¬ (255 : Int32) < c) (ha : a ∈ us) (hsize : Ls.size = maxL)
    (W : Nat) (hW : (st.map fun v => v.category).sum ≤ W) (hf : 4 ≤ R.frames) (hl : W + 65 ≤ R.locals) {ck cs' : Nat} (hck : cells + 1 = ck) (hcs : slots + n = cs') (hc : ck ≤ R.cells) (hs : cs' ≤ R.slots) (hd : decode bytes pc = .ok (.invokespecial ix, 3)) (pc' : Nat) (hp : pc + 3 = pc')
    (K : ∀ T' h', St p l e R s m args below meth c own bytes maxL ret nm Z EL nw us bs T' h' ck cs' → Keep h h' [a] →
      (∃ (t : Addr) (kb : ClassId), Exa Z h' a "java/lang/String" ∧ Fld Z h' a "java/lang/String" "coder" "B" (.int 0) ∧ Fld Z h' a "java/lang/String" "value" "[B" (.ref t) ∧ Arv Z h' t kb .byte (Int32.ofNat cs.length) ((cs.map fun c => c.toInt8.toInt32).map Value.int) (.int 0) ∧ (∀ c ∈ cs, ¬ c < 0 ∧ ¬ (255 : Int32) < c) ∧ cs.length ≤ 4000 ∧ h.size ≤ t) →
      Goes p e below s Z EL nw Q kk nn (T'.setTop (mkF m pc' Ls st))) : Goes p e below s Z EL nw Q kk nn (T.setTop (mkF m pc Ls (.ref b :: .ref a :: st))) := by
  subst hp hck hcs hvs hN
  obtain ⟨cx, vm0, locs, Y, N, eT, hS, hZ, hown, hE, hC, hU, hWn⟩ := X
  obtain ⟨u1, u2, u3⟩ := hU a ha
  obtain ⟨v, vm₁, B, -, Y', ⟨L, ⟨rfl, N', K', E', Co', t, kb, -, q2, -, V', A'⟩, q4, q5, q6⟩, stp⟩ := Y.specialBack cx.1 (own := own) (index := ix) (y := ySin) rfl hown (mvT (s := s.setVm vm0) hZ w1) (mvT (s := s.setVm vm0) hZ w2) (mvT (s := s.setVm vm0) hZ w4) (by decide)
    (StrChars.Road.backV (W := W) (s := s.setVm vm0) hZ hws wI (bs := cs.map fun c => c.toInt8.toInt32) u1 hE.1 E V Co A C hz hn rfl l0 l2 hp255 rfl hf hl) (g := mkF m pc Ls (.ref b :: .ref a :: st)) rfl (by rw [cx.2.2.1]; exact hsize) (Steps.refl _) (a := a) (argsL := [.ref b]) (rest := st) (lenOf pd_sin rfl) rfl (by show 2 * 0 + _ ≤ _; omega) (hb cx.2.1 hd)
    (fun _ _ => ⟨rfl, eT, hc, hs⟩)
  dsimp only [Pt.U, Pt.locs, Pt.cells, Pt.slots] at q4 q5 q6 Y'
  have hsf : ∀ x ∈ [a], Safe Z EL vm0 h x := fun x hx => by cases List.mem_singleton.mp hx; exact u3
  refine (K B.U B.U.heap ⟨cx, vm0, locs ++ L, ?_, N.app N', rfl, ⟨hS.1, hS.2.mono K'.1⟩, hZ, hown, ext_keep hE K' (fun x hx => by cases List.mem_singleton.mp hx; exact u1), hC.trans (CHr.keep K' hsf hC.1), fun x hx => ⟨(hU x hx).1, Nat.lt_of_lt_of_le (hU x hx).2.1 K'.1, Safe.keep K' hsf hC.1 (hU x hx).2.2⟩, hWn⟩ K' ⟨t, kb, E', Co', V', by rw [hn]; exact A', hp255, by omega, q2⟩).step fun t k => stp.trans k
  rw [q4, q5, q6] at Y'; exact Y'
end StrCalls
end Jvm.Pilot.@@N@@
namespace Jvm.Pilot.@@N@@
open Jvm Jvm.ClassFile Sem Op Lib Jvm.Free Jvm.Stand Jvm.LawKit Jvm.RoadKit Bundle Jvm.OwnKit Jvm.Pilot.@@N@@.Jvm.D
def EL : List (String × Nat) := consts_1
abbrev nw : Bool := false
/-- what holds of the tables and of the JDK's statics at the start -/
def Gl (Z : State) (a0 : Array Value) : Prop := (∀ d ∈ tables_1, d.before a0 Z = true) ∧ EW Z a0 EL ∧ (∀ a ∈ Bundle.stringAtoms, a.before a0 Z = true) ∧
  (∃ zc : Int32, Sta Z Z.heap "java/lang/String" "COMPACT_STRINGS" "Z" (.int zc) ∧ ¬ zc = 0) ∧
  (∃ fm : Value, Sta Z Z.heap "jdk/internal/util/Preconditions" "SIOOBE_FORMATTER" "Ljava/util/function/BiFunction;" fm ∧ fm.isRef = true)
theorem hwsV {Z : State} {a0 : Array Value} (hw : ∀ d ∈ tables_1, d.before a0 Z = true) : ∀ d ∈ StrChars.Road.words, d.before a0 Z = true := fun d hd => hw d ((by decide +kernel : ∀ d ∈ StrChars.Road.words, d ∈ tables_1) d hd)
theorem pd_0 : parseMethodDescriptor "(I)Ljava/lang/String;" = some ⟨[.int], (some (.object "java/lang/String"))⟩ := by decide +kernel
theorem pd_1 : parseMethodDescriptor "(Ljava/lang/String;Ljava/lang/String;Ljava/lang/String;Ljava/lang/String;)V" = some ⟨[(.object "java/lang/String"), (.object "java/lang/String"), (.object "java/lang/String"), (.object "java/lang/String")], none⟩ := by decide +kernel
theorem pd_2 : parseMethodDescriptor "(Ljava/lang/Object;Ljava/lang/String;)Ljava/lang/Object;" = some ⟨[(.object "java/lang/Object"), (.object "java/lang/String")], (some (.object "java/lang/Object"))⟩ := by decide +kernel
theorem pd_3 : parseMethodDescriptor "(Ljava/lang/Object;)Z" = some ⟨[(.object "java/lang/Object")], (some .boolean)⟩ := by decide +kernel
abbrev CAPS : List Nat := [16, 34, 70]
theorem elL {Z : State} {a0 : Array Value} (hw : ∀ d ∈ tables_1, d.before a0 Z = true) (n : Nat) (hn : n ∈ ([16, 34, 70] : List Nat)) : ∀ p ∈ EL, ∃ text : String, (Jvm.Cond.stringLink p.1 p.2 text).before a0 Z = true ∧ (∀ c ∈ text.toList, c.toNat < 256) ∧ text.toList.length ≠ (Int32.ofNat n).toNatClampNeg := by
  have e : (Int32.ofNat n).toNatClampNeg = n := of_nat (by simp only [List.mem_cons, List.not_mem_nil, or_false] at hn; omega)
  rw [e]
  have key : ∀ (text : String), (∀ k ∈ ([16, 34, 70] : List Nat), text.toList.length ≠ k) → text.toList.length ≠ n := fun _ q => q n hn
  intro p hp
  simp only [EL, consts_1, List.mem_cons, List.not_mem_nil, or_false] at hp
  rcases hp with rfl | rfl | rfl | rfl | rfl | rfl | rfl | rfl
  · exact ⟨"id", (hw _ (List.mem_of_getElem? (i := 46) rfl)), by decide, key _ (by decide)⟩
  · exact ⟨"name", (hw _ (List.mem_of_getElem? (i := 53) rfl)), by decide, key _ (by decide)⟩
  · exact ⟨"displayName", (hw _ (List.mem_of_getElem? (i := 54) rfl)), by decide, key _ (by decide)⟩
  · exact ⟨"token", (hw _ (List.mem_of_getElem? (i := 55) rfl)), by decide, key _ (by decide)⟩
  · exact ⟨"User[id=", (hw _ (List.mem_of_getElem? (i := 87) rfl)), by decide, key _ (by decide)⟩
  · exact ⟨", name=", (hw _ (List.mem_of_getElem? (i := 135) rfl)), by decide, key _ (by decide)⟩
  · exact ⟨", displayName=", (hw _ (List.mem_of_getElem? (i := 159) rfl)), by decide, key _ (by decide)⟩
  · exact ⟨"]", (hw _ (List.mem_of_getElem? (i := 160) rfl)), by decide, key _ (by decide)⟩

theorem pd_4 : parseMethodDescriptor "()I" = some ⟨[], (some .int)⟩ := by decide +kernel
theorem pd_5 : parseMethodDescriptor "()B" = some ⟨[], (some .byte)⟩ := by decide +kernel
theorem pd_6 : parseMethodDescriptor "()Z" = some ⟨[], (some .boolean)⟩ := by decide +kernel
theorem pd_7 : parseMethodDescriptor "(I)C" = some ⟨[.int], (some .char)⟩ := by decide +kernel
theorem pd_8 : parseMethodDescriptor "([BI)C" = some ⟨[(.array .byte), .int], (some .char)⟩ := by decide +kernel
theorem pd_9 : parseMethodDescriptor "(II)V" = some ⟨[.int, .int], none⟩ := by decide +kernel
theorem pd_10 : parseMethodDescriptor "(IILjava/util/function/BiFunction;)I" = some ⟨[.int, .int, (.object "java/util/function/BiFunction")], (some .int)⟩ := by decide +kernel
theorem pd_11 : parseMethodDescriptor "([B[B)Z" = some ⟨[(.array .byte), (.array .byte)], (some .boolean)⟩ := by decide +kernel
theorem d17_0 : decode jdk_42_method_152_code 0 = .ok (.getstatic 38, 3) := by decide +kernel
theorem d17_3 : decode jdk_42_method_152_code 3 = .ok (.ifCond .eq 10, 3) := by decide +kernel
theorem d17_6 : decode jdk_42_method_152_code 6 = .ok (.aload_n 0, 1) := by decide +kernel
theorem d17_7 : decode jdk_42_method_152_code 7 = .ok (.getfield 15, 3) := by decide +kernel
theorem d17_10 : decode jdk_42_method_152_code 10 = .ok (.goto 4, 3) := by decide +kernel
theorem d17_13 : decode jdk_42_method_152_code 13 = .ok (.iconst 1, 1) := by decide +kernel
theorem d17_14 : decode jdk_42_method_152_code 14 = .ok (.ireturn, 1) := by decide +kernel
theorem pn_0 : plainName "java/lang/String" = true := by first | (simp [plainName, overriddenIn]; done) | decide +kernel
set_option maxRecDepth 65536 in
set_option maxHeartbeats 40000000 in
theorem c_cod (l : Launch) (Z : State) (a0 : Array Value) (G : Gl Z a0) (a : Addr) (h : Heap) (C : Fld Z h a "java/lang/String" "coder" "B" (.int (0 : Int32))) :
    Ctr l Z EL nw (⟨"java/lang/String", "coder", "()B"⟩ : MethodName) jdk_42_method_152_code 1 (Option.some Jvm.ClassFile.FieldType.byte) ({ frames := 0, cells := 0, slots := 0, locals := 0 } : Room) #[.ref a] h [] (PureQ h fun w => w = .int 0) := by
  obtain ⟨hw, hEL, hSA, ⟨zc, SC, hz⟩, ⟨fm, SF, hfm⟩⟩ := id G
  refine Ctr.enter (own := "java/lang/String") (nm := "coder") rfl rfl hEL (plainFor_of_name pn_0) #[.val (.ref a)] (fun m => by first | rfl | (simp [entryFrame, mkF, argsToLocals, Value.category, maxLocals]; done)) ?_
  intro p e s m below meth c T X
  refine g_getS X (Or.inl (hw _ (List.mem_of_getElem? (i := 14) rfl))) (host := "") Via.refl (SC.ext X.old) d17_0 3 rfl ?_
  intro T1 X2
  refine g_ifNo X2 d17_3 (XT.ii_eq_f hz) 6 rfl ?_
  refine g_aloadN X2 d17_6 rfl rfl 7 rfl ?_
  refine g_getF X2 (Or.inl (hw _ (List.mem_of_getElem? (i := 26) rfl))) (host := "") Via.refl C d17_7 10 rfl ?_
  intro T3 X4
  refine g_goto X4 d17_10 14 (by decide) (by decide) ?_
  exact g_retN X4 (t := .byte) rfl (by simp) d17_14 _ rfl (by decide) (by decide) ⟨rfl, _, rfl, rfl⟩
theorem d16_0 : decode jdk_42_method_54_code 0 = .ok (.aload_n 0, 1) := by decide +kernel
theorem d16_1 : decode jdk_42_method_54_code 1 = .ok (.getfield 9, 3) := by decide +kernel
theorem d16_4 : decode jdk_42_method_54_code 4 = .ok (.arraylength, 1) := by decide +kernel
theorem d16_5 : decode jdk_42_method_54_code 5 = .ok (.aload_n 0, 1) := by decide +kernel
theorem d16_6 : decode jdk_42_method_54_code 6 = .ok (.invokevirtual 335, 3) := by decide +kernel
theorem d16_9 : decode jdk_42_method_54_code 9 = .ok (.ishr, 1) := by decide +kernel
theorem d16_10 : decode jdk_42_method_54_code 10 = .ok (.ireturn, 1) := by decide +kernel
set_option maxRecDepth 65536 in
set_option maxHeartbeats 40000000 in
theorem c_len (l : Launch) (Z : State) (a0 : Array Value) (G : Gl Z a0) (a t : Addr) (kb : ClassId) (cs : List Int32) (h : Heap) (E : Exa Z h a "java/lang/String") (C : Fld Z h a "java/lang/String" "coder" "B" (.int (0 : Int32))) (V : Fld Z h a "java/lang/String" "value" "[B" (.ref t)) (A : Arv Z h t kb .byte (Int32.ofNat cs.length) (bys cs) (.int (0 : Int32))) (hcs : ∀ c ∈ cs, ¬ c < 0 ∧ ¬ (255 : Int32) < c) (hlen : cs.length ≤ 4000) :
    Ctr l Z EL nw (⟨"java/lang/String", "length", "()I"⟩ : MethodName) jdk_42_method_54_code 1 (Option.some Jvm.ClassFile.FieldType.int) ({ frames := 1, cells := 0, slots := 0, locals := 13 } : Room) #[.ref a] h [] (PureQ h fun w => w = .int (Int32.ofNat cs.length)) := by
  obtain ⟨hw, hEL, hSA, ⟨zc, SC, hz⟩, ⟨fm, SF, hfm⟩⟩ := id G
  refine Ctr.enter (own := "java/lang/String") (nm := "length") rfl rfl hEL (plainFor_of_name pn_0) #[.val (.ref a)] (fun m => by first | rfl | (simp [entryFrame, mkF, argsToLocals, Value.category, maxLocals]; done)) ?_
  intro p e s m below meth c T X
  refine g_aloadN X d16_0 rfl rfl 1 rfl ?_
  refine g_getF X (Or.inl (hw _ (List.mem_of_getElem? (i := 28) rfl))) (host := "") Via.refl V d16_1 4 rfl ?_
  intro T1 X2
  refine g_arrlen X2 A d16_4 5 rfl ?_
  refine g_aloadN X2 d16_5 rfl rfl 6 rfl ?_
  refine g_callVp X2 (hw _ (List.mem_of_getElem? (i := 103) rfl)) (hw _ (List.mem_of_getElem? (i := 104) rfl)) (hw _ (List.mem_of_getElem? (i := 106) rfl)) (hw _ (List.mem_of_getElem? (i := 105) rfl)) (hw _ (List.mem_of_getElem? (i := 3) rfl)) (hw _ (List.mem_of_getElem? (i := 107) rfl)) (nfSel (hw _ (List.mem_of_getElem? (i := 106) rfl))) (by decide) E (c_cod l Z a0 G a h C) (by simp) (argsL := []) (rest := [.int (Int32.ofNat cs.length)]) pd_5 rfl rfl rfl rfl 1 (Nat.le_of_eq rfl) (by decide) (by decide) (ck := 0) rfl (cs := 0) rfl (by decide) (by decide) d16_6 9 rfl ?_
  intro w5 T3 X4 hq6
  subst hq6
  refine g_ishr X4 d16_9 (Int32.ofNat cs.length) (shr0 _) 10 rfl ?_
  exact g_retI X4 rfl d16_10 (by decide) (by decide) ⟨rfl, _, rfl, rfl⟩
theorem d38_0 : decode jdk_43_method_13_code 0 = .ok (.aload_n 0, 1) := by decide +kernel
theorem d38_1 : decode jdk_43_method_13_code 1 = .ok (.arraylength, 1) := by decide +kernel
theorem d38_2 : decode jdk_43_method_13_code 2 = .ok (.aload_n 1, 1) := by decide +kernel
theorem d38_3 : decode jdk_43_method_13_code 3 = .ok (.arraylength, 1) := by decide +kernel
theorem d38_4 : decode jdk_43_method_13_code 4 = .ok (.if_icmp .ne 30, 3) := by decide +kernel
theorem d38_7 : decode jdk_43_method_13_code 7 = .ok (.iconst 0, 1) := by decide +kernel
theorem d38_8 : decode jdk_43_method_13_code 8 = .ok (.istore_n 2, 1) := by decide +kernel
theorem d38_9 : decode jdk_43_method_13_code 9 = .ok (.iload_n 2, 1) := by decide +kernel
theorem d38_10 : decode jdk_43_method_13_code 10 = .ok (.aload_n 0, 1) := by decide +kernel
theorem d38_11 : decode jdk_43_method_13_code 11 = .ok (.arraylength, 1) := by decide +kernel
theorem d38_12 : decode jdk_43_method_13_code 12 = .ok (.if_icmp .ge 20, 3) := by decide +kernel
theorem d38_15 : decode jdk_43_method_13_code 15 = .ok (.aload_n 0, 1) := by decide +kernel
theorem d38_16 : decode jdk_43_method_13_code 16 = .ok (.iload_n 2, 1) := by decide +kernel
theorem d38_17 : decode jdk_43_method_13_code 17 = .ok (.baload, 1) := by decide +kernel
theorem d38_18 : decode jdk_43_method_13_code 18 = .ok (.aload_n 1, 1) := by decide +kernel
theorem d38_19 : decode jdk_43_method_13_code 19 = .ok (.iload_n 2, 1) := by decide +kernel
theorem d38_20 : decode jdk_43_method_13_code 20 = .ok (.baload, 1) := by decide +kernel
theorem d38_21 : decode jdk_43_method_13_code 21 = .ok (.if_icmp .eq 5, 3) := by decide +kernel
theorem d38_24 : decode jdk_43_method_13_code 24 = .ok (.iconst 0, 1) := by decide +kernel
theorem d38_25 : decode jdk_43_method_13_code 25 = .ok (.ireturn, 1) := by decide +kernel
theorem d38_26 : decode jdk_43_method_13_code 26 = .ok (.iinc 2 1, 3) := by decide +kernel
theorem d38_29 : decode jdk_43_method_13_code 29 = .ok (.goto (-20), 3) := by decide +kernel
theorem d38_32 : decode jdk_43_method_13_code 32 = .ok (.iconst 1, 1) := by decide +kernel
theorem d38_33 : decode jdk_43_method_13_code 33 = .ok (.ireturn, 1) := by decide +kernel
theorem d38_34 : decode jdk_43_method_13_code 34 = .ok (.iconst 0, 1) := by decide +kernel
theorem d38_35 : decode jdk_43_method_13_code 35 = .ok (.ireturn, 1) := by decide +kernel
theorem pn_1 : plainName "java/lang/StringLatin1" = true := by first | (simp [plainName, overriddenIn]; done) | decide +kernel
set_option maxRecDepth 65536 in
set_option maxHeartbeats 40000000 in
theorem c_leq (l : Launch) (Z : State) (a0 : Array Value) (G : Gl Z a0) (t u : Addr) (kb kb' : ClassId) (cs ds : List Int32) (h : Heap) (A : Arv Z h t kb .byte (Int32.ofNat cs.length) (bys cs) (.int (0 : Int32))) (B : Arv Z h u kb' .byte (Int32.ofNat ds.length) (bys ds) (.int (0 : Int32))) (hcs : ∀ c ∈ cs, ¬ c < 0 ∧ ¬ (255 : Int32) < c) (hds : ∀ c ∈ ds, ¬ c < 0 ∧ ¬ (255 : Int32) < c) (hlen : cs.length ≤ 4000) (hlen' : ds.length ≤ 4000) :
    Ctr l Z EL nw (⟨"java/lang/StringLatin1", "equals", "([B[B)Z"⟩ : MethodName) jdk_43_method_13_code 3 (Option.some Jvm.ClassFile.FieldType.boolean) ({ frames := 0, cells := 0, slots := 0, locals := 0 } : Room) #[.ref t, .ref u] h [] (PureQ h fun w => w = .int (if cs = ds then 1 else 0)) := by
  obtain ⟨hw, hEL, hSA, ⟨zc, SC, hz⟩, ⟨fm, SF, hfm⟩⟩ := id G
  refine Ctr.enter (own := "java/lang/StringLatin1") (nm := "equals") rfl rfl hEL (plainFor_of_name pn_1) #[.val (.ref t), .val (.ref u), .unset] (fun m => by first | rfl | (simp [entryFrame, mkF, argsToLocals, Value.category, maxLocals]; done)) ?_
  intro p e s m below meth c T X
  refine g_aloadN X d38_0 rfl rfl 1 rfl ?_
  refine g_arrlen X A d38_1 2 rfl ?_
  refine g_aloadN X d38_2 rfl rfl 3 rfl ?_
  refine g_arrlen X B d38_3 4 rfl ?_
  by_cases hl : cs.length = ds.length
  · refine g_icmpNo X d38_4 (XT.ii_ne_f (by rw [hl])) 7 rfl ?_
    refine g_iconst X (0 : Int32) d38_7 (by decide) 8 rfl ?_
    refine g_istoreN X d38_8 (Ls' := #[.val (.ref t), .val (.ref u), .val (.int (0 : Int32))]) rfl 9 rfl ?_
    have loop : ∀ (k i : Nat) (T : State), St p l e ({ frames := 0, cells := 0, slots := 0, locals := 0 } : Room) s m #[.ref t, .ref u] below meth c "java/lang/StringLatin1" jdk_43_method_13_code 3 ((Option.some Jvm.ClassFile.FieldType.boolean)) "equals" Z EL nw [] [] T h 0 0 → i + k = cs.length → cs.take i = ds.take i → OwnKit.Goes p e below s Z EL nw (PureQ h fun w => w = .int (if cs = ds then 1 else 0)) (({ frames := 0, cells := 0, slots := 0, locals := 0 } : Room)).cells (({ frames := 0, cells := 0, slots := 0, locals := 0 } : Room)).slots (T.setTop (mkF m 9 #[.val (.ref t), .val (.ref u), .val (.int (Int32.ofNat i))] [])) := by
      intro k
      induction k with
      | zero =>
        intro i T' X' hk ht
        have e1 : cs.take cs.length = ds.take cs.length := by rw [← hk]; exact ht
        refine g_iloadN X' d38_9 rfl 10 rfl ?_
        refine g_aloadN X' d38_10 rfl rfl 11 rfl ?_
        refine g_arrlen X' A d38_11 12 rfl ?_
        refine g_icmpYes X' d38_12 (XT.ii_ge_t (of_le (by omega) (by omega))) 32 (by decide) (by decide) ?_
        refine g_iconst X' (1 : Int32) d38_32 (by decide) 33 rfl ?_
        exact g_retN X' (t := .boolean) rfl (by simp) d38_33 _ rfl (by decide) (by decide) ⟨rfl, _, rfl, (by rw [if_pos (take_eq hl e1)]; rfl)⟩
      | succ k ih =>
        intro i T' X' hk ht
        have hi : i < cs.length := by omega
        refine g_iloadN X' d38_9 rfl 10 rfl ?_
        refine g_aloadN X' d38_10 rfl rfl 11 rfl ?_
        refine g_arrlen X' A d38_11 12 rfl ?_
        refine g_icmpNo X' d38_12 (XT.ii_ge_f (of_lt hi hlen)) 15 rfl ?_
        refine g_aloadN X' d38_15 rfl rfl 16 rfl ?_
        refine g_iloadN X' d38_16 rfl 17 rfl ?_
        refine g_baload X' A (of_nn (by omega)) (of_lt (by omega) (by omega)) _ (bys_at cs i (by omega)) d38_17 18 rfl ?_
        refine g_aloadN X' d38_18 rfl rfl 19 rfl ?_
        refine g_iloadN X' d38_19 rfl 20 rfl ?_
        refine g_baload X' B (of_nn (by omega)) (of_lt (by omega) (by omega)) _ (bys_at ds i (by omega)) d38_20 21 rfl ?_
        by_cases hb21 : (lo (cs.getD i 0)) = (lo (ds.getD i 0))
        · refine g_icmpYes X' d38_21 (XT.ii_eq_t hb21) 26 (by decide) (by decide) ?_
          have heq : cs.getD i 0 = ds.getD i 0 := lo_inj (hcs _ (mem_at hi)) (hds _ (mem_at (by omega))) hb21
          refine g_iinc X' d38_26 rfl (Int32.ofNat (i + 1)) (of_succ i) (Ls' := #[.val (.ref t), .val (.ref u), .val (.int (Int32.ofNat (i + 1)))]) rfl 29 rfl ?_
          refine g_goto X' d38_29 9 (by decide) (by decide) ?_
          exact ih (i + 1) T' X' (by omega) (take_more (by omega) (by omega) ht heq)
        · refine g_icmpNo X' d38_21 (XT.ii_eq_f hb21) 24 rfl ?_
          refine g_iconst X' (0 : Int32) d38_24 (by decide) 25 rfl ?_
          exact g_retN X' (t := .boolean) rfl (by simp) d38_25 _ rfl (by decide) (by decide) ⟨rfl, _, rfl, (by rw [if_neg (fun q => hb21 (by rw [q]))]; rfl)⟩
    exact loop cs.length 0 T X (by omega) rfl
  · have hl0 := hl
    refine g_icmpYes X d38_4 (XT.ii_ne_t (fun q => hl (of_eq hlen hlen' q))) 34 (by decide) (by decide) ?_
    refine g_iconst X (0 : Int32) d38_34 (by decide) 35 rfl ?_
    exact g_retN X (t := .boolean) rfl (by simp) d38_35 _ rfl (by decide) (by decide) ⟨rfl, _, rfl, (by rw [if_neg (fun q => hl0 (by rw [q]))]; rfl)⟩
theorem d37_0 : decode jdk_42_method_66_code 0 = .ok (.aload_n 0, 1) := by decide +kernel
theorem d37_1 : decode jdk_42_method_66_code 1 = .ok (.aload_n 1, 1) := by decide +kernel
theorem d37_2 : decode jdk_42_method_66_code 2 = .ok (.if_acmp .ne 5, 3) := by decide +kernel
theorem d37_5 : decode jdk_42_method_66_code 5 = .ok (.iconst 1, 1) := by decide +kernel
theorem d37_6 : decode jdk_42_method_66_code 6 = .ok (.ireturn, 1) := by decide +kernel
theorem d37_7 : decode jdk_42_method_66_code 7 = .ok (.aload_n 1, 1) := by decide +kernel
theorem d37_8 : decode jdk_42_method_66_code 8 = .ok (.instanceof 10, 3) := by decide +kernel
theorem d37_11 : decode jdk_42_method_66_code 11 = .ok (.ifCond .eq 43, 3) := by decide +kernel
theorem d37_14 : decode jdk_42_method_66_code 14 = .ok (.aload_n 1, 1) := by decide +kernel
theorem d37_15 : decode jdk_42_method_66_code 15 = .ok (.checkcast 10, 3) := by decide +kernel
theorem d37_18 : decode jdk_42_method_66_code 18 = .ok (.astore_n 2, 1) := by decide +kernel
theorem d37_19 : decode jdk_42_method_66_code 19 = .ok (.getstatic 38, 3) := by decide +kernel
theorem d37_22 : decode jdk_42_method_66_code 22 = .ok (.ifCond .eq 14, 3) := by decide +kernel
theorem d37_25 : decode jdk_42_method_66_code 25 = .ok (.aload_n 0, 1) := by decide +kernel
theorem d37_26 : decode jdk_42_method_66_code 26 = .ok (.getfield 15, 3) := by decide +kernel
theorem d37_29 : decode jdk_42_method_66_code 29 = .ok (.aload_n 2, 1) := by decide +kernel
theorem d37_30 : decode jdk_42_method_66_code 30 = .ok (.getfield 15, 3) := by decide +kernel
theorem d37_33 : decode jdk_42_method_66_code 33 = .ok (.if_icmp .ne 21, 3) := by decide +kernel
theorem d37_36 : decode jdk_42_method_66_code 36 = .ok (.aload_n 0, 1) := by decide +kernel
theorem d37_37 : decode jdk_42_method_66_code 37 = .ok (.getfield 9, 3) := by decide +kernel
theorem d37_40 : decode jdk_42_method_66_code 40 = .ok (.aload_n 2, 1) := by decide +kernel
theorem d37_41 : decode jdk_42_method_66_code 41 = .ok (.getfield 9, 3) := by decide +kernel
theorem d37_44 : decode jdk_42_method_66_code 44 = .ok (.invokestatic 541, 3) := by decide +kernel
theorem d37_47 : decode jdk_42_method_66_code 47 = .ok (.ifCond .eq 7, 3) := by decide +kernel
theorem d37_50 : decode jdk_42_method_66_code 50 = .ok (.iconst 1, 1) := by decide +kernel
theorem d37_51 : decode jdk_42_method_66_code 51 = .ok (.goto 4, 3) := by decide +kernel
theorem d37_54 : decode jdk_42_method_66_code 54 = .ok (.iconst 0, 1) := by decide +kernel
theorem d37_55 : decode jdk_42_method_66_code 55 = .ok (.ireturn, 1) := by decide +kernel
set_option maxRecDepth 65536 in
set_option maxHeartbeats 40000000 in
theorem c_seq (l : Launch) (Z : State) (a0 : Array Value) (G : Gl Z a0) (a b t u : Addr) (kb kb' : ClassId) (cs ds : List Int32) (hab : a = b → cs = ds) (h : Heap) (E : Exa Z h a "java/lang/String") (C : Fld Z h a "java/lang/String" "coder" "B" (.int (0 : Int32))) (V : Fld Z h a "java/lang/String" "value" "[B" (.ref t)) (A : Arv Z h t kb .byte (Int32.ofNat cs.length) (bys cs) (.int (0 : Int32))) (hcs : ∀ c ∈ cs, ¬ c < 0 ∧ ¬ (255 : Int32) < c) (hlen : cs.length ≤ 4000) (E' : Exa Z h b "java/lang/String") (C' : Fld Z h b "java/lang/String" "coder" "B" (.int (0 : Int32))) (V' : Fld Z h b "java/lang/String" "value" "[B" (.ref u)) (A' : Arv Z h u kb' .byte (Int32.ofNat ds.length) (bys ds) (.int (0 : Int32))) (hds : ∀ c ∈ ds, ¬ c < 0 ∧ ¬ (255 : Int32) < c) (hlen' : ds.length ≤ 4000) :
    Ctr l Z EL nw (⟨"java/lang/String", "equals", "(Ljava/lang/Object;)Z"⟩ : MethodName) jdk_42_method_66_code 3 (Option.some Jvm.ClassFile.FieldType.boolean) ({ frames := 1, cells := 0, slots := 0, locals := 14 } : Room) #[.ref a, .ref b] h [] (PureQ h fun w => w = .int (if cs = ds then 1 else 0)) := by
  obtain ⟨hw, hEL, hSA, ⟨zc, SC, hz⟩, ⟨fm, SF, hfm⟩⟩ := id G
  refine Ctr.enter (own := "java/lang/String") (nm := "equals") rfl rfl hEL (plainFor_of_name pn_0) #[.val (.ref a), .val (.ref b), .unset] (fun m => by first | rfl | (simp [entryFrame, mkF, argsToLocals, Value.category, maxLocals]; done)) ?_
  intro p e s m below meth c T X
  refine g_aloadN X d37_0 rfl rfl 1 rfl ?_
  refine g_aloadN X d37_1 rfl rfl 2 rfl ?_
  by_cases hb2 : (.ref a : Value) = .ref b
  · refine g_acmpNo X d37_2 rfl rfl (XT.aa_ne_f hb2) 5 rfl ?_
    refine g_iconst X (1 : Int32) d37_5 (by decide) 6 rfl ?_
    exact g_retN X (t := .boolean) rfl (by simp) d37_6 _ rfl (by decide) (by decide) ⟨rfl, _, rfl, (by rw [if_pos (hab (Value.ref.inj hb2))]; rfl)⟩
  · refine g_acmpYes X d37_2 rfl rfl (XT.aa_ne_t hb2) 7 (by decide) (by decide) ?_
    refine g_aloadN X d37_7 rfl rfl 8 rfl ?_
    refine g_instY X (hw _ (List.mem_of_getElem? (i := 205) rfl)) (Ins.self E') d37_8 11 rfl ?_
    intro T1 X2
    refine g_ifNo X2 d37_11 (XT.ii_eq_f (by decide)) 14 rfl ?_
    refine g_aloadN X2 d37_14 rfl rfl 15 rfl ?_
    refine g_cast X2 (hw _ (List.mem_of_getElem? (i := 205) rfl)) (Ins.self E') d37_15 18 rfl ?_
    intro T3 X4
    refine g_astoreN X4 d37_18 rfl (Ls' := #[.val (.ref a), .val (.ref b), .val (.ref b)]) rfl 19 rfl ?_
    refine g_getS X4 (Or.inl (hw _ (List.mem_of_getElem? (i := 14) rfl))) (host := "") Via.refl (SC.ext X4.old) d37_19 22 rfl ?_
    intro T5 X6
    refine g_ifNo X6 d37_22 (XT.ii_eq_f hz) 25 rfl ?_
    refine g_aloadN X6 d37_25 rfl rfl 26 rfl ?_
    refine g_getF X6 (Or.inl (hw _ (List.mem_of_getElem? (i := 26) rfl))) (host := "") Via.refl C d37_26 29 rfl ?_
    intro T7 X8
    refine g_aloadN X8 d37_29 rfl rfl 30 rfl ?_
    refine g_getF X8 (Or.inl (hw _ (List.mem_of_getElem? (i := 26) rfl))) (host := "") Via.refl C' d37_30 33 rfl ?_
    intro T9 X10
    refine g_icmpNo X10 d37_33 (XT.ii_ne_f (by decide)) 36 rfl ?_
    refine g_aloadN X10 d37_36 rfl rfl 37 rfl ?_
    refine g_getF X10 (Or.inl (hw _ (List.mem_of_getElem? (i := 28) rfl))) (host := "") Via.refl V d37_37 40 rfl ?_
    intro T11 X12
    refine g_aloadN X12 d37_40 rfl rfl 41 rfl ?_
    refine g_getF X12 (Or.inl (hw _ (List.mem_of_getElem? (i := 28) rfl))) (host := "") Via.refl V' d37_41 44 rfl ?_
    intro T13 X14
    refine g_callSp X14 (hw _ (List.mem_of_getElem? (i := 206) rfl)) (hw _ (List.mem_of_getElem? (i := 207) rfl)) (hw _ (List.mem_of_getElem? (i := 208) rfl)) (hw _ (List.mem_of_getElem? (i := 209) rfl)) (by decide) (c_leq l Z a0 G t u kb kb' cs ds h A A' hcs hds hlen hlen') (by simp) (argsL := [.ref t, .ref u]) (rest := []) pd_11 rfl rfl rfl rfl 0 (Nat.le_of_eq rfl) (by decide) (by decide) (ck := 0) rfl (cs := 0) rfl (by decide) (by decide) d37_44 47 rfl ?_
    intro w17 T15 X16 hq18
    subst hq18
    by_cases hb47 : (if cs = ds then (1 : Int32) else 0) = (0 : Int32)
    · refine g_ifYes X16 d37_47 (XT.ii_eq_t hb47) 54 (by decide) (by decide) ?_
      refine g_iconst X16 (0 : Int32) d37_54 (by decide) 55 rfl ?_
      exact g_retN X16 (t := .boolean) rfl (by simp) d37_55 _ rfl (by decide) (by decide) ⟨rfl, _, rfl, (by by_cases q : cs = ds <;> simp [q] at hb47 ⊢ <;> rfl)⟩
    · refine g_ifNo X16 d37_47 (XT.ii_eq_f hb47) 50 rfl ?_
      refine g_iconst X16 (1 : Int32) d37_50 (by decide) 51 rfl ?_
      refine g_goto X16 d37_51 55 (by decide) (by decide) ?_
      exact g_retN X16 (t := .boolean) rfl (by simp) d37_55 _ rfl (by decide) (by decide) ⟨rfl, _, rfl, (by by_cases q : cs = ds <;> simp [q] at hb47 ⊢ <;> rfl)⟩
theorem pd_12 : parseMethodDescriptor "()V" = some ⟨[], none⟩ := by decide +kernel
theorem pd_13 : parseMethodDescriptor "(I)V" = some ⟨[.int], none⟩ := by decide +kernel
theorem pd_14 : parseMethodDescriptor "(Ljava/lang/String;)Ljava/lang/StringBuilder;" = some ⟨[(.object "java/lang/String")], (some (.object "java/lang/StringBuilder"))⟩ := by decide +kernel
theorem pd_15 : parseMethodDescriptor "(Ljava/lang/String;)Ljava/lang/AbstractStringBuilder;" = some ⟨[(.object "java/lang/String")], (some (.object "java/lang/AbstractStringBuilder"))⟩ := by decide +kernel
theorem pd_16 : parseMethodDescriptor "(ILjava/lang/String;)V" = some ⟨[.int, (.object "java/lang/String")], none⟩ := by decide +kernel
theorem pd_17 : parseMethodDescriptor "(Ljava/lang/String;)V" = some ⟨[(.object "java/lang/String")], none⟩ := by decide +kernel
theorem pd_18 : parseMethodDescriptor "([BIB)V" = some ⟨[(.array .byte), .int, .byte], none⟩ := by decide +kernel
theorem pd_19 : parseMethodDescriptor "()Ljava/lang/String;" = some ⟨[], (some (.object "java/lang/String"))⟩ := by decide +kernel
theorem pd_20 : parseMethodDescriptor "(Ljava/lang/StringBuilder;)V" = some ⟨[(.object "java/lang/StringBuilder")], none⟩ := by decide +kernel
theorem pd_21 : parseMethodDescriptor "(Ljava/lang/AbstractStringBuilder;Ljava/lang/Void;)V" = some ⟨[(.object "java/lang/AbstractStringBuilder"), (.object "java/lang/Void")], none⟩ := by decide +kernel
theorem pd_22 : parseMethodDescriptor "()[B" = some ⟨[], (some (.array .byte))⟩ := by decide +kernel
theorem pd_23 : parseMethodDescriptor "([BII)[B" = some ⟨[(.array .byte), .int, .int], (some (.array .byte))⟩ := by decide +kernel
theorem pd_24 : parseMethodDescriptor "(II)I" = some ⟨[.int, .int], (some .int)⟩ := by decide +kernel
theorem d13_0 : decode jdk_68_method_2_code 0 = .ok (.aload_n 0, 1) := by decide +kernel
theorem d13_1 : decode jdk_68_method_2_code 1 = .ok (.invokespecial 3, 3) := by decide +kernel
theorem d13_4 : decode jdk_68_method_2_code 4 = .ok (.getstatic 18, 3) := by decide +kernel
theorem d13_7 : decode jdk_68_method_2_code 7 = .ok (.ifCond .eq 18, 3) := by decide +kernel
theorem d13_10 : decode jdk_68_method_2_code 10 = .ok (.aload_n 0, 1) := by decide +kernel
theorem d13_11 : decode jdk_68_method_2_code 11 = .ok (.iload_n 1, 1) := by decide +kernel
theorem d13_12 : decode jdk_68_method_2_code 12 = .ok (.newarray .byte, 2) := by decide +kernel
theorem d13_14 : decode jdk_68_method_2_code 14 = .ok (.putfield 15, 3) := by decide +kernel
theorem d13_17 : decode jdk_68_method_2_code 17 = .ok (.aload_n 0, 1) := by decide +kernel
theorem d13_18 : decode jdk_68_method_2_code 18 = .ok (.iconst 0, 1) := by decide +kernel
theorem d13_19 : decode jdk_68_method_2_code 19 = .ok (.putfield 22, 3) := by decide +kernel
theorem d13_22 : decode jdk_68_method_2_code 22 = .ok (.goto 16, 3) := by decide +kernel
theorem d13_25 : decode jdk_68_method_2_code 25 = .ok (.aload_n 0, 1) := by decide +kernel
theorem d13_26 : decode jdk_68_method_2_code 26 = .ok (.iload_n 1, 1) := by decide +kernel
theorem d13_27 : decode jdk_68_method_2_code 27 = .ok (.invokestatic 26, 3) := by decide +kernel
theorem d13_30 : decode jdk_68_method_2_code 30 = .ok (.putfield 15, 3) := by decide +kernel
theorem d13_33 : decode jdk_68_method_2_code 33 = .ok (.aload_n 0, 1) := by decide +kernel
theorem d13_34 : decode jdk_68_method_2_code 34 = .ok (.iconst 1, 1) := by decide +kernel
theorem d13_35 : decode jdk_68_method_2_code 35 = .ok (.putfield 22, 3) := by decide +kernel
theorem d13_38 : decode jdk_68_method_2_code 38 = .ok (.return_, 1) := by decide +kernel
theorem pn_2 : plainName "java/lang/AbstractStringBuilder" = true := by first | (simp [plainName, overriddenIn]; done) | decide +kernel
set_option maxRecDepth 65536 in
set_option maxHeartbeats 40000000 in
theorem c_asi (l : Launch) (Z : State) (a0 : Array Value) (G : Gl Z a0) (a : Addr) (h : Heap) (E : Exa Z h a "java/lang/StringBuilder") (V : Fld Z h a "java/lang/AbstractStringBuilder" "value" "[B" .null) (C : Fld Z h a "java/lang/AbstractStringBuilder" "coder" "B" (.int (0 : Int32))) (N : Fld Z h a "java/lang/AbstractStringBuilder" "count" "I" (.int (0 : Int32))) :
    Ctr l Z EL nw (⟨"java/lang/AbstractStringBuilder", "<init>", "(I)V"⟩ : MethodName) jdk_68_method_2_code 2 (Option.none : Option Jvm.ClassFile.FieldType) ({ frames := 1, cells := 1, slots := 16, locals := 12 } : Room) #[.ref a, .int (16 : Int32)] h [a] (VoidQ fun h' => ∃ (b : Addr) (kb : ClassId), Keep h h' [a] ∧ h.size ≤ b ∧ Sb Z h' a b kb 16 []) := by
  obtain ⟨hw, hEL, hSA, ⟨zc, SC, hz⟩, ⟨fm, SF, hfm⟩⟩ := id G
  refine Ctr.enter (own := "java/lang/AbstractStringBuilder") (nm := "<init>") rfl rfl hEL (plainFor_of_name pn_2) #[.val (.ref a), .val (.int (16 : Int32))] (fun m => by first | rfl | (simp [entryFrame, mkF, argsToLocals, Value.category, maxLocals]; done)) ?_
  intro p e s m below meth c T X
  refine g_aloadN X d13_0 rfl rfl 1 rfl ?_
  refine g_initO X (hw _ (List.mem_of_getElem? (i := 81) rfl)) (hw _ (List.mem_of_getElem? (i := 12) rfl)) (hw _ (List.mem_of_getElem? (i := 13) rfl)) rfl d13_1 (by decide) 0 (Nat.le_of_eq rfl) (by decide) 4 rfl ?_
  intro T1 X2
  refine g_getS X2 (Or.inl (hw _ (List.mem_of_getElem? (i := 82) rfl))) (host := "") Via.refl (SC.ext X2.old) d13_4 7 rfl ?_
  intro T3 X4
  refine g_ifNo X4 d13_7 (XT.ii_eq_f hz) 10 rfl ?_
  refine g_aloadN X4 d13_10 rfl rfl 11 rfl ?_
  refine g_iloadN X4 d13_11 rfl 12 rfl ?_
  refine g_newP X4 (hw _ (List.mem_of_getElem? (i := 19) rfl)) d13_12 (by decide) 16 (by decide) (by decide) (ck := 1) rfl (cs := 16) rfl (by decide) (by decide) 14 rfl ?_
  intro a5 T6 h7 k8 ea9 X10 E11 A12
  have A13 : Arv Z h7 a5 k8 .byte (16 : Int32) [.int (0 : Int32), .int (0 : Int32), .int (0 : Int32), .int (0 : Int32), .int (0 : Int32), .int (0 : Int32), .int (0 : Int32), .int (0 : Int32), .int (0 : Int32), .int (0 : Int32), .int (0 : Int32), .int (0 : Int32), .int (0 : Int32), .int (0 : Int32), .int (0 : Int32), .int (0 : Int32)] (.int (0 : Int32)) := A12.pad (pad_rep [] _ 16)
  have ne_a_a5 : a ≠ a5 := by rw [ea9]; exact Nat.ne_of_lt E.lt
  have le_a5 : h.size ≤ a5 := by rw [ea9]; exact Nat.le_refl _
  refine g_putF X10 (Or.inl (hw _ (List.mem_of_getElem? (i := 83) rfl))) (host := "") Via.refl (V.ext E11) (E.ext E11) (Or.inl (hw _ (List.mem_of_getElem? (i := 84) rfl))) (hw _ (List.mem_of_getElem? (i := 70) rfl)) (ty := (.array .byte)) (by rfl) rfl rfl (by simp) d13_14 17 rfl ?_
  intro T14 h15 X16 W17 F18 E19
  refine g_aloadN X16 d13_17 rfl rfl 18 rfl ?_
  refine g_iconst X16 (0 : Int32) d13_18 (by decide) 19 rfl ?_
  refine g_putF X16 (Or.inl (hw _ (List.mem_of_getElem? (i := 85) rfl))) (host := "") Via.refl ((C.ext E11).other W17 (Or.inr (slot_ne (Or.inl (hw _ (List.mem_of_getElem? (i := 86) rfl))) (Or.inl (hw _ (List.mem_of_getElem? (i := 84) rfl))) (by decide) (by rfl) (by rfl)))) E19 (Or.inl (hw _ (List.mem_of_getElem? (i := 86) rfl))) (hw _ (List.mem_of_getElem? (i := 70) rfl)) (ty := .byte) (by rfl) rfl rfl (by simp) d13_19 22 rfl ?_
  intro T20 h21 X22 W23 F24 E25
  refine g_goto X22 d13_22 38 (by decide) (by decide) ?_
  exact g_ret X22 rfl d13_38 (by decide) (by decide) ⟨rfl, ⟨a5, _, ((((Keep.refl h [a]).ext E11).wr W17 (Or.inl (by simp))).wr W23 (Or.inl (by simp))), le_a5, E25, F24, (((N.ext E11).other W17 (Or.inr (slot_ne (Or.inl (hw _ (List.mem_of_getElem? (i := 109) rfl))) (Or.inl (hw _ (List.mem_of_getElem? (i := 84) rfl))) (by decide) (by rfl) (by rfl)))).other W23 (Or.inr (slot_ne (Or.inl (hw _ (List.mem_of_getElem? (i := 109) rfl))) (Or.inl (hw _ (List.mem_of_getElem? (i := 86) rfl))) (by decide) (by rfl) (by rfl)))), (F18.other W23 (Or.inr (slot_ne (Or.inl (hw _ (List.mem_of_getElem? (i := 84) rfl))) (Or.inl (hw _ (List.mem_of_getElem? (i := 86) rfl))) (by decide) (by rfl) (by rfl)))), ((A13.other W17 (Ne.symm ne_a_a5)).other W23 (Ne.symm ne_a_a5)), (by simp), (by decide), (by decide), ne_a_a5⟩⟩
theorem d12_0 : decode jdk_67_method_1_code 0 = .ok (.aload_n 0, 1) := by decide +kernel
theorem d12_1 : decode jdk_67_method_1_code 1 = .ok (.bipush 16, 2) := by decide +kernel
theorem d12_3 : decode jdk_67_method_1_code 3 = .ok (.invokespecial 1, 3) := by decide +kernel
theorem d12_6 : decode jdk_67_method_1_code 6 = .ok (.return_, 1) := by decide +kernel
theorem pn_3 : plainName "java/lang/StringBuilder" = true := by first | (simp [plainName, overriddenIn]; done) | decide +kernel
set_option maxRecDepth 65536 in
set_option maxHeartbeats 40000000 in
theorem c_sbi (l : Launch) (Z : State) (a0 : Array Value) (G : Gl Z a0) (a : Addr) (h : Heap) (E : Exa Z h a "java/lang/StringBuilder") (V : Fld Z h a "java/lang/AbstractStringBuilder" "value" "[B" .null) (C : Fld Z h a "java/lang/AbstractStringBuilder" "coder" "B" (.int (0 : Int32))) (N : Fld Z h a "java/lang/AbstractStringBuilder" "count" "I" (.int (0 : Int32))) :
    Ctr l Z EL nw (⟨"java/lang/StringBuilder", "<init>", "()V"⟩ : MethodName) jdk_67_method_1_code 1 (Option.none : Option Jvm.ClassFile.FieldType) ({ frames := 2, cells := 1, slots := 16, locals := 25 } : Room) #[.ref a] h [a] (VoidQ fun h' => ∃ (b : Addr) (kb : ClassId), Keep h h' [a] ∧ h.size ≤ b ∧ Sb Z h' a b kb 16 []) := by
  obtain ⟨hw, hEL, hSA, ⟨zc, SC, hz⟩, ⟨fm, SF, hfm⟩⟩ := id G
  refine Ctr.enter (own := "java/lang/StringBuilder") (nm := "<init>") rfl rfl hEL (plainFor_of_name pn_3) #[.val (.ref a)] (fun m => by first | rfl | (simp [entryFrame, mkF, argsToLocals, Value.category, maxLocals]; done)) ?_
  intro p e s m below meth c T X
  refine g_aloadN X d12_0 rfl rfl 1 rfl ?_
  refine g_bipush X (16 : Int32) d12_1 (by decide) 3 rfl ?_
  refine g_callIn X rfl (hw _ (List.mem_of_getElem? (i := 75) rfl)) (hw _ (List.mem_of_getElem? (i := 76) rfl)) (hw _ (List.mem_of_getElem? (i := 79) rfl)) (hw _ (List.mem_of_getElem? (i := 80) rfl)) (by decide) (c_asi l Z a0 G a h E V C N) (by simp) (argsL := [.int (16 : Int32)]) (rest := []) pd_13 rfl rfl rfl rfl 0 (Nat.le_of_eq rfl) (by decide) (by decide) (ck := 1) rfl (cs := 16) rfl (by decide) (by decide) d12_3 6 rfl ?_
  intro T1 h4 X2 hq3
  exact g_ret X2 rfl d12_6 (by decide) (by decide) ⟨rfl, hq3⟩
theorem d18_0 : decode jdk_68_method_9_code 0 = .ok (.aload_n 0, 1) := by decide +kernel
theorem d18_1 : decode jdk_68_method_9_code 1 = .ok (.getfield 15, 3) := by decide +kernel
theorem d18_4 : decode jdk_68_method_9_code 4 = .ok (.arraylength, 1) := by decide +kernel
theorem d18_5 : decode jdk_68_method_9_code 5 = .ok (.aload_n 0, 1) := by decide +kernel
theorem d18_6 : decode jdk_68_method_9_code 6 = .ok (.getfield 22, 3) := by decide +kernel
theorem d18_9 : decode jdk_68_method_9_code 9 = .ok (.ishr, 1) := by decide +kernel
theorem d18_10 : decode jdk_68_method_9_code 10 = .ok (.istore_n 2, 1) := by decide +kernel
theorem d18_11 : decode jdk_68_method_9_code 11 = .ok (.iload_n 1, 1) := by decide +kernel
theorem d18_12 : decode jdk_68_method_9_code 12 = .ok (.iload_n 2, 1) := by decide +kernel
theorem d18_13 : decode jdk_68_method_9_code 13 = .ok (.isub, 1) := by decide +kernel
theorem d18_14 : decode jdk_68_method_9_code 14 = .ok (.ifCond .le 24, 3) := by decide +kernel
theorem d18_17 : decode jdk_68_method_9_code 17 = .ok (.aload_n 0, 1) := by decide +kernel
theorem d18_18 : decode jdk_68_method_9_code 18 = .ok (.aload_n 0, 1) := by decide +kernel
theorem d18_19 : decode jdk_68_method_9_code 19 = .ok (.getfield 15, 3) := by decide +kernel
theorem d18_22 : decode jdk_68_method_9_code 22 = .ok (.aload_n 0, 1) := by decide +kernel
theorem d18_23 : decode jdk_68_method_9_code 23 = .ok (.iload_n 1, 1) := by decide +kernel
theorem d18_24 : decode jdk_68_method_9_code 24 = .ok (.invokevirtual 104, 3) := by decide +kernel
theorem d18_27 : decode jdk_68_method_9_code 27 = .ok (.aload_n 0, 1) := by decide +kernel
theorem d18_28 : decode jdk_68_method_9_code 28 = .ok (.getfield 22, 3) := by decide +kernel
theorem d18_31 : decode jdk_68_method_9_code 31 = .ok (.ishl, 1) := by decide +kernel
theorem d18_32 : decode jdk_68_method_9_code 32 = .ok (.invokestatic 108, 3) := by decide +kernel
theorem d18_35 : decode jdk_68_method_9_code 35 = .ok (.putfield 15, 3) := by decide +kernel
theorem d18_38 : decode jdk_68_method_9_code 38 = .ok (.return_, 1) := by decide +kernel
set_option maxRecDepth 65536 in
set_option maxHeartbeats 40000000 in
theorem c_eci (l : Launch) (Z : State) (a0 : Array Value) (G : Gl Z a0) (a b : Addr) (kb : ClassId) (cap k : Nat) (vs : List Value) (h : Heap) (C : Fld Z h a "java/lang/AbstractStringBuilder" "coder" "B" (.int (0 : Int32))) (V : Fld Z h a "java/lang/AbstractStringBuilder" "value" "[B" (.ref b)) (A : Arv Z h b kb .byte (Int32.ofNat cap) vs (.int (0 : Int32))) (hk : k ≤ cap) (hcap : cap ≤ 4000) :
    Ctr l Z EL nw (⟨"java/lang/AbstractStringBuilder", "ensureCapacityInternal", "(I)V"⟩ : MethodName) jdk_68_method_9_code 3 (Option.none : Option Jvm.ClassFile.FieldType) ({ frames := 0, cells := 0, slots := 0, locals := 0 } : Room) #[.ref a, .int (Int32.ofNat k)] h [] (VoidQ fun h' => h = h') := by
  obtain ⟨hw, hEL, hSA, ⟨zc, SC, hz⟩, ⟨fm, SF, hfm⟩⟩ := id G
  refine Ctr.enter (own := "java/lang/AbstractStringBuilder") (nm := "ensureCapacityInternal") rfl rfl hEL (plainFor_of_name pn_2) #[.val (.ref a), .val (.int (Int32.ofNat k)), .unset] (fun m => by first | rfl | (simp [entryFrame, mkF, argsToLocals, Value.category, maxLocals]; done)) ?_
  intro p e s m below meth c T X
  refine g_aloadN X d18_0 rfl rfl 1 rfl ?_
  refine g_getF X (Or.inl (hw _ (List.mem_of_getElem? (i := 83) rfl))) (host := "") Via.refl V d18_1 4 rfl ?_
  intro T1 X2
  refine g_arrlen X2 A d18_4 5 rfl ?_
  refine g_aloadN X2 d18_5 rfl rfl 6 rfl ?_
  refine g_getF X2 (Or.inl (hw _ (List.mem_of_getElem? (i := 85) rfl))) (host := "") Via.refl C d18_6 9 rfl ?_
  intro T3 X4
  refine g_ishr X4 d18_9 (Int32.ofNat cap) (shr0 _) 10 rfl ?_
  refine g_istoreN X4 d18_10 (Ls' := #[.val (.ref a), .val (.int (Int32.ofNat k)), .val (.int (Int32.ofNat cap))]) rfl 11 rfl ?_
  refine g_iloadN X4 d18_11 rfl 12 rfl ?_
  refine g_iloadN X4 d18_12 rfl 13 rfl ?_
  refine g_isub X4 d18_13 _ rfl 14 rfl ?_
  refine g_ifYes X4 d18_14 (XT.ii_le_t (sub_le hk hcap)) 38 (by decide) (by decide) ?_
  exact g_ret X4 rfl d18_38 (by decide) (by decide) ⟨rfl, rfl⟩
theorem d20_0 : decode jdk_68_method_71_code 0 = .ok (.getstatic 18, 3) := by decide +kernel
theorem d20_3 : decode jdk_68_method_71_code 3 = .ok (.ifCond .eq 18, 3) := by decide +kernel
theorem d20_6 : decode jdk_68_method_71_code 6 = .ok (.aload_n 0, 1) := by decide +kernel
theorem d20_7 : decode jdk_68_method_71_code 7 = .ok (.getfield 22, 3) := by decide +kernel
theorem d20_10 : decode jdk_68_method_71_code 10 = .ok (.aload_n 1, 1) := by decide +kernel
theorem d20_11 : decode jdk_68_method_71_code 11 = .ok (.invokevirtual 40, 3) := by decide +kernel
theorem d20_14 : decode jdk_68_method_71_code 14 = .ok (.if_icmp .eq 7, 3) := by decide +kernel
theorem d20_17 : decode jdk_68_method_71_code 17 = .ok (.aload_n 0, 1) := by decide +kernel
theorem d20_18 : decode jdk_68_method_71_code 18 = .ok (.invokevirtual 195, 3) := by decide +kernel
theorem d20_21 : decode jdk_68_method_71_code 21 = .ok (.return_, 1) := by decide +kernel
set_option maxRecDepth 65536 in
set_option maxHeartbeats 40000000 in
theorem c_inf (l : Launch) (Z : State) (a0 : Array Value) (G : Gl Z a0) (a u : Addr) (h : Heap) (C : Fld Z h a "java/lang/AbstractStringBuilder" "coder" "B" (.int (0 : Int32))) (Eu : Exa Z h u "java/lang/String") (Cu : Fld Z h u "java/lang/String" "coder" "B" (.int (0 : Int32))) :
    Ctr l Z EL nw (⟨"java/lang/AbstractStringBuilder", "inflateIfNeededFor", "(Ljava/lang/String;)V"⟩ : MethodName) jdk_68_method_71_code 2 (Option.none : Option Jvm.ClassFile.FieldType) ({ frames := 1, cells := 0, slots := 0, locals := 13 } : Room) #[.ref a, .ref u] h [] (VoidQ fun h' => h = h') := by
  obtain ⟨hw, hEL, hSA, ⟨zc, SC, hz⟩, ⟨fm, SF, hfm⟩⟩ := id G
  refine Ctr.enter (own := "java/lang/AbstractStringBuilder") (nm := "inflateIfNeededFor") rfl rfl hEL (plainFor_of_name pn_2) #[.val (.ref a), .val (.ref u)] (fun m => by first | rfl | (simp [entryFrame, mkF, argsToLocals, Value.category, maxLocals]; done)) ?_
  intro p e s m below meth c T X
  refine g_getS X (Or.inl (hw _ (List.mem_of_getElem? (i := 82) rfl))) (host := "") Via.refl (SC.ext X.old) d20_0 3 rfl ?_
  intro T1 X2
  refine g_ifNo X2 d20_3 (XT.ii_eq_f hz) 6 rfl ?_
  refine g_aloadN X2 d20_6 rfl rfl 7 rfl ?_
  refine g_getF X2 (Or.inl (hw _ (List.mem_of_getElem? (i := 85) rfl))) (host := "") Via.refl C d20_7 10 rfl ?_
  intro T3 X4
  refine g_aloadN X4 d20_10 rfl rfl 11 rfl ?_
  refine g_callVp X4 (hw _ (List.mem_of_getElem? (i := 125) rfl)) (hw _ (List.mem_of_getElem? (i := 104) rfl)) (hw _ (List.mem_of_getElem? (i := 106) rfl)) (hw _ (List.mem_of_getElem? (i := 105) rfl)) (hw _ (List.mem_of_getElem? (i := 3) rfl)) (hw _ (List.mem_of_getElem? (i := 107) rfl)) (nfSel (hw _ (List.mem_of_getElem? (i := 106) rfl))) (by decide) Eu (c_cod l Z a0 G u h Cu) (by simp) (argsL := []) (rest := [.int (0 : Int32)]) pd_5 rfl rfl rfl rfl 1 (Nat.le_of_eq rfl) (by decide) (by decide) (ck := 0) rfl (cs := 0) rfl (by decide) (by decide) d20_11 14 rfl ?_
  intro w7 T5 X6 hq8
  subst hq8
  refine g_icmpYes X6 d20_14 (XT.ii_eq_t (by decide)) 21 (by decide) (by decide) ?_
  exact g_ret X6 rfl d20_21 (by decide) (by decide) ⟨rfl, rfl⟩
theorem d21_0 : decode jdk_42_method_147_code 0 = .ok (.aload_n 0, 1) := by decide +kernel
theorem d21_1 : decode jdk_42_method_147_code 1 = .ok (.invokevirtual 335, 3) := by decide +kernel
theorem d21_4 : decode jdk_42_method_147_code 4 = .ok (.iload_n 3, 1) := by decide +kernel
theorem d21_5 : decode jdk_42_method_147_code 5 = .ok (.if_icmp .ne 23, 3) := by decide +kernel
theorem d21_8 : decode jdk_42_method_147_code 8 = .ok (.aload_n 0, 1) := by decide +kernel
theorem d21_9 : decode jdk_42_method_147_code 9 = .ok (.getfield 9, 3) := by decide +kernel
theorem d21_12 : decode jdk_42_method_147_code 12 = .ok (.iconst 0, 1) := by decide +kernel
theorem d21_13 : decode jdk_42_method_147_code 13 = .ok (.aload_n 1, 1) := by decide +kernel
theorem d21_14 : decode jdk_42_method_147_code 14 = .ok (.iload_n 2, 1) := by decide +kernel
theorem d21_15 : decode jdk_42_method_147_code 15 = .ok (.iload_n 3, 1) := by decide +kernel
theorem d21_16 : decode jdk_42_method_147_code 16 = .ok (.ishl, 1) := by decide +kernel
theorem d21_17 : decode jdk_42_method_147_code 17 = .ok (.aload_n 0, 1) := by decide +kernel
theorem d21_18 : decode jdk_42_method_147_code 18 = .ok (.getfield 9, 3) := by decide +kernel
theorem d21_21 : decode jdk_42_method_147_code 21 = .ok (.arraylength, 1) := by decide +kernel
theorem d21_22 : decode jdk_42_method_147_code 22 = .ok (.invokestatic 212, 3) := by decide +kernel
theorem d21_25 : decode jdk_42_method_147_code 25 = .ok (.goto 18, 3) := by decide +kernel
theorem d21_28 : decode jdk_42_method_147_code 28 = .ok (.aload_n 0, 1) := by decide +kernel
theorem d21_29 : decode jdk_42_method_147_code 29 = .ok (.getfield 9, 3) := by decide +kernel
theorem d21_32 : decode jdk_42_method_147_code 32 = .ok (.iconst 0, 1) := by decide +kernel
theorem d21_33 : decode jdk_42_method_147_code 33 = .ok (.aload_n 1, 1) := by decide +kernel
theorem d21_34 : decode jdk_42_method_147_code 34 = .ok (.iload_n 2, 1) := by decide +kernel
theorem d21_35 : decode jdk_42_method_147_code 35 = .ok (.aload_n 0, 1) := by decide +kernel
theorem d21_36 : decode jdk_42_method_147_code 36 = .ok (.getfield 9, 3) := by decide +kernel
theorem d21_39 : decode jdk_42_method_147_code 39 = .ok (.arraylength, 1) := by decide +kernel
theorem d21_40 : decode jdk_42_method_147_code 40 = .ok (.invokestatic 106, 3) := by decide +kernel
theorem d21_43 : decode jdk_42_method_147_code 43 = .ok (.return_, 1) := by decide +kernel
set_option maxRecDepth 65536 in
set_option maxHeartbeats 40000000 in
theorem c_gb (l : Launch) (Z : State) (a0 : Array Value) (G : Gl Z a0) (u t b : Addr) (kt kb : ClassId) (cap : Nat) (cs ds : List Int32) (h : Heap) (Eu : Exa Z h u "java/lang/String") (Cu : Fld Z h u "java/lang/String" "coder" "B" (.int (0 : Int32))) (Vu : Fld Z h u "java/lang/String" "value" "[B" (.ref t)) (At : Arv Z h t kt .byte (Int32.ofNat ds.length) (bys ds) (.int (0 : Int32))) (hds : ∀ c ∈ ds, ¬ c < 0 ∧ ¬ (255 : Int32) < c) (hdl : ds.length ≤ 4000) (A : Arv Z h b kb .byte (Int32.ofNat cap) (padB cap cs) (.int (0 : Int32))) (hfit : cs.length + ds.length ≤ cap) (hcap : cap ≤ 4000) :
    Ctr l Z EL nw (⟨"java/lang/String", "getBytes", "([BIB)V"⟩ : MethodName) jdk_42_method_147_code 4 (Option.none : Option Jvm.ClassFile.FieldType) ({ frames := 1, cells := 0, slots := 0, locals := 18 } : Room) #[.ref u, .ref b, .int (Int32.ofNat cs.length), .int (0 : Int32)] h [b] (VoidQ fun h' => Keep h h' [b] ∧ Arv Z h' b kb .byte (Int32.ofNat cap) (padB cap (cs ++ ds)) (.int (0 : Int32))) := by
  obtain ⟨hw, hEL, hSA, ⟨zc, SC, hz⟩, ⟨fm, SF, hfm⟩⟩ := id G
  refine Ctr.enter (own := "java/lang/String") (nm := "getBytes") rfl rfl hEL (plainFor_of_name pn_0) #[.val (.ref u), .val (.ref b), .val (.int (Int32.ofNat cs.length)), .val (.int (0 : Int32))] (fun m => by first | rfl | (simp [entryFrame, mkF, argsToLocals, Value.category, maxLocals]; done)) ?_
  intro p e s m below meth c T X
  refine g_aloadN X d21_0 rfl rfl 1 rfl ?_
  refine g_callVp X (hw _ (List.mem_of_getElem? (i := 103) rfl)) (hw _ (List.mem_of_getElem? (i := 104) rfl)) (hw _ (List.mem_of_getElem? (i := 106) rfl)) (hw _ (List.mem_of_getElem? (i := 105) rfl)) (hw _ (List.mem_of_getElem? (i := 3) rfl)) (hw _ (List.mem_of_getElem? (i := 107) rfl)) (nfSel (hw _ (List.mem_of_getElem? (i := 106) rfl))) (by decide) Eu (c_cod l Z a0 G u h Cu) (by simp) (argsL := []) (rest := []) pd_5 rfl rfl rfl rfl 0 (Nat.le_of_eq rfl) (by decide) (by decide) (ck := 0) rfl (cs := 0) rfl (by decide) (by decide) d21_1 4 rfl ?_
  intro w3 T1 X2 hq4
  subst hq4
  refine g_iloadN X2 d21_4 rfl 5 rfl ?_
  refine g_icmpNo X2 d21_5 (XT.ii_ne_f (by decide)) 8 rfl ?_
  refine g_aloadN X2 d21_8 rfl rfl 9 rfl ?_
  refine g_getF X2 (Or.inl (hw _ (List.mem_of_getElem? (i := 28) rfl))) (host := "") Via.refl Vu d21_9 12 rfl ?_
  intro T5 X6
  refine g_iconst X6 (0 : Int32) d21_12 (by decide) 13 rfl ?_
  refine g_aloadN X6 d21_13 rfl rfl 14 rfl ?_
  refine g_iloadN X6 d21_14 rfl 15 rfl ?_
  refine g_iloadN X6 d21_15 rfl 16 rfl ?_
  refine g_ishl X6 d21_16 (Int32.ofNat cs.length) (shl0 _) 17 rfl ?_
  refine g_aloadN X6 d21_17 rfl rfl 18 rfl ?_
  refine g_getF X6 (Or.inl (hw _ (List.mem_of_getElem? (i := 28) rfl))) (host := "") Via.refl Vu d21_18 21 rfl ?_
  intro T7 X8
  refine g_arrlen X8 At d21_21 22 rfl ?_
  refine g_arrcopy X8 (hw _ (List.mem_of_getElem? (i := 131) rfl)) (hw _ (List.mem_of_getElem? (i := 134) rfl)) (hw _ (List.mem_of_getElem? (i := 132) rfl)) (hw _ (List.mem_of_getElem? (i := 133) rfl)) At A rfl (by decide) (of_nn (by omega)) (of_nn (by omega)) (by rw [clamp0, of_nat (by omega)]; omega) (by rw [of_nat (by omega), of_nat (by omega), of_nat hcap]; omega) (by rw [of_nat (by omega), of_nat (by omega), padB_len (by omega)]; omega) (padB cap (cs ++ ds)) (pad_put hfit hcap) (by simp) rfl d21_22 (by decide) 0 (Nat.le_of_eq rfl) (by decide) 25 rfl ?_
  intro T9 h10 X11 K12 A13
  refine g_goto X11 d21_25 43 (by decide) (by decide) ?_
  exact g_ret X11 rfl d21_43 (by decide) (by decide) ⟨rfl, ⟨K12, A13⟩⟩
theorem d19_0 : decode jdk_68_method_73_code 0 = .ok (.aload_n 0, 1) := by decide +kernel
theorem d19_1 : decode jdk_68_method_73_code 1 = .ok (.aload_n 2, 1) := by decide +kernel
theorem d19_2 : decode jdk_68_method_73_code 2 = .ok (.invokevirtual 397, 3) := by decide +kernel
theorem d19_5 : decode jdk_68_method_73_code 5 = .ok (.aload_n 2, 1) := by decide +kernel
theorem d19_6 : decode jdk_68_method_73_code 6 = .ok (.aload_n 0, 1) := by decide +kernel
theorem d19_7 : decode jdk_68_method_73_code 7 = .ok (.getfield 15, 3) := by decide +kernel
theorem d19_10 : decode jdk_68_method_73_code 10 = .ok (.iload_n 1, 1) := by decide +kernel
theorem d19_11 : decode jdk_68_method_73_code 11 = .ok (.aload_n 0, 1) := by decide +kernel
theorem d19_12 : decode jdk_68_method_73_code 12 = .ok (.getfield 22, 3) := by decide +kernel
theorem d19_15 : decode jdk_68_method_73_code 15 = .ok (.invokevirtual 399, 3) := by decide +kernel
theorem d19_18 : decode jdk_68_method_73_code 18 = .ok (.return_, 1) := by decide +kernel
set_option maxRecDepth 65536 in
set_option maxHeartbeats 40000000 in
theorem c_psa (l : Launch) (Z : State) (a0 : Array Value) (G : Gl Z a0) (a u t b : Addr) (kt kb : ClassId) (cap : Nat) (cs ds : List Int32) (h : Heap) (E : Exa Z h a "java/lang/StringBuilder") (C : Fld Z h a "java/lang/AbstractStringBuilder" "coder" "B" (.int (0 : Int32))) (V : Fld Z h a "java/lang/AbstractStringBuilder" "value" "[B" (.ref b)) (Eu : Exa Z h u "java/lang/String") (Cu : Fld Z h u "java/lang/String" "coder" "B" (.int (0 : Int32))) (Vu : Fld Z h u "java/lang/String" "value" "[B" (.ref t)) (At : Arv Z h t kt .byte (Int32.ofNat ds.length) (bys ds) (.int (0 : Int32))) (hds : ∀ c ∈ ds, ¬ c < 0 ∧ ¬ (255 : Int32) < c) (hdl : ds.length ≤ 4000) (A : Arv Z h b kb .byte (Int32.ofNat cap) (padB cap cs) (.int (0 : Int32))) (hfit : cs.length + ds.length ≤ cap) (hcap : cap ≤ 4000) :
    Ctr l Z EL nw (⟨"java/lang/AbstractStringBuilder", "putStringAt", "(ILjava/lang/String;)V"⟩ : MethodName) jdk_68_method_73_code 3 (Option.none : Option Jvm.ClassFile.FieldType) ({ frames := 2, cells := 0, slots := 0, locals := 33 } : Room) #[.ref a, .int (Int32.ofNat cs.length), .ref u] h [b] (VoidQ fun h' => Keep h h' [b] ∧ Arv Z h' b kb .byte (Int32.ofNat cap) (padB cap (cs ++ ds)) (.int (0 : Int32))) := by
  obtain ⟨hw, hEL, hSA, ⟨zc, SC, hz⟩, ⟨fm, SF, hfm⟩⟩ := id G
  refine Ctr.enter (own := "java/lang/AbstractStringBuilder") (nm := "putStringAt") rfl rfl hEL (plainFor_of_name pn_2) #[.val (.ref a), .val (.int (Int32.ofNat cs.length)), .val (.ref u)] (fun m => by first | rfl | (simp [entryFrame, mkF, argsToLocals, Value.category, maxLocals]; done)) ?_
  intro p e s m below meth c T X
  refine g_aloadN X d19_0 rfl rfl 1 rfl ?_
  refine g_aloadN X d19_1 rfl rfl 2 rfl ?_
  refine g_callVn X (hw _ (List.mem_of_getElem? (i := 120) rfl)) (own_declares (hw _ (List.mem_of_getElem? (i := 121) rfl)) (hw _ (List.mem_of_getElem? (i := 124) rfl))) (hw _ (List.mem_of_getElem? (i := 123) rfl)) (hw _ (List.mem_of_getElem? (i := 121) rfl)) (hw _ (List.mem_of_getElem? (i := 79) rfl)) (hw _ (List.mem_of_getElem? (i := 124) rfl)) (nfSel (hw _ (List.mem_of_getElem? (i := 123) rfl))) (by decide) E (c_inf l Z a0 G a u h C Eu Cu) (by simp) (argsL := [.ref u]) (rest := []) pd_17 rfl rfl rfl rfl 0 (Nat.le_of_eq rfl) (by decide) (by decide) (ck := 0) rfl (cs := 0) rfl (by decide) (by decide) d19_2 5 rfl ?_
  intro T1 h4 X2 hq3
  subst hq3
  refine g_aloadN X2 d19_5 rfl rfl 6 rfl ?_
  refine g_aloadN X2 d19_6 rfl rfl 7 rfl ?_
  refine g_getF X2 (Or.inl (hw _ (List.mem_of_getElem? (i := 83) rfl))) (host := "") Via.refl V d19_7 10 rfl ?_
  intro T5 X6
  refine g_iloadN X6 d19_10 rfl 11 rfl ?_
  refine g_aloadN X6 d19_11 rfl rfl 12 rfl ?_
  refine g_getF X6 (Or.inl (hw _ (List.mem_of_getElem? (i := 85) rfl))) (host := "") Via.refl C d19_12 15 rfl ?_
  intro T7 X8
  refine g_callVn X8 (hw _ (List.mem_of_getElem? (i := 126) rfl)) (hw _ (List.mem_of_getElem? (i := 127) rfl)) (hw _ (List.mem_of_getElem? (i := 129) rfl)) (hw _ (List.mem_of_getElem? (i := 128) rfl)) (hw _ (List.mem_of_getElem? (i := 3) rfl)) (hw _ (List.mem_of_getElem? (i := 130) rfl)) (nfSel (hw _ (List.mem_of_getElem? (i := 129) rfl))) (by decide) Eu (c_gb l Z a0 G u t b kt kb cap cs ds h Eu Cu Vu At hds hdl A hfit hcap) (by simp) (argsL := [.ref b, .int (Int32.ofNat cs.length), .int (0 : Int32)]) (rest := []) pd_18 rfl rfl rfl rfl 0 (Nat.le_of_eq rfl) (by decide) (by decide) (ck := 0) rfl (cs := 0) rfl (by decide) (by decide) d19_15 18 rfl ?_
  intro T9 h12 X10 hq11
  exact g_ret X10 rfl d19_18 (by decide) (by decide) ⟨rfl, hq11⟩
theorem d15_0 : decode jdk_68_method_22_code 0 = .ok (.aload_n 1, 1) := by decide +kernel
theorem d15_1 : decode jdk_68_method_22_code 1 = .ok (.ifnonnull 8, 3) := by decide +kernel
theorem d15_4 : decode jdk_68_method_22_code 4 = .ok (.aload_n 0, 1) := by decide +kernel
theorem d15_5 : decode jdk_68_method_22_code 5 = .ok (.invokevirtual 204, 3) := by decide +kernel
theorem d15_8 : decode jdk_68_method_22_code 8 = .ok (.areturn, 1) := by decide +kernel
theorem d15_9 : decode jdk_68_method_22_code 9 = .ok (.aload_n 1, 1) := by decide +kernel
theorem d15_10 : decode jdk_68_method_22_code 10 = .ok (.invokevirtual 32, 3) := by decide +kernel
theorem d15_13 : decode jdk_68_method_22_code 13 = .ok (.istore_n 2, 1) := by decide +kernel
theorem d15_14 : decode jdk_68_method_22_code 14 = .ok (.aload_n 0, 1) := by decide +kernel
theorem d15_15 : decode jdk_68_method_22_code 15 = .ok (.aload_n 0, 1) := by decide +kernel
theorem d15_16 : decode jdk_68_method_22_code 16 = .ok (.getfield 79, 3) := by decide +kernel
theorem d15_19 : decode jdk_68_method_22_code 19 = .ok (.iload_n 2, 1) := by decide +kernel
theorem d15_20 : decode jdk_68_method_22_code 20 = .ok (.iadd, 1) := by decide +kernel
theorem d15_21 : decode jdk_68_method_22_code 21 = .ok (.invokevirtual 100, 3) := by decide +kernel
theorem d15_24 : decode jdk_68_method_22_code 24 = .ok (.aload_n 0, 1) := by decide +kernel
theorem d15_25 : decode jdk_68_method_22_code 25 = .ok (.aload_n 0, 1) := by decide +kernel
theorem d15_26 : decode jdk_68_method_22_code 26 = .ok (.getfield 79, 3) := by decide +kernel
theorem d15_29 : decode jdk_68_method_22_code 29 = .ok (.aload_n 1, 1) := by decide +kernel
theorem d15_30 : decode jdk_68_method_22_code 30 = .ok (.invokevirtual 208, 3) := by decide +kernel
theorem d15_33 : decode jdk_68_method_22_code 33 = .ok (.aload_n 0, 1) := by decide +kernel
theorem d15_34 : decode jdk_68_method_22_code 34 = .ok (.dup, 1) := by decide +kernel
theorem d15_35 : decode jdk_68_method_22_code 35 = .ok (.getfield 79, 3) := by decide +kernel
theorem d15_38 : decode jdk_68_method_22_code 38 = .ok (.iload_n 2, 1) := by decide +kernel
theorem d15_39 : decode jdk_68_method_22_code 39 = .ok (.iadd, 1) := by decide +kernel
theorem d15_40 : decode jdk_68_method_22_code 40 = .ok (.putfield 79, 3) := by decide +kernel
theorem d15_43 : decode jdk_68_method_22_code 43 = .ok (.aload_n 0, 1) := by decide +kernel
theorem d15_44 : decode jdk_68_method_22_code 44 = .ok (.areturn, 1) := by decide +kernel
set_option maxRecDepth 65536 in
set_option maxHeartbeats 40000000 in
theorem c_asa (l : Launch) (Z : State) (a0 : Array Value) (G : Gl Z a0) (a u t b : Addr) (kt kb : ClassId) (cap : Nat) (cs ds : List Int32) (h : Heap) (S : Sb Z h a b kb cap cs) (Eu : Exa Z h u "java/lang/String") (Cu : Fld Z h u "java/lang/String" "coder" "B" (.int (0 : Int32))) (Vu : Fld Z h u "java/lang/String" "value" "[B" (.ref t)) (At : Arv Z h t kt .byte (Int32.ofNat ds.length) (bys ds) (.int (0 : Int32))) (hds : ∀ c ∈ ds, ¬ c < 0 ∧ ¬ (255 : Int32) < c) (hdl : ds.length ≤ 4000) (hfit : cs.length + ds.length ≤ cap) :
    Ctr l Z EL nw (⟨"java/lang/AbstractStringBuilder", "append", "(Ljava/lang/String;)Ljava/lang/AbstractStringBuilder;"⟩ : MethodName) jdk_68_method_22_code 3 (Option.some (Jvm.ClassFile.FieldType.object "java/lang/AbstractStringBuilder")) ({ frames := 3, cells := 0, slots := 0, locals := 47 } : Room) #[.ref a, .ref u] h [a, b] (ValQ fun w h' => w = .ref a ∧ Keep h h' [a, b] ∧ Sb Z h' a b kb cap (cs ++ ds)) := by
  obtain ⟨hw, hEL, hSA, ⟨zc, SC, hz⟩, ⟨fm, SF, hfm⟩⟩ := id G
  refine Ctr.enter (own := "java/lang/AbstractStringBuilder") (nm := "append") rfl rfl hEL (plainFor_of_name pn_2) #[.val (.ref a), .val (.ref u), .unset] (fun m => by first | rfl | (simp [entryFrame, mkF, argsToLocals, Value.category, maxLocals]; done)) ?_
  intro p e s m below meth c T X
  obtain ⟨E, C, N, V, A, hcs, hlen, hcap, hab⟩ := id S
  refine g_aloadN X d15_0 rfl rfl 1 rfl ?_
  refine g_ifnonnullYes X d15_1 9 (by decide) (by decide) ?_
  refine g_aloadN X d15_9 rfl rfl 10 rfl ?_
  refine g_callVp X (hw _ (List.mem_of_getElem? (i := 98) rfl)) (hw _ (List.mem_of_getElem? (i := 99) rfl)) (hw _ (List.mem_of_getElem? (i := 101) rfl)) (hw _ (List.mem_of_getElem? (i := 100) rfl)) (hw _ (List.mem_of_getElem? (i := 3) rfl)) (hw _ (List.mem_of_getElem? (i := 102) rfl)) (nfSel (hw _ (List.mem_of_getElem? (i := 101) rfl))) (by decide) Eu (c_len l Z a0 G u t kt ds h Eu Cu Vu At hds hdl) (by simp) (argsL := []) (rest := []) pd_4 rfl rfl rfl rfl 0 (Nat.le_of_eq rfl) (by decide) (by decide) (ck := 0) rfl (cs := 0) rfl (by decide) (by decide) d15_10 13 rfl ?_
  intro w3 T1 X2 hq4
  subst hq4
  refine g_istoreN X2 d15_13 (Ls' := #[.val (.ref a), .val (.ref u), .val (.int (Int32.ofNat ds.length))]) rfl 14 rfl ?_
  refine g_aloadN X2 d15_14 rfl rfl 15 rfl ?_
  refine g_aloadN X2 d15_15 rfl rfl 16 rfl ?_
  refine g_getF X2 (Or.inl (hw _ (List.mem_of_getElem? (i := 108) rfl))) (host := "") Via.refl N d15_16 19 rfl ?_
  intro T5 X6
  refine g_iloadN X6 d15_19 rfl 20 rfl ?_
  refine g_iadd X6 d15_20 (Int32.ofNat (cs.length + ds.length)) (of_add _ _) 21 rfl ?_
  refine g_callVn X6 (hw _ (List.mem_of_getElem? (i := 110) rfl)) (own_declares (hw _ (List.mem_of_getElem? (i := 111) rfl)) (hw _ (List.mem_of_getElem? (i := 114) rfl))) (hw _ (List.mem_of_getElem? (i := 113) rfl)) (hw _ (List.mem_of_getElem? (i := 111) rfl)) (hw _ (List.mem_of_getElem? (i := 79) rfl)) (hw _ (List.mem_of_getElem? (i := 114) rfl)) (nfSel (hw _ (List.mem_of_getElem? (i := 113) rfl))) (by decide) E (c_eci l Z a0 G a b kb cap (cs.length + ds.length) _ h C V A hfit hcap) (by simp) (argsL := [.int (Int32.ofNat (cs.length + ds.length))]) (rest := []) pd_13 rfl rfl rfl rfl 0 (Nat.le_of_eq rfl) (by decide) (by decide) (ck := 0) rfl (cs := 0) rfl (by decide) (by decide) d15_21 24 rfl ?_
  intro T7 h10 X8 hq9
  subst hq9
  refine g_aloadN X8 d15_24 rfl rfl 25 rfl ?_
  refine g_aloadN X8 d15_25 rfl rfl 26 rfl ?_
  refine g_getF X8 (Or.inl (hw _ (List.mem_of_getElem? (i := 108) rfl))) (host := "") Via.refl N d15_26 29 rfl ?_
  intro T11 X12
  refine g_aloadN X12 d15_29 rfl rfl 30 rfl ?_
  refine g_callVn X12 (hw _ (List.mem_of_getElem? (i := 115) rfl)) (own_declares (hw _ (List.mem_of_getElem? (i := 116) rfl)) (hw _ (List.mem_of_getElem? (i := 119) rfl))) (hw _ (List.mem_of_getElem? (i := 118) rfl)) (hw _ (List.mem_of_getElem? (i := 116) rfl)) (hw _ (List.mem_of_getElem? (i := 79) rfl)) (hw _ (List.mem_of_getElem? (i := 119) rfl)) (nfSel (hw _ (List.mem_of_getElem? (i := 118) rfl))) (by decide) E (c_psa l Z a0 G a u t b kt kb cap cs ds h E C V Eu Cu Vu At hds hdl A hfit hcap) (by simp) (argsL := [.int (Int32.ofNat cs.length), .ref u]) (rest := []) pd_16 rfl rfl rfl rfl 0 (Nat.le_of_eq rfl) (by decide) (by decide) (ck := 0) rfl (cs := 0) rfl (by decide) (by decide) d15_30 33 rfl ?_
  intro T13 h16 X14 hq15
  obtain ⟨K17, A18⟩ := hq15
  refine g_aloadN X14 d15_33 rfl rfl 34 rfl ?_
  refine g_dup X14 d15_34 rfl 35 rfl ?_
  refine g_getF X14 (Or.inl (hw _ (List.mem_of_getElem? (i := 108) rfl))) (host := "") Via.refl (N.keep K17 (ninS hab nin0)) d15_35 38 rfl ?_
  intro T19 X20
  refine g_iloadN X20 d15_38 rfl 39 rfl ?_
  refine g_iadd X20 d15_39 (Int32.ofNat (cs.length + ds.length)) (of_add _ _) 40 rfl ?_
  refine g_putF X20 (Or.inl (hw _ (List.mem_of_getElem? (i := 108) rfl))) (host := "") Via.refl (N.keep K17 (ninS hab nin0)) (E.keep K17) (Or.inl (hw _ (List.mem_of_getElem? (i := 109) rfl))) (hw _ (List.mem_of_getElem? (i := 70) rfl)) (ty := .int) (by rfl) rfl rfl (by simp) d15_40 43 rfl ?_
  intro T21 h22 X23 W24 F25 E26
  refine g_aloadN X23 d15_43 rfl rfl 44 rfl ?_
  exact g_retA X23 rfl rfl rfl d15_44 (by decide) (by decide) ⟨_, rfl, ⟨rfl, (((Keep.refl h [a, b]).trans K17 (by simp)).wr W24 (Or.inl (by simp))), E26, ((C.keep K17 (ninS hab nin0)).other W24 (Or.inr (slot_ne (Or.inl (hw _ (List.mem_of_getElem? (i := 86) rfl))) (Or.inl (hw _ (List.mem_of_getElem? (i := 109) rfl))) (by decide) (by rfl) (by rfl)))), (by rw [List.length_append]; exact F25), ((V.keep K17 (ninS hab nin0)).other W24 (Or.inr (slot_ne (Or.inl (hw _ (List.mem_of_getElem? (i := 84) rfl))) (Or.inl (hw _ (List.mem_of_getElem? (i := 109) rfl))) (by decide) (by rfl) (by rfl)))), (A18.other W24 (Ne.symm hab)), ok_app hcs hds, (by rw [List.length_append]; exact hfit), hcap, hab⟩⟩
theorem d14_0 : decode jdk_67_method_7_code 0 = .ok (.aload_n 0, 1) := by decide +kernel
theorem d14_1 : decode jdk_67_method_7_code 1 = .ok (.aload_n 1, 1) := by decide +kernel
theorem d14_2 : decode jdk_67_method_7_code 2 = .ok (.invokespecial 29, 3) := by decide +kernel
theorem d14_5 : decode jdk_67_method_7_code 5 = .ok (.pop, 1) := by decide +kernel
theorem d14_6 : decode jdk_67_method_7_code 6 = .ok (.aload_n 0, 1) := by decide +kernel
theorem d14_7 : decode jdk_67_method_7_code 7 = .ok (.areturn, 1) := by decide +kernel
set_option maxRecDepth 65536 in
set_option maxHeartbeats 40000000 in
theorem c_sba (l : Launch) (Z : State) (a0 : Array Value) (G : Gl Z a0) (a u t b : Addr) (kt kb : ClassId) (cap : Nat) (cs ds : List Int32) (h : Heap) (S : Sb Z h a b kb cap cs) (Eu : Exa Z h u "java/lang/String") (Cu : Fld Z h u "java/lang/String" "coder" "B" (.int (0 : Int32))) (Vu : Fld Z h u "java/lang/String" "value" "[B" (.ref t)) (At : Arv Z h t kt .byte (Int32.ofNat ds.length) (bys ds) (.int (0 : Int32))) (hds : ∀ c ∈ ds, ¬ c < 0 ∧ ¬ (255 : Int32) < c) (hdl : ds.length ≤ 4000) (hfit : cs.length + ds.length ≤ cap) :
    Ctr l Z EL nw (⟨"java/lang/StringBuilder", "append", "(Ljava/lang/String;)Ljava/lang/StringBuilder;"⟩ : MethodName) jdk_67_method_7_code 2 (Option.some (Jvm.ClassFile.FieldType.object "java/lang/StringBuilder")) ({ frames := 4, cells := 0, slots := 0, locals := 61 } : Room) #[.ref a, .ref u] h [a, b] (ValQ fun w h' => w = .ref a ∧ Keep h h' [a, b] ∧ Sb Z h' a b kb cap (cs ++ ds)) := by
  obtain ⟨hw, hEL, hSA, ⟨zc, SC, hz⟩, ⟨fm, SF, hfm⟩⟩ := id G
  refine Ctr.enter (own := "java/lang/StringBuilder") (nm := "append") rfl rfl hEL (plainFor_of_name pn_3) #[.val (.ref a), .val (.ref u)] (fun m => by first | rfl | (simp [entryFrame, mkF, argsToLocals, Value.category, maxLocals]; done)) ?_
  intro p e s m below meth c T X
  refine g_aloadN X d14_0 rfl rfl 1 rfl ?_
  refine g_aloadN X d14_1 rfl rfl 2 rfl ?_
  refine g_callUv X (by decide) (hw _ (List.mem_of_getElem? (i := 93) rfl)) (own_same (hw _ (List.mem_of_getElem? (i := 94) rfl)) (hw _ (List.mem_of_getElem? (i := 113) rfl)) rfl (by decide)) (hw _ (List.mem_of_getElem? (i := 94) rfl)) (hw _ (List.mem_of_getElem? (i := 95) rfl)) (hw _ (List.mem_of_getElem? (i := 79) rfl)) (hw _ (List.mem_of_getElem? (i := 97) rfl)) S.1 (c_asa l Z a0 G a u t b kt kb cap cs ds h S Eu Cu Vu At hds hdl hfit) (by simp) (argsL := [.ref u]) (rest := []) pd_15 rfl rfl rfl rfl 0 (Nat.le_of_eq rfl) (by decide) (by decide) (ck := 0) rfl (cs := 0) rfl (by decide) (by decide) d14_2 5 rfl ?_
  intro w3 T1 h5 X2 hq4
  obtain ⟨rfl, hK, hS⟩ := hq4
  refine g_pop X2 d14_5 rfl 6 rfl ?_
  refine g_aloadN X2 d14_6 rfl rfl 7 rfl ?_
  exact g_retA X2 rfl rfl rfl d14_7 (by decide) (by decide) ⟨_, rfl, ⟨rfl, hK, hS⟩⟩
theorem d30_0 : decode jdk_68_method_64_code 0 = .ok (.aload_n 0, 1) := by decide +kernel
theorem d30_1 : decode jdk_68_method_64_code 1 = .ok (.getfield 15, 3) := by decide +kernel
theorem d30_4 : decode jdk_68_method_64_code 4 = .ok (.areturn, 1) := by decide +kernel
set_option maxRecDepth 65536 in
set_option maxHeartbeats 40000000 in
theorem c_gv (l : Launch) (Z : State) (a0 : Array Value) (G : Gl Z a0) (a b : Addr) (h : Heap) (V : Fld Z h a "java/lang/AbstractStringBuilder" "value" "[B" (.ref b)) :
    Ctr l Z EL nw (⟨"java/lang/AbstractStringBuilder", "getValue", "()[B"⟩ : MethodName) jdk_68_method_64_code 1 (Option.some (Jvm.ClassFile.FieldType.array Jvm.ClassFile.FieldType.byte)) ({ frames := 0, cells := 0, slots := 0, locals := 0 } : Room) #[.ref a] h [] (PureQ h fun w => w = .ref b) := by
  obtain ⟨hw, hEL, hSA, ⟨zc, SC, hz⟩, ⟨fm, SF, hfm⟩⟩ := id G
  refine Ctr.enter (own := "java/lang/AbstractStringBuilder") (nm := "getValue") rfl rfl hEL (plainFor_of_name pn_2) #[.val (.ref a)] (fun m => by first | rfl | (simp [entryFrame, mkF, argsToLocals, Value.category, maxLocals]; done)) ?_
  intro p e s m below meth c T X
  refine g_aloadN X d30_0 rfl rfl 1 rfl ?_
  refine g_getF X (Or.inl (hw _ (List.mem_of_getElem? (i := 83) rfl))) (host := "") Via.refl V d30_1 4 rfl ?_
  intro T1 X2
  exact g_retA X2 rfl rfl rfl d30_4 (by decide) (by decide) ⟨rfl, _, rfl, rfl⟩
theorem d32_0 : decode jdk_68_method_6_code 0 = .ok (.aload_n 0, 1) := by decide +kernel
theorem d32_1 : decode jdk_68_method_6_code 1 = .ok (.getfield 79, 3) := by decide +kernel
theorem d32_4 : decode jdk_68_method_6_code 4 = .ok (.ireturn, 1) := by decide +kernel
set_option maxRecDepth 65536 in
set_option maxHeartbeats 40000000 in
theorem c_aln (l : Launch) (Z : State) (a0 : Array Value) (G : Gl Z a0) (a : Addr) (cs : List Int32) (h : Heap) (N : Fld Z h a "java/lang/AbstractStringBuilder" "count" "I" (.int (Int32.ofNat cs.length))) :
    Ctr l Z EL nw (⟨"java/lang/AbstractStringBuilder", "length", "()I"⟩ : MethodName) jdk_68_method_6_code 1 (Option.some Jvm.ClassFile.FieldType.int) ({ frames := 0, cells := 0, slots := 0, locals := 0 } : Room) #[.ref a] h [] (PureQ h fun w => w = .int (Int32.ofNat cs.length)) := by
  obtain ⟨hw, hEL, hSA, ⟨zc, SC, hz⟩, ⟨fm, SF, hfm⟩⟩ := id G
  refine Ctr.enter (own := "java/lang/AbstractStringBuilder") (nm := "length") rfl rfl hEL (plainFor_of_name pn_2) #[.val (.ref a)] (fun m => by first | rfl | (simp [entryFrame, mkF, argsToLocals, Value.category, maxLocals]; done)) ?_
  intro p e s m below meth c T X
  refine g_aloadN X d32_0 rfl rfl 1 rfl ?_
  refine g_getF X (Or.inl (hw _ (List.mem_of_getElem? (i := 108) rfl))) (host := "") Via.refl N d32_1 4 rfl ?_
  intro T1 X2
  exact g_retI X2 rfl d32_4 (by decide) (by decide) ⟨rfl, _, rfl, rfl⟩
theorem d31_0 : decode jdk_67_method_93_code 0 = .ok (.aload_n 0, 1) := by decide +kernel
theorem d31_1 : decode jdk_67_method_93_code 1 = .ok (.invokespecial 343, 3) := by decide +kernel
theorem d31_4 : decode jdk_67_method_93_code 4 = .ok (.ireturn, 1) := by decide +kernel
set_option maxRecDepth 65536 in
set_option maxHeartbeats 40000000 in
theorem c_sln (l : Launch) (Z : State) (a0 : Array Value) (G : Gl Z a0) (a : Addr) (cs : List Int32) (h : Heap) (E : Exa Z h a "java/lang/StringBuilder") (N : Fld Z h a "java/lang/AbstractStringBuilder" "count" "I" (.int (Int32.ofNat cs.length))) :
    Ctr l Z EL nw (⟨"java/lang/StringBuilder", "length", "()I"⟩ : MethodName) jdk_67_method_93_code 1 (Option.some Jvm.ClassFile.FieldType.int) ({ frames := 1, cells := 0, slots := 0, locals := 12 } : Room) #[.ref a] h [] (PureQ h fun w => w = .int (Int32.ofNat cs.length)) := by
  obtain ⟨hw, hEL, hSA, ⟨zc, SC, hz⟩, ⟨fm, SF, hfm⟩⟩ := id G
  refine Ctr.enter (own := "java/lang/StringBuilder") (nm := "length") rfl rfl hEL (plainFor_of_name pn_3) #[.val (.ref a)] (fun m => by first | rfl | (simp [entryFrame, mkF, argsToLocals, Value.category, maxLocals]; done)) ?_
  intro p e s m below meth c T X
  refine g_aloadN X d31_0 rfl rfl 1 rfl ?_
  refine g_callUp X (by decide) (hw _ (List.mem_of_getElem? (i := 184) rfl)) (own_same (hw _ (List.mem_of_getElem? (i := 180) rfl)) (hw _ (List.mem_of_getElem? (i := 113) rfl)) rfl (by decide)) (hw _ (List.mem_of_getElem? (i := 180) rfl)) (hw _ (List.mem_of_getElem? (i := 95) rfl)) (hw _ (List.mem_of_getElem? (i := 79) rfl)) (hw _ (List.mem_of_getElem? (i := 185) rfl)) E (c_aln l Z a0 G a cs h N) (by simp) (argsL := []) (rest := []) pd_4 rfl rfl rfl rfl 0 (Nat.le_of_eq rfl) (by decide) (by decide) (ck := 0) rfl (cs := 0) rfl (by decide) (by decide) d31_1 4 rfl ?_
  intro w3 T1 X2 hq4
  subst hq4
  exact g_retI X2 rfl d31_4 (by decide) (by decide) ⟨rfl, _, rfl, rfl⟩
theorem d33_0 : decode jdk_68_method_68_code 0 = .ok (.getstatic 18, 3) := by decide +kernel
theorem d33_3 : decode jdk_68_method_68_code 3 = .ok (.ifCond .eq 14, 3) := by decide +kernel
theorem d33_6 : decode jdk_68_method_68_code 6 = .ok (.aload_n 0, 1) := by decide +kernel
theorem d33_7 : decode jdk_68_method_68_code 7 = .ok (.getfield 22, 3) := by decide +kernel
theorem d33_10 : decode jdk_68_method_68_code 10 = .ok (.ifCond .ne 7, 3) := by decide +kernel
theorem d33_13 : decode jdk_68_method_68_code 13 = .ok (.iconst 1, 1) := by decide +kernel
theorem d33_14 : decode jdk_68_method_68_code 14 = .ok (.goto 4, 3) := by decide +kernel
theorem d33_17 : decode jdk_68_method_68_code 17 = .ok (.iconst 0, 1) := by decide +kernel
theorem d33_18 : decode jdk_68_method_68_code 18 = .ok (.ireturn, 1) := by decide +kernel
set_option maxRecDepth 65536 in
set_option maxHeartbeats 40000000 in
theorem c_ail (l : Launch) (Z : State) (a0 : Array Value) (G : Gl Z a0) (a : Addr) (h : Heap) (C : Fld Z h a "java/lang/AbstractStringBuilder" "coder" "B" (.int (0 : Int32))) :
    Ctr l Z EL nw (⟨"java/lang/AbstractStringBuilder", "isLatin1", "()Z"⟩ : MethodName) jdk_68_method_68_code 1 (Option.some Jvm.ClassFile.FieldType.boolean) ({ frames := 0, cells := 0, slots := 0, locals := 0 } : Room) #[.ref a] h [] (PureQ h fun w => w = .int 1) := by
  obtain ⟨hw, hEL, hSA, ⟨zc, SC, hz⟩, ⟨fm, SF, hfm⟩⟩ := id G
  refine Ctr.enter (own := "java/lang/AbstractStringBuilder") (nm := "isLatin1") rfl rfl hEL (plainFor_of_name pn_2) #[.val (.ref a)] (fun m => by first | rfl | (simp [entryFrame, mkF, argsToLocals, Value.category, maxLocals]; done)) ?_
  intro p e s m below meth c T X
  refine g_getS X (Or.inl (hw _ (List.mem_of_getElem? (i := 82) rfl))) (host := "") Via.refl (SC.ext X.old) d33_0 3 rfl ?_
  intro T1 X2
  refine g_ifNo X2 d33_3 (XT.ii_eq_f hz) 6 rfl ?_
  refine g_aloadN X2 d33_6 rfl rfl 7 rfl ?_
  refine g_getF X2 (Or.inl (hw _ (List.mem_of_getElem? (i := 85) rfl))) (host := "") Via.refl C d33_7 10 rfl ?_
  intro T3 X4
  refine g_ifNo X4 d33_10 (XT.ii_ne_f (by decide)) 13 rfl ?_
  refine g_iconst X4 (1 : Int32) d33_13 (by decide) 14 rfl ?_
  refine g_goto X4 d33_14 18 (by decide) (by decide) ?_
  exact g_retN X4 (t := .boolean) rfl (by simp) d33_18 _ rfl (by decide) (by decide) ⟨rfl, _, rfl, rfl⟩
theorem d36_0 : decode jdk_65_method_131_code 0 = .ok (.iload_n 1, 1) := by decide +kernel
theorem d36_1 : decode jdk_65_method_131_code 1 = .ok (.iload_n 0, 1) := by decide +kernel
theorem d36_2 : decode jdk_65_method_131_code 2 = .ok (.if_icmp .ge 35, 3) := by decide +kernel
theorem d36_5 : decode jdk_65_method_131_code 5 = .ok (.new 43, 3) := by decide +kernel
theorem d36_8 : decode jdk_65_method_131_code 8 = .ok (.dup, 1) := by decide +kernel
theorem d36_9 : decode jdk_65_method_131_code 9 = .ok (.new 45, 3) := by decide +kernel
theorem d36_12 : decode jdk_65_method_131_code 12 = .ok (.dup, 1) := by decide +kernel
theorem d36_13 : decode jdk_65_method_131_code 13 = .ok (.invokespecial 47, 3) := by decide +kernel
theorem d36_16 : decode jdk_65_method_131_code 16 = .ok (.iload_n 0, 1) := by decide +kernel
theorem d36_17 : decode jdk_65_method_131_code 17 = .ok (.invokevirtual 54, 3) := by decide +kernel
theorem d36_20 : decode jdk_65_method_131_code 20 = .ok (.ldc_w 337, 3) := by decide +kernel
theorem d36_23 : decode jdk_65_method_131_code 23 = .ok (.invokevirtual 50, 3) := by decide +kernel
theorem d36_26 : decode jdk_65_method_131_code 26 = .ok (.iload_n 1, 1) := by decide +kernel
theorem d36_27 : decode jdk_65_method_131_code 27 = .ok (.invokevirtual 54, 3) := by decide +kernel
theorem d36_30 : decode jdk_65_method_131_code 30 = .ok (.invokevirtual 61, 3) := by decide +kernel
theorem d36_33 : decode jdk_65_method_131_code 33 = .ok (.invokespecial 65, 3) := by decide +kernel
theorem d36_36 : decode jdk_65_method_131_code 36 = .ok (.athrow, 1) := by decide +kernel
theorem d36_37 : decode jdk_65_method_131_code 37 = .ok (.return_, 1) := by decide +kernel
theorem pn_4 : plainName "java/util/Arrays" = true := by first | (simp [plainName, overriddenIn]; done) | decide +kernel
set_option maxRecDepth 65536 in
set_option maxHeartbeats 40000000 in
theorem c_ckl (l : Launch) (Z : State) (a0 : Array Value) (G : Gl Z a0) (n : Nat) (h : Heap) (hn : n ≤ 4000) :
    Ctr l Z EL nw (⟨"java/util/Arrays", "checkLength", "(II)V"⟩ : MethodName) jdk_65_method_131_code 2 (Option.none : Option Jvm.ClassFile.FieldType) ({ frames := 0, cells := 0, slots := 0, locals := 0 } : Room) #[.int (0 : Int32), .int (Int32.ofNat n)] h [] (VoidQ fun h' => h = h') := by
  obtain ⟨hw, hEL, hSA, ⟨zc, SC, hz⟩, ⟨fm, SF, hfm⟩⟩ := id G
  refine Ctr.enter (own := "java/util/Arrays") (nm := "checkLength") rfl rfl hEL (plainFor_of_name pn_4) #[.val (.int (0 : Int32)), .val (.int (Int32.ofNat n))] (fun m => by first | rfl | (simp [entryFrame, mkF, argsToLocals, Value.category, maxLocals]; done)) ?_
  intro p e s m below meth c T X
  refine g_iloadN X d36_0 rfl 1 rfl ?_
  refine g_iloadN X d36_1 rfl 2 rfl ?_
  refine g_icmpYes X d36_2 (XT.ii_ge_t (of_nn hn)) 37 (by decide) (by decide) ?_
  exact g_ret X rfl d36_37 (by decide) (by decide) ⟨rfl, rfl⟩
theorem d26_0 : decode jdk_29_method_69_code 0 = .ok (.iload_n 0, 1) := by decide +kernel
theorem d26_1 : decode jdk_29_method_69_code 1 = .ok (.iload_n 1, 1) := by decide +kernel
theorem d26_2 : decode jdk_29_method_69_code 2 = .ok (.if_icmp .gt 7, 3) := by decide +kernel
theorem d26_5 : decode jdk_29_method_69_code 5 = .ok (.iload_n 0, 1) := by decide +kernel
theorem d26_6 : decode jdk_29_method_69_code 6 = .ok (.goto 4, 3) := by decide +kernel
theorem d26_9 : decode jdk_29_method_69_code 9 = .ok (.iload_n 1, 1) := by decide +kernel
theorem d26_10 : decode jdk_29_method_69_code 10 = .ok (.ireturn, 1) := by decide +kernel
set_option maxRecDepth 65536 in
set_option maxHeartbeats 40000000 in
theorem c_min (l : Launch) (Z : State) (a0 : Array Value) (G : Gl Z a0) (x y : Int32) (h : Heap) (hlt : y < x) :
    Ctr l Z EL nw (⟨"java/lang/Math", "min", "(II)I"⟩ : MethodName) jdk_29_method_69_code 2 (Option.some Jvm.ClassFile.FieldType.int) ({ frames := 0, cells := 0, slots := 0, locals := 0 } : Room) #[.int x, .int y] h [] (PureQ h fun w => w = .int y) := by
  obtain ⟨hw, hEL, hSA, ⟨zc, SC, hz⟩, ⟨fm, SF, hfm⟩⟩ := id G
  refine Ctr.enter (own := "java/lang/Math") (nm := "min") rfl rfl hEL (by decide +kernel) #[.val (.int x), .val (.int y)] (fun m => by first | rfl | (simp [entryFrame, mkF, argsToLocals, Value.category, maxLocals]; done)) ?_
  intro p e s m below meth c T X
  refine g_iloadN X d26_0 rfl 1 rfl ?_
  refine g_iloadN X d26_1 rfl 2 rfl ?_
  refine g_icmpYes X d26_2 (XT.ii_gt_t hlt) 9 (by decide) (by decide) ?_
  refine g_iloadN X d26_9 rfl 10 rfl ?_
  exact g_retI X rfl d26_10 (by decide) (by decide) ⟨rfl, _, rfl, rfl⟩
theorem d35_0 : decode jdk_65_method_133_code 0 = .ok (.iload_n 1, 1) := by decide +kernel
theorem d35_1 : decode jdk_65_method_133_code 1 = .ok (.iload_n 2, 1) := by decide +kernel
theorem d35_2 : decode jdk_65_method_133_code 2 = .ok (.invokestatic 343, 3) := by decide +kernel
theorem d35_5 : decode jdk_65_method_133_code 5 = .ok (.iload_n 2, 1) := by decide +kernel
theorem d35_6 : decode jdk_65_method_133_code 6 = .ok (.iload_n 1, 1) := by decide +kernel
theorem d35_7 : decode jdk_65_method_133_code 7 = .ok (.isub, 1) := by decide +kernel
theorem d35_8 : decode jdk_65_method_133_code 8 = .ok (.istore_n 3, 1) := by decide +kernel
theorem d35_9 : decode jdk_65_method_133_code 9 = .ok (.iload_n 3, 1) := by decide +kernel
theorem d35_10 : decode jdk_65_method_133_code 10 = .ok (.newarray .byte, 2) := by decide +kernel
theorem d35_12 : decode jdk_65_method_133_code 12 = .ok (.astore 4, 2) := by decide +kernel
theorem d35_14 : decode jdk_65_method_133_code 14 = .ok (.aload_n 0, 1) := by decide +kernel
theorem d35_15 : decode jdk_65_method_133_code 15 = .ok (.iload_n 1, 1) := by decide +kernel
theorem d35_16 : decode jdk_65_method_133_code 16 = .ok (.aload 4, 2) := by decide +kernel
theorem d35_18 : decode jdk_65_method_133_code 18 = .ok (.iconst 0, 1) := by decide +kernel
theorem d35_19 : decode jdk_65_method_133_code 19 = .ok (.aload_n 0, 1) := by decide +kernel
theorem d35_20 : decode jdk_65_method_133_code 20 = .ok (.arraylength, 1) := by decide +kernel
theorem d35_21 : decode jdk_65_method_133_code 21 = .ok (.iload_n 1, 1) := by decide +kernel
theorem d35_22 : decode jdk_65_method_133_code 22 = .ok (.isub, 1) := by decide +kernel
theorem d35_23 : decode jdk_65_method_133_code 23 = .ok (.iload_n 3, 1) := by decide +kernel
theorem d35_24 : decode jdk_65_method_133_code 24 = .ok (.invokestatic 304, 3) := by decide +kernel
theorem d35_27 : decode jdk_65_method_133_code 27 = .ok (.invokestatic 150, 3) := by decide +kernel
theorem d35_30 : decode jdk_65_method_133_code 30 = .ok (.aload 4, 2) := by decide +kernel
theorem d35_32 : decode jdk_65_method_133_code 32 = .ok (.areturn, 1) := by decide +kernel
set_option maxRecDepth 65536 in
set_option maxHeartbeats 40000000 in
theorem c_corb (l : Launch) (Z : State) (a0 : Array Value) (G : Gl Z a0) (b : Addr) (kb : ClassId) (cap : Nat) (cs : List Int32) (h : Heap) (A : Arv Z h b kb .byte (Int32.ofNat cap) (padB cap cs) (.int (0 : Int32))) (hlt : cs.length < cap) (hcap : cap ≤ 4000) (hB : cs.length ≤ 36) :
    Ctr l Z EL nw (⟨"java/util/Arrays", "copyOfRangeByte", "([BII)[B"⟩ : MethodName) jdk_65_method_133_code 5 (Option.some (Jvm.ClassFile.FieldType.array Jvm.ClassFile.FieldType.byte)) ({ frames := 1, cells := 1, slots := 36, locals := 18 } : Room) #[.ref b, .int (0 : Int32), .int (Int32.ofNat cs.length)] h [] (ValQ fun w h' => ∃ (t : Addr) (kt : ClassId), w = .ref t ∧ Ext h h' ∧ h.size ≤ t ∧ Arv Z h' t kt .byte (Int32.ofNat cs.length) (bys cs) (.int (0 : Int32))) := by
  obtain ⟨hw, hEL, hSA, ⟨zc, SC, hz⟩, ⟨fm, SF, hfm⟩⟩ := id G
  refine Ctr.enter (own := "java/util/Arrays") (nm := "copyOfRangeByte") rfl rfl hEL (plainFor_of_name pn_4) #[.val (.ref b), .val (.int (0 : Int32)), .val (.int (Int32.ofNat cs.length)), .unset, .unset] (fun m => by first | rfl | (simp [entryFrame, mkF, argsToLocals, Value.category, maxLocals]; done)) ?_
  intro p e s m below meth c T X
  refine g_iloadN X d35_0 rfl 1 rfl ?_
  refine g_iloadN X d35_1 rfl 2 rfl ?_
  refine g_callSn X (hw _ (List.mem_of_getElem? (i := 197) rfl)) (hw _ (List.mem_of_getElem? (i := 198) rfl)) (hw _ (List.mem_of_getElem? (i := 153) rfl)) (hw _ (List.mem_of_getElem? (i := 199) rfl)) (by decide) (c_ckl l Z a0 G cs.length h (by omega)) (by simp) (argsL := [.int (0 : Int32), .int (Int32.ofNat cs.length)]) (rest := []) pd_9 rfl rfl rfl rfl 0 (Nat.le_of_eq rfl) (by decide) (by decide) (ck := 0) rfl (cs := 0) rfl (by decide) (by decide) d35_2 5 rfl ?_
  intro T1 h4 X2 hq3
  subst hq3
  refine g_iloadN X2 d35_5 rfl 6 rfl ?_
  refine g_iloadN X2 d35_6 rfl 7 rfl ?_
  refine g_isub X2 d35_7 (Int32.ofNat cs.length) (Int32.sub_zero _) 8 rfl ?_
  refine g_istoreN X2 d35_8 (Ls' := #[.val (.ref b), .val (.int (0 : Int32)), .val (.int (Int32.ofNat cs.length)), .val (.int (Int32.ofNat cs.length)), .unset]) rfl 9 rfl ?_
  refine g_iloadN X2 d35_9 rfl 10 rfl ?_
  refine g_newP X2 (hw _ (List.mem_of_getElem? (i := 19) rfl)) d35_10 (of_nn (by omega)) 36 (by rw [of_nat (by omega)]; exact hB) (by decide) (ck := 1) rfl (cs := 36) rfl (by decide) (by decide) 12 rfl ?_
  intro a5 T6 h7 k8 ea9 X10 E11 A12
  have A13 : Arv Z h7 a5 k8 .byte (Int32.ofNat cs.length) (List.replicate (cs.length) (.int (0 : Int32))) (.int (0 : Int32)) := A12.pad (pad_rep [] _ (cs.length))
  have le_a5 : h.size ≤ a5 := by rw [ea9]; exact (Ext.refl h).1
  have ne_b_a5 : b ≠ a5 := by rw [ea9]; exact Nat.ne_of_lt A.lt
  refine g_astore X10 d35_12 rfl (Ls' := #[.val (.ref b), .val (.int (0 : Int32)), .val (.int (Int32.ofNat cs.length)), .val (.int (Int32.ofNat cs.length)), .val (.ref a5)]) rfl 14 rfl ?_
  refine g_aloadN X10 d35_14 rfl rfl 15 rfl ?_
  refine g_iloadN X10 d35_15 rfl 16 rfl ?_
  refine g_aload X10 d35_16 rfl rfl 18 rfl ?_
  refine g_iconst X10 (0 : Int32) d35_18 (by decide) 19 rfl ?_
  refine g_aloadN X10 d35_19 rfl rfl 20 rfl ?_
  refine g_arrlen X10 (A.ext E11) d35_20 21 rfl ?_
  refine g_iloadN X10 d35_21 rfl 22 rfl ?_
  refine g_isub X10 d35_22 (Int32.ofNat cap) (Int32.sub_zero _) 23 rfl ?_
  refine g_iloadN X10 d35_23 rfl 24 rfl ?_
  refine g_callSp X10 (hw _ (List.mem_of_getElem? (i := 155) rfl)) (hw _ (List.mem_of_getElem? (i := 156) rfl)) (hw _ (List.mem_of_getElem? (i := 147) rfl)) (hw _ (List.mem_of_getElem? (i := 157) rfl)) (by decide) (c_min l Z a0 G (Int32.ofNat cap) (Int32.ofNat cs.length) h7 (of_lt hlt hcap)) (by simp) (argsL := [.int (Int32.ofNat cap), .int (Int32.ofNat cs.length)]) (rest := [.int (0 : Int32), .ref a5, .int (0 : Int32), .ref b]) pd_24 rfl rfl rfl rfl 4 (Nat.le_of_eq rfl) (by decide) (by decide) (ck := 1) rfl (cs := 36) rfl (by decide) (by decide) d35_24 27 rfl ?_
  intro w16 T14 X15 hq17
  subst hq17
  refine g_arrcopy X15 (hw _ (List.mem_of_getElem? (i := 158) rfl)) (hw _ (List.mem_of_getElem? (i := 134) rfl)) (hw _ (List.mem_of_getElem? (i := 132) rfl)) (hw _ (List.mem_of_getElem? (i := 133) rfl)) (A.ext E11) A13 rfl (by decide) (by decide) (of_nn (by omega)) (by rw [clamp0, of_nat (by omega), of_nat hcap]; omega) (by rw [clamp0, of_nat (by omega)]; omega) (by rw [clamp0, of_nat (by omega), List.length_replicate]; omega) (bys cs) (pad_get (by omega) hcap _ rfl) (by simp) rfl d35_27 (by decide) 0 (Nat.le_of_eq rfl) (by decide) 30 rfl ?_
  intro T18 h19 X20 K21 A22
  refine g_aload X20 d35_30 rfl rfl 32 rfl ?_
  exact g_retA X20 rfl rfl rfl d35_32 (by decide) (by decide) ⟨_, rfl, ⟨a5, _, rfl, (ext_keep ((Ext.refl h).trans E11) K21 (fun x hx => by cases List.mem_singleton.mp hx; exact le_a5)), le_a5, A22⟩⟩
theorem d34_0 : decode jdk_65_method_132_code 0 = .ok (.iload_n 1, 1) := by decide +kernel
theorem d34_1 : decode jdk_65_method_132_code 1 = .ok (.ifCond .ne 9, 3) := by decide +kernel
theorem d34_4 : decode jdk_65_method_132_code 4 = .ok (.iload_n 2, 1) := by decide +kernel
theorem d34_5 : decode jdk_65_method_132_code 5 = .ok (.aload_n 0, 1) := by decide +kernel
theorem d34_6 : decode jdk_65_method_132_code 6 = .ok (.arraylength, 1) := by decide +kernel
theorem d34_7 : decode jdk_65_method_132_code 7 = .ok (.if_icmp .eq 10, 3) := by decide +kernel
theorem d34_10 : decode jdk_65_method_132_code 10 = .ok (.aload_n 0, 1) := by decide +kernel
theorem d34_11 : decode jdk_65_method_132_code 11 = .ok (.iload_n 1, 1) := by decide +kernel
theorem d34_12 : decode jdk_65_method_132_code 12 = .ok (.iload_n 2, 1) := by decide +kernel
theorem d34_13 : decode jdk_65_method_132_code 13 = .ok (.invokestatic 339, 3) := by decide +kernel
theorem d34_16 : decode jdk_65_method_132_code 16 = .ok (.areturn, 1) := by decide +kernel
theorem d34_17 : decode jdk_65_method_132_code 17 = .ok (.aload_n 0, 1) := by decide +kernel
theorem d34_18 : decode jdk_65_method_132_code 18 = .ok (.invokevirtual 310, 3) := by decide +kernel
theorem d34_21 : decode jdk_65_method_132_code 21 = .ok (.checkcast 311, 3) := by decide +kernel
theorem d34_24 : decode jdk_65_method_132_code 24 = .ok (.areturn, 1) := by decide +kernel
set_option maxRecDepth 65536 in
set_option maxHeartbeats 40000000 in
theorem c_cor (l : Launch) (Z : State) (a0 : Array Value) (G : Gl Z a0) (b : Addr) (kb : ClassId) (cap : Nat) (cs : List Int32) (h : Heap) (A : Arv Z h b kb .byte (Int32.ofNat cap) (padB cap cs) (.int (0 : Int32))) (hlt : cs.length < cap) (hcap : cap ≤ 4000) (hB : cs.length ≤ 36) :
    Ctr l Z EL nw (⟨"java/util/Arrays", "copyOfRange", "([BII)[B"⟩ : MethodName) jdk_65_method_132_code 3 (Option.some (Jvm.ClassFile.FieldType.array Jvm.ClassFile.FieldType.byte)) ({ frames := 2, cells := 1, slots := 36, locals := 34 } : Room) #[.ref b, .int (0 : Int32), .int (Int32.ofNat cs.length)] h [] (ValQ fun w h' => ∃ (t : Addr) (kt : ClassId), w = .ref t ∧ Ext h h' ∧ h.size ≤ t ∧ Arv Z h' t kt .byte (Int32.ofNat cs.length) (bys cs) (.int (0 : Int32))) := by
  obtain ⟨hw, hEL, hSA, ⟨zc, SC, hz⟩, ⟨fm, SF, hfm⟩⟩ := id G
  refine Ctr.enter (own := "java/util/Arrays") (nm := "copyOfRange") rfl rfl hEL (plainFor_of_name pn_4) #[.val (.ref b), .val (.int (0 : Int32)), .val (.int (Int32.ofNat cs.length))] (fun m => by first | rfl | (simp [entryFrame, mkF, argsToLocals, Value.category, maxLocals]; done)) ?_
  intro p e s m below meth c T X
  refine g_iloadN X d34_0 rfl 1 rfl ?_
  refine g_ifNo X d34_1 (XT.ii_ne_f (by decide)) 4 rfl ?_
  refine g_iloadN X d34_4 rfl 5 rfl ?_
  refine g_aloadN X d34_5 rfl rfl 6 rfl ?_
  refine g_arrlen X A d34_6 7 rfl ?_
  refine g_icmpNo X d34_7 (XT.ii_eq_f (fun q => absurd (of_eq (by omega) hcap q) (by omega))) 10 rfl ?_
  refine g_aloadN X d34_10 rfl rfl 11 rfl ?_
  refine g_iloadN X d34_11 rfl 12 rfl ?_
  refine g_iloadN X d34_12 rfl 13 rfl ?_
  refine g_callSv X (hw _ (List.mem_of_getElem? (i := 194) rfl)) (hw _ (List.mem_of_getElem? (i := 195) rfl)) (hw _ (List.mem_of_getElem? (i := 153) rfl)) (hw _ (List.mem_of_getElem? (i := 196) rfl)) (by decide) (c_corb l Z a0 G b kb cap cs h A hlt hcap hB) (by simp) (argsL := [.ref b, .int (0 : Int32), .int (Int32.ofNat cs.length)]) (rest := []) pd_23 rfl rfl rfl rfl 0 (Nat.le_of_eq rfl) (by decide) (by decide) (ck := 1) rfl (cs := 36) rfl (by decide) (by decide) d34_13 16 rfl ?_
  intro w3 T1 h5 X2 hq4
  obtain ⟨tt, kt, rfl, hE, hle, hA⟩ := hq4
  exact g_retA X2 rfl rfl rfl d34_16 (by decide) (by decide) ⟨_, rfl, ⟨tt, kt, rfl, hE, hle, hA⟩⟩
theorem d29_0 : decode jdk_42_method_150_code 0 = .ok (.aload_n 0, 1) := by decide +kernel
theorem d29_1 : decode jdk_42_method_150_code 1 = .ok (.invokespecial 1, 3) := by decide +kernel
theorem d29_4 : decode jdk_42_method_150_code 4 = .ok (.aload_n 1, 1) := by decide +kernel
theorem d29_5 : decode jdk_42_method_150_code 5 = .ok (.invokevirtual 552, 3) := by decide +kernel
theorem d29_8 : decode jdk_42_method_150_code 8 = .ok (.astore_n 3, 1) := by decide +kernel
theorem d29_9 : decode jdk_42_method_150_code 9 = .ok (.aload_n 1, 1) := by decide +kernel
theorem d29_10 : decode jdk_42_method_150_code 10 = .ok (.invokevirtual 549, 3) := by decide +kernel
theorem d29_13 : decode jdk_42_method_150_code 13 = .ok (.istore 4, 2) := by decide +kernel
theorem d29_15 : decode jdk_42_method_150_code 15 = .ok (.aload_n 1, 1) := by decide +kernel
theorem d29_16 : decode jdk_42_method_150_code 16 = .ok (.invokevirtual 1047, 3) := by decide +kernel
theorem d29_19 : decode jdk_42_method_150_code 19 = .ok (.ifCond .eq 22, 3) := by decide +kernel
theorem d29_22 : decode jdk_42_method_150_code 22 = .ok (.aload_n 0, 1) := by decide +kernel
theorem d29_23 : decode jdk_42_method_150_code 23 = .ok (.iconst 0, 1) := by decide +kernel
theorem d29_24 : decode jdk_42_method_150_code 24 = .ok (.putfield 15, 3) := by decide +kernel
theorem d29_27 : decode jdk_42_method_150_code 27 = .ok (.aload_n 0, 1) := by decide +kernel
theorem d29_28 : decode jdk_42_method_150_code 28 = .ok (.aload_n 3, 1) := by decide +kernel
theorem d29_29 : decode jdk_42_method_150_code 29 = .ok (.iconst 0, 1) := by decide +kernel
theorem d29_30 : decode jdk_42_method_150_code 30 = .ok (.iload 4, 2) := by decide +kernel
theorem d29_32 : decode jdk_42_method_150_code 32 = .ok (.invokestatic 54, 3) := by decide +kernel
theorem d29_35 : decode jdk_42_method_150_code 35 = .ok (.putfield 9, 3) := by decide +kernel
theorem d29_38 : decode jdk_42_method_150_code 38 = .ok (.goto 59, 3) := by decide +kernel
theorem d29_41 : decode jdk_42_method_150_code 41 = .ok (.getstatic 38, 3) := by decide +kernel
theorem d29_44 : decode jdk_42_method_150_code 44 = .ok (.ifCond .eq 35, 3) := by decide +kernel
theorem d29_47 : decode jdk_42_method_150_code 47 = .ok (.aload_n 1, 1) := by decide +kernel
theorem d29_48 : decode jdk_42_method_150_code 48 = .ok (.getfield 1048, 3) := by decide +kernel
theorem d29_51 : decode jdk_42_method_150_code 51 = .ok (.ifCond .eq 28, 3) := by decide +kernel
theorem d29_54 : decode jdk_42_method_150_code 54 = .ok (.aload_n 0, 1) := by decide +kernel
theorem d29_55 : decode jdk_42_method_150_code 55 = .ok (.aload_n 3, 1) := by decide +kernel
theorem d29_56 : decode jdk_42_method_150_code 56 = .ok (.iconst 0, 1) := by decide +kernel
theorem d29_57 : decode jdk_42_method_150_code 57 = .ok (.iload 4, 2) := by decide +kernel
theorem d29_59 : decode jdk_42_method_150_code 59 = .ok (.invokestatic 1051, 3) := by decide +kernel
theorem d29_62 : decode jdk_42_method_150_code 62 = .ok (.putfield 9, 3) := by decide +kernel
theorem d29_65 : decode jdk_42_method_150_code 65 = .ok (.aload_n 0, 1) := by decide +kernel
theorem d29_66 : decode jdk_42_method_150_code 66 = .ok (.aload_n 0, 1) := by decide +kernel
theorem d29_67 : decode jdk_42_method_150_code 67 = .ok (.getfield 9, 3) := by decide +kernel
theorem d29_70 : decode jdk_42_method_150_code 70 = .ok (.iload 4, 2) := by decide +kernel
theorem d29_72 : decode jdk_42_method_150_code 72 = .ok (.invokestatic 47, 3) := by decide +kernel
theorem d29_75 : decode jdk_42_method_150_code 75 = .ok (.putfield 15, 3) := by decide +kernel
theorem d29_78 : decode jdk_42_method_150_code 78 = .ok (.return_, 1) := by decide +kernel
theorem d29_79 : decode jdk_42_method_150_code 79 = .ok (.aload_n 0, 1) := by decide +kernel
theorem d29_80 : decode jdk_42_method_150_code 80 = .ok (.iconst 1, 1) := by decide +kernel
theorem d29_81 : decode jdk_42_method_150_code 81 = .ok (.putfield 15, 3) := by decide +kernel
theorem d29_84 : decode jdk_42_method_150_code 84 = .ok (.aload_n 0, 1) := by decide +kernel
theorem d29_85 : decode jdk_42_method_150_code 85 = .ok (.aload_n 3, 1) := by decide +kernel
theorem d29_86 : decode jdk_42_method_150_code 86 = .ok (.iconst 0, 1) := by decide +kernel
theorem d29_87 : decode jdk_42_method_150_code 87 = .ok (.iload 4, 2) := by decide +kernel
theorem d29_89 : decode jdk_42_method_150_code 89 = .ok (.iconst 1, 1) := by decide +kernel
theorem d29_90 : decode jdk_42_method_150_code 90 = .ok (.ishl, 1) := by decide +kernel
theorem d29_91 : decode jdk_42_method_150_code 91 = .ok (.invokestatic 54, 3) := by decide +kernel
theorem d29_94 : decode jdk_42_method_150_code 94 = .ok (.putfield 9, 3) := by decide +kernel
theorem d29_97 : decode jdk_42_method_150_code 97 = .ok (.return_, 1) := by decide +kernel
set_option maxRecDepth 65536 in
set_option maxHeartbeats 40000000 in
theorem c_s150 (l : Launch) (Z : State) (a0 : Array Value) (G : Gl Z a0) (r a b : Addr) (kb : ClassId) (cap : Nat) (cs : List Int32) (h : Heap) (S : Sb Z h a b kb cap cs) (Er : Exa Z h r "java/lang/String") (Vr : Fld Z h r "java/lang/String" "value" "[B" .null) (Cr : Fld Z h r "java/lang/String" "coder" "B" (.int (0 : Int32))) (hra : r ≠ a) (hrb : r ≠ b) (hlt : cs.length < cap) (hB : cs.length ≤ 36) :
    Ctr l Z EL nw (⟨"java/lang/String", "<init>", "(Ljava/lang/AbstractStringBuilder;Ljava/lang/Void;)V"⟩ : MethodName) jdk_42_method_150_code 5 (Option.none : Option Jvm.ClassFile.FieldType) ({ frames := 3, cells := 1, slots := 36, locals := 49 } : Room) #[.ref r, .ref a, .null] h [r] (VoidQ fun h' => Keep h h' [r] ∧ ∃ (t : Addr) (kt : ClassId), Exa Z h' r "java/lang/String" ∧ Fld Z h' r "java/lang/String" "coder" "B" (.int (0 : Int32)) ∧ Fld Z h' r "java/lang/String" "value" "[B" (.ref t) ∧ Arv Z h' t kt .byte (Int32.ofNat cs.length) (bys cs) (.int (0 : Int32)) ∧ (∀ c ∈ cs, ¬ c < 0 ∧ ¬ (255 : Int32) < c) ∧ cs.length ≤ 4000 ∧ h.size ≤ t) := by
  obtain ⟨hw, hEL, hSA, ⟨zc, SC, hz⟩, ⟨fm, SF, hfm⟩⟩ := id G
  refine Ctr.enter (own := "java/lang/String") (nm := "<init>") rfl rfl hEL (plainFor_of_name pn_0) #[.val (.ref r), .val (.ref a), .val (.null), .unset, .unset] (fun m => by first | rfl | (simp [entryFrame, mkF, argsToLocals, Value.category, maxLocals]; done)) ?_
  intro p e s m below meth c T X
  obtain ⟨E, C, N, V, A, hcs, hlen, hcap, hab⟩ := id S
  refine g_aloadN X d29_0 rfl rfl 1 rfl ?_
  refine g_initO X (hw _ (List.mem_of_getElem? (i := 11) rfl)) (hw _ (List.mem_of_getElem? (i := 12) rfl)) (hw _ (List.mem_of_getElem? (i := 13) rfl)) rfl d29_1 (by decide) 0 (Nat.le_of_eq rfl) (by decide) 4 rfl ?_
  intro T1 X2
  refine g_aloadN X2 d29_4 rfl rfl 5 rfl ?_
  refine g_callVp X2 (hw _ (List.mem_of_getElem? (i := 173) rfl)) (hw _ (List.mem_of_getElem? (i := 174) rfl)) (hw _ (List.mem_of_getElem? (i := 176) rfl)) (hw _ (List.mem_of_getElem? (i := 175) rfl)) (hw _ (List.mem_of_getElem? (i := 79) rfl)) (hw _ (List.mem_of_getElem? (i := 177) rfl)) (nfSel (hw _ (List.mem_of_getElem? (i := 176) rfl))) (by decide) E (c_gv l Z a0 G a b h V) (by simp) (argsL := []) (rest := []) pd_22 rfl rfl rfl rfl 0 (Nat.le_of_eq rfl) (by decide) (by decide) (ck := 0) rfl (cs := 0) rfl (by decide) (by decide) d29_5 8 rfl ?_
  intro w5 T3 X4 hq6
  subst hq6
  refine g_astoreN X4 d29_8 rfl (Ls' := #[.val (.ref r), .val (.ref a), .val (.null), .val (.ref b), .unset]) rfl 9 rfl ?_
  refine g_aloadN X4 d29_9 rfl rfl 10 rfl ?_
  refine g_callVp X4 (hw _ (List.mem_of_getElem? (i := 178) rfl)) (hw _ (List.mem_of_getElem? (i := 179) rfl)) (hw _ (List.mem_of_getElem? (i := 181) rfl)) (hw _ (List.mem_of_getElem? (i := 182) rfl)) (hw _ (List.mem_of_getElem? (i := 71) rfl)) (hw _ (List.mem_of_getElem? (i := 183) rfl)) (nfOf (hw _ (List.mem_of_getElem? (i := 113) rfl)) rfl) (by decide) E (c_sln l Z a0 G a cs h E N) (by simp) (argsL := []) (rest := []) pd_4 rfl rfl rfl rfl 0 (Nat.le_of_eq rfl) (by decide) (by decide) (ck := 0) rfl (cs := 0) rfl (by decide) (by decide) d29_10 13 rfl ?_
  intro w9 T7 X8 hq10
  subst hq10
  refine g_istore X8 d29_13 (Ls' := #[.val (.ref r), .val (.ref a), .val (.null), .val (.ref b), .val (.int (Int32.ofNat cs.length))]) rfl 15 rfl ?_
  refine g_aloadN X8 d29_15 rfl rfl 16 rfl ?_
  refine g_callVp X8 (hw _ (List.mem_of_getElem? (i := 186) rfl)) (hw _ (List.mem_of_getElem? (i := 187) rfl)) (hw _ (List.mem_of_getElem? (i := 189) rfl)) (hw _ (List.mem_of_getElem? (i := 188) rfl)) (hw _ (List.mem_of_getElem? (i := 79) rfl)) (hw _ (List.mem_of_getElem? (i := 190) rfl)) (nfSel (hw _ (List.mem_of_getElem? (i := 189) rfl))) (by decide) E (c_ail l Z a0 G a h C) (by simp) (argsL := []) (rest := []) pd_6 rfl rfl rfl rfl 0 (Nat.le_of_eq rfl) (by decide) (by decide) (ck := 0) rfl (cs := 0) rfl (by decide) (by decide) d29_16 19 rfl ?_
  intro w13 T11 X12 hq14
  subst hq14
  refine g_ifNo X12 d29_19 (XT.ii_eq_f (by decide)) 22 rfl ?_
  refine g_aloadN X12 d29_22 rfl rfl 23 rfl ?_
  refine g_iconst X12 (0 : Int32) d29_23 (by decide) 24 rfl ?_
  refine g_putF X12 (Or.inl (hw _ (List.mem_of_getElem? (i := 26) rfl))) (host := "") Via.refl Cr Er (Or.inr ⟨(hw _ (List.mem_of_getElem? (i := 27) rfl)), rfl, rfl⟩) (hw _ (List.mem_of_getElem? (i := 2) rfl)) (ty := .byte) (by rfl) rfl rfl (by simp) d29_24 27 rfl ?_
  intro T15 h16 X17 W18 F19 E20
  refine g_aloadN X17 d29_27 rfl rfl 28 rfl ?_
  refine g_aloadN X17 d29_28 rfl rfl 29 rfl ?_
  refine g_iconst X17 (0 : Int32) d29_29 (by decide) 30 rfl ?_
  refine g_iload X17 d29_30 rfl 32 rfl ?_
  refine g_callSv X17 (hw _ (List.mem_of_getElem? (i := 191) rfl)) (hw _ (List.mem_of_getElem? (i := 192) rfl)) (hw _ (List.mem_of_getElem? (i := 153) rfl)) (hw _ (List.mem_of_getElem? (i := 193) rfl)) (by decide) (c_cor l Z a0 G b kb cap cs h16 (A.other W18 (Ne.symm hrb)) hlt hcap hB) (by simp) (argsL := [.ref b, .int (0 : Int32), .int (Int32.ofNat cs.length)]) (rest := [.ref r]) pd_23 rfl rfl rfl rfl 1 (Nat.le_of_eq rfl) (by decide) (by decide) (ck := 1) rfl (cs := 36) rfl (by decide) (by decide) d29_32 35 rfl ?_
  intro w23 T21 h25 X22 hq24
  obtain ⟨t26, k27, rfl, E28, le29, A30⟩ := hq24
  have ne_r_t26 : r ≠ t26 := Nat.ne_of_lt (Nat.lt_of_lt_of_le E20.lt le29)
  have le_t26 : h.size ≤ t26 := Nat.le_trans ((Keep.refl h [r]).wr W18 (Or.inl (by simp))).1 le29
  refine g_putF X22 (Or.inl (hw _ (List.mem_of_getElem? (i := 28) rfl))) (host := "") Via.refl ((Vr.other W18 (Or.inr (slot_ne (Or.inr (hw _ (List.mem_of_getElem? (i := 29) rfl))) (Or.inr (hw _ (List.mem_of_getElem? (i := 27) rfl))) (by decide) (by rfl) (by rfl)))).ext E28) (E20.ext E28) (Or.inr ⟨(hw _ (List.mem_of_getElem? (i := 29) rfl)), rfl, rfl⟩) (hw _ (List.mem_of_getElem? (i := 2) rfl)) (ty := (.array .byte)) (by rfl) rfl rfl (by simp) d29_35 38 rfl ?_
  intro T31 h32 X33 W34 F35 E36
  refine g_goto X33 d29_38 97 (by decide) (by decide) ?_
  exact g_ret X33 rfl d29_97 (by decide) (by decide) ⟨rfl, ⟨((((Keep.refl h [r]).wr W18 (Or.inl (by simp))).ext E28).wr W34 (Or.inl (by simp))), t26, _, E36, ((F19.ext E28).other W34 (Or.inr (slot_ne (Or.inr (hw _ (List.mem_of_getElem? (i := 27) rfl))) (Or.inr (hw _ (List.mem_of_getElem? (i := 29) rfl))) (by decide) (by rfl) (by rfl)))), F35, (A30.other W34 (Ne.symm ne_r_t26)), hcs, (by omega), le_t26⟩⟩
theorem d28_0 : decode jdk_42_method_53_code 0 = .ok (.aload_n 0, 1) := by decide +kernel
theorem d28_1 : decode jdk_42_method_53_code 1 = .ok (.aload_n 1, 1) := by decide +kernel
theorem d28_2 : decode jdk_42_method_53_code 2 = .ok (.aconst_null, 1) := by decide +kernel
theorem d28_3 : decode jdk_42_method_53_code 3 = .ok (.invokespecial 489, 3) := by decide +kernel
theorem d28_6 : decode jdk_42_method_53_code 6 = .ok (.return_, 1) := by decide +kernel
set_option maxRecDepth 65536 in
set_option maxHeartbeats 40000000 in
theorem c_s53 (l : Launch) (Z : State) (a0 : Array Value) (G : Gl Z a0) (r a b : Addr) (kb : ClassId) (cap : Nat) (cs : List Int32) (h : Heap) (S : Sb Z h a b kb cap cs) (Er : Exa Z h r "java/lang/String") (Vr : Fld Z h r "java/lang/String" "value" "[B" .null) (Cr : Fld Z h r "java/lang/String" "coder" "B" (.int (0 : Int32))) (hra : r ≠ a) (hrb : r ≠ b) (hlt : cs.length < cap) (hB : cs.length ≤ 36) :
    Ctr l Z EL nw (⟨"java/lang/String", "<init>", "(Ljava/lang/StringBuilder;)V"⟩ : MethodName) jdk_42_method_53_code 2 (Option.none : Option Jvm.ClassFile.FieldType) ({ frames := 4, cells := 1, slots := 36, locals := 65 } : Room) #[.ref r, .ref a] h [r] (VoidQ fun h' => Keep h h' [r] ∧ ∃ (t : Addr) (kt : ClassId), Exa Z h' r "java/lang/String" ∧ Fld Z h' r "java/lang/String" "coder" "B" (.int (0 : Int32)) ∧ Fld Z h' r "java/lang/String" "value" "[B" (.ref t) ∧ Arv Z h' t kt .byte (Int32.ofNat cs.length) (bys cs) (.int (0 : Int32)) ∧ (∀ c ∈ cs, ¬ c < 0 ∧ ¬ (255 : Int32) < c) ∧ cs.length ≤ 4000 ∧ h.size ≤ t) := by
  obtain ⟨hw, hEL, hSA, ⟨zc, SC, hz⟩, ⟨fm, SF, hfm⟩⟩ := id G
  refine Ctr.enter (own := "java/lang/String") (nm := "<init>") rfl rfl hEL (plainFor_of_name pn_0) #[.val (.ref r), .val (.ref a)] (fun m => by first | rfl | (simp [entryFrame, mkF, argsToLocals, Value.category, maxLocals]; done)) ?_
  intro p e s m below meth c T X
  refine g_aloadN X d28_0 rfl rfl 1 rfl ?_
  refine g_aloadN X d28_1 rfl rfl 2 rfl ?_
  refine g_aconstNull X d28_2 3 rfl ?_
  refine g_callIn X rfl (hw _ (List.mem_of_getElem? (i := 170) rfl)) (hw _ (List.mem_of_getElem? (i := 171) rfl)) (hw _ (List.mem_of_getElem? (i := 3) rfl)) (hw _ (List.mem_of_getElem? (i := 172) rfl)) (by decide) (c_s150 l Z a0 G r a b kb cap cs h S Er Vr Cr hra hrb hlt hB) (by simp) (argsL := [.ref a, .null]) (rest := []) pd_21 rfl rfl rfl rfl 0 (Nat.le_of_eq rfl) (by decide) (by decide) (ck := 1) rfl (cs := 36) rfl (by decide) (by decide) d28_3 6 rfl ?_
  intro T1 h4 X2 hq3
  exact g_ret X2 rfl d28_6 (by decide) (by decide) ⟨rfl, hq3⟩
theorem d27_0 : decode jdk_67_method_42_code 0 = .ok (.new 18, 3) := by decide +kernel
theorem d27_3 : decode jdk_67_method_42_code 3 = .ok (.dup, 1) := by decide +kernel
theorem d27_4 : decode jdk_67_method_42_code 4 = .ok (.aload_n 0, 1) := by decide +kernel
theorem d27_5 : decode jdk_67_method_42_code 5 = .ok (.invokespecial 137, 3) := by decide +kernel
theorem d27_8 : decode jdk_67_method_42_code 8 = .ok (.areturn, 1) := by decide +kernel
set_option maxRecDepth 65536 in
set_option maxHeartbeats 40000000 in
theorem c_sts (l : Launch) (Z : State) (a0 : Array Value) (G : Gl Z a0) (a b : Addr) (kb : ClassId) (cap : Nat) (cs : List Int32) (h : Heap) (S : Sb Z h a b kb cap cs) (hlt : cs.length < cap) (hB : cs.length ≤ 36) :
    Ctr l Z EL nw (⟨"java/lang/StringBuilder", "toString", "()Ljava/lang/String;"⟩ : MethodName) jdk_67_method_42_code 1 (Option.some (Jvm.ClassFile.FieldType.object "java/lang/String")) ({ frames := 5, cells := 2, slots := 40, locals := 79 } : Room) #[.ref a] h [] (ValQ fun w h' => ∃ r, w = .ref r ∧ Ext h h' ∧ StrN Z h h' r cs) := by
  obtain ⟨hw, hEL, hSA, ⟨zc, SC, hz⟩, ⟨fm, SF, hfm⟩⟩ := id G
  refine Ctr.enter (own := "java/lang/StringBuilder") (nm := "toString") rfl rfl hEL (plainFor_of_name pn_3) #[.val (.ref a)] (fun m => by first | rfl | (simp [entryFrame, mkF, argsToLocals, Value.category, maxLocals]; done)) ?_
  intro p e s m below meth c T X
  refine g_new X (hw _ (List.mem_of_getElem? (i := 166) rfl)) (hw _ (List.mem_of_getElem? (i := 2) rfl)) (hw _ (List.mem_of_getElem? (i := 3) rfl)) d27_0 (ck := 1) rfl (cs := 4) rfl (by decide) (by decide) 3 rfl ?_
  intro a1 T2 h3 ea4 X5 E6 A7 D8
  have le_a1 : h.size ≤ a1 := by rw [ea4]; exact (Ext.refl h).1
  have ne_a_a1 : a ≠ a1 := by rw [ea4]; exact Nat.ne_of_lt S.lt
  have ne_b_a1 : b ≠ a1 := by rw [ea4]; exact Nat.ne_of_lt S.arv.lt
  have F9 : Fld Z h3 a1 "java/lang/String" "value" "[B" (.null) := D8 (Or.inr (hw _ (List.mem_of_getElem? (i := 29) rfl))) (ty := (.array .byte)) (by rfl)
  have F10 : Fld Z h3 a1 "java/lang/String" "coder" "B" (.int (0 : Int32)) := D8 (Or.inr (hw _ (List.mem_of_getElem? (i := 27) rfl))) (ty := .byte) (by rfl)
  refine g_dup X5 d27_3 rfl 4 rfl ?_
  refine g_aloadN X5 d27_4 rfl rfl 5 rfl ?_
  refine g_callIn X5 rfl (hw _ (List.mem_of_getElem? (i := 167) rfl)) (hw _ (List.mem_of_getElem? (i := 168) rfl)) (hw _ (List.mem_of_getElem? (i := 3) rfl)) (hw _ (List.mem_of_getElem? (i := 169) rfl)) (by decide) (c_s53 l Z a0 G a1 a b kb cap cs h3 (S.ext E6) A7 F9 F10 (Ne.symm ne_a_a1) (Ne.symm ne_b_a1) hlt hB) (by simp) (argsL := [.ref a]) (rest := [.ref a1]) pd_20 rfl rfl rfl rfl 1 (Nat.le_of_eq rfl) (by decide) (by decide) (ck := 2) rfl (cs := 40) rfl (by decide) (by decide) d27_5 8 rfl ?_
  intro T11 h14 X12 hq13
  obtain ⟨K15, Q16⟩ := hq13
  exact g_retA X12 rfl rfl rfl d27_8 (by decide) (by decide) ⟨_, rfl, ⟨a1, rfl, (ext_keep ((Ext.refl h).trans E6) K15 (fun x hx => by cases List.mem_singleton.mp hx; exact le_a1)), strN_of Q16 le_a1 ((Ext.refl h).trans E6).1⟩⟩
theorem pd_25 : parseMethodDescriptor "(III)I" = some ⟨[.int, .int, .int], (some .int)⟩ := by decide +kernel
theorem pd_26 : parseMethodDescriptor "([BI)[B" = some ⟨[(.array .byte), .int], (some (.array .byte))⟩ := by decide +kernel
theorem pd_27 : parseMethodDescriptor "(I)I" = some ⟨[.int], (some .int)⟩ := by decide +kernel
set_option maxRecDepth 65536 in
set_option maxHeartbeats 40000000 in
theorem c_minL (l : Launch) (Z : State) (a0 : Array Value) (G : Gl Z a0) (x y : Int32) (h : Heap) (hle : ¬ y < x) :
    Ctr l Z EL nw (⟨"java/lang/Math", "min", "(II)I"⟩ : MethodName) jdk_29_method_69_code 2 (Option.some Jvm.ClassFile.FieldType.int) ({ frames := 0, cells := 0, slots := 0, locals := 0 } : Room) #[.int x, .int y] h [] (PureQ h fun w => w = .int x) := by
  obtain ⟨hw, hEL, hSA, ⟨zc, SC, hz⟩, ⟨fm, SF, hfm⟩⟩ := id G
  refine Ctr.enter (own := "java/lang/Math") (nm := "min") rfl rfl hEL (by decide +kernel) #[.val (.int x), .val (.int y)] (fun m => by first | rfl | (simp [entryFrame, mkF, argsToLocals, Value.category, maxLocals]; done)) ?_
  intro p e s m below meth c T X
  refine g_iloadN X d26_0 rfl 1 rfl ?_
  refine g_iloadN X d26_1 rfl 2 rfl ?_
  refine g_icmpNo X d26_2 (XT.ii_gt_f hle) 5 rfl ?_
  refine g_iloadN X d26_5 rfl 6 rfl ?_
  refine g_goto X d26_6 10 (by decide) (by decide) ?_
  exact g_retI X rfl d26_10 (by decide) (by decide) ⟨rfl, _, rfl, rfl⟩
theorem d24_0 : decode jdk_29_method_65_code 0 = .ok (.iload_n 0, 1) := by decide +kernel
theorem d24_1 : decode jdk_29_method_65_code 1 = .ok (.iload_n 1, 1) := by decide +kernel
theorem d24_2 : decode jdk_29_method_65_code 2 = .ok (.if_icmp .lt 7, 3) := by decide +kernel
theorem d24_5 : decode jdk_29_method_65_code 5 = .ok (.iload_n 0, 1) := by decide +kernel
theorem d24_6 : decode jdk_29_method_65_code 6 = .ok (.goto 4, 3) := by decide +kernel
theorem d24_9 : decode jdk_29_method_65_code 9 = .ok (.iload_n 1, 1) := by decide +kernel
theorem d24_10 : decode jdk_29_method_65_code 10 = .ok (.ireturn, 1) := by decide +kernel
set_option maxRecDepth 65536 in
set_option maxHeartbeats 40000000 in
theorem c_max (l : Launch) (Z : State) (a0 : Array Value) (G : Gl Z a0) (x y : Int32) (h : Heap) (hlt : x < y) :
    Ctr l Z EL nw (⟨"java/lang/Math", "max", "(II)I"⟩ : MethodName) jdk_29_method_65_code 2 (Option.some Jvm.ClassFile.FieldType.int) ({ frames := 0, cells := 0, slots := 0, locals := 0 } : Room) #[.int x, .int y] h [] (PureQ h fun w => w = .int y) := by
  obtain ⟨hw, hEL, hSA, ⟨zc, SC, hz⟩, ⟨fm, SF, hfm⟩⟩ := id G
  refine Ctr.enter (own := "java/lang/Math") (nm := "max") rfl rfl hEL (by decide +kernel) #[.val (.int x), .val (.int y)] (fun m => by first | rfl | (simp [entryFrame, mkF, argsToLocals, Value.category, maxLocals]; done)) ?_
  intro p e s m below meth c T X
  refine g_iloadN X d24_0 rfl 1 rfl ?_
  refine g_iloadN X d24_1 rfl 2 rfl ?_
  refine g_icmpYes X d24_2 (XT.ii_lt_t hlt) 9 (by decide) (by decide) ?_
  refine g_iloadN X d24_9 rfl 10 rfl ?_
  exact g_retI X rfl d24_10 (by decide) (by decide) ⟨rfl, _, rfl, rfl⟩
theorem d23_0 : decode jdk_48_method_27_code 0 = .ok (.iload_n 0, 1) := by decide +kernel
theorem d23_1 : decode jdk_48_method_27_code 1 = .ok (.iload_n 1, 1) := by decide +kernel
theorem d23_2 : decode jdk_48_method_27_code 2 = .ok (.iload_n 2, 1) := by decide +kernel
theorem d23_3 : decode jdk_48_method_27_code 3 = .ok (.invokestatic 194, 3) := by decide +kernel
theorem d23_6 : decode jdk_48_method_27_code 6 = .ok (.iadd, 1) := by decide +kernel
theorem d23_7 : decode jdk_48_method_27_code 7 = .ok (.istore_n 3, 1) := by decide +kernel
theorem d23_8 : decode jdk_48_method_27_code 8 = .ok (.iconst 0, 1) := by decide +kernel
theorem d23_9 : decode jdk_48_method_27_code 9 = .ok (.iload_n 3, 1) := by decide +kernel
theorem d23_10 : decode jdk_48_method_27_code 10 = .ok (.if_icmp .ge 11, 3) := by decide +kernel
theorem d23_13 : decode jdk_48_method_27_code 13 = .ok (.iload_n 3, 1) := by decide +kernel
theorem d23_14 : decode jdk_48_method_27_code 14 = .ok (.ldc 200, 2) := by decide +kernel
theorem d23_16 : decode jdk_48_method_27_code 16 = .ok (.if_icmp .gt 5, 3) := by decide +kernel
theorem d23_19 : decode jdk_48_method_27_code 19 = .ok (.iload_n 3, 1) := by decide +kernel
theorem d23_20 : decode jdk_48_method_27_code 20 = .ok (.ireturn, 1) := by decide +kernel
theorem d23_21 : decode jdk_48_method_27_code 21 = .ok (.iload_n 0, 1) := by decide +kernel
theorem d23_22 : decode jdk_48_method_27_code 22 = .ok (.iload_n 1, 1) := by decide +kernel
theorem d23_23 : decode jdk_48_method_27_code 23 = .ok (.invokestatic 201, 3) := by decide +kernel
theorem d23_26 : decode jdk_48_method_27_code 26 = .ok (.ireturn, 1) := by decide +kernel
theorem pn_5 : plainName "jdk/internal/util/ArraysSupport" = true := by first | (simp [plainName, overriddenIn]; done) | decide +kernel
set_option maxRecDepth 65536 in
set_option maxHeartbeats 40000000 in
theorem c_nl (l : Launch) (Z : State) (a0 : Array Value) (G : Gl Z a0) (cap k : Nat) (h : Heap) (hk : cap < k) (hk2 : k ≤ cap + (cap + 1)) (hcap : cap + (cap + 2) ≤ 4000) :
    Ctr l Z EL nw (⟨"jdk/internal/util/ArraysSupport", "newLength", "(III)I"⟩ : MethodName) jdk_48_method_27_code 4 (Option.some Jvm.ClassFile.FieldType.int) ({ frames := 1, cells := 0, slots := 0, locals := 14 } : Room) #[.int (Int32.ofNat cap), .int (Int32.ofNat (k - cap)), .int (Int32.ofNat (cap + 2))] h [] (PureQ h fun w => w = .int (Int32.ofNat (cap + (cap + 2)))) := by
  obtain ⟨hw, hEL, hSA, ⟨zc, SC, hz⟩, ⟨fm, SF, hfm⟩⟩ := id G
  refine Ctr.enter (own := "jdk/internal/util/ArraysSupport") (nm := "newLength") rfl rfl hEL (plainFor_of_name pn_5) #[.val (.int (Int32.ofNat cap)), .val (.int (Int32.ofNat (k - cap))), .val (.int (Int32.ofNat (cap + 2))), .unset] (fun m => by first | rfl | (simp [entryFrame, mkF, argsToLocals, Value.category, maxLocals]; done)) ?_
  intro p e s m below meth c T X
  refine g_iloadN X d23_0 rfl 1 rfl ?_
  refine g_iloadN X d23_1 rfl 2 rfl ?_
  refine g_iloadN X d23_2 rfl 3 rfl ?_
  refine g_callSp X (hw _ (List.mem_of_getElem? (i := 145) rfl)) (hw _ (List.mem_of_getElem? (i := 146) rfl)) (hw _ (List.mem_of_getElem? (i := 147) rfl)) (hw _ (List.mem_of_getElem? (i := 148) rfl)) (by decide) (c_max l Z a0 G _ _ h (of_lt (by omega) (by omega))) (by simp) (argsL := [.int (Int32.ofNat (k - cap)), .int (Int32.ofNat (cap + 2))]) (rest := [.int (Int32.ofNat cap)]) pd_24 rfl rfl rfl rfl 1 (Nat.le_of_eq rfl) (by decide) (by decide) (ck := 0) rfl (cs := 0) rfl (by decide) (by decide) d23_3 6 rfl ?_
  intro w3 T1 X2 hq4
  subst hq4
  refine g_iadd X2 d23_6 (Int32.ofNat (cap + (cap + 2))) (of_add _ _) 7 rfl ?_
  refine g_istoreN X2 d23_7 (Ls' := #[.val (.int (Int32.ofNat cap)), .val (.int (Int32.ofNat (k - cap))), .val (.int (Int32.ofNat (cap + 2))), .val (.int (Int32.ofNat (cap + (cap + 2))))]) rfl 8 rfl ?_
  refine g_iconst X2 (0 : Int32) d23_8 (by decide) 9 rfl ?_
  refine g_iloadN X2 d23_9 rfl 10 rfl ?_
  refine g_icmpNo X2 d23_10 (XT.ii_ge_f (of_lt (i := 0) (by omega) hcap)) 13 rfl ?_
  refine g_iloadN X2 d23_13 rfl 14 rfl ?_
  refine g_ldcI X2 (hw _ (List.mem_of_getElem? (i := 149) rfl)) d23_14 16 rfl ?_
  refine g_icmpNo X2 d23_16 (XT.ii_gt_f (of_big hcap (by decide))) 19 rfl ?_
  refine g_iloadN X2 d23_19 rfl 20 rfl ?_
  exact g_retI X2 rfl d23_20 (by decide) (by decide) ⟨rfl, _, rfl, rfl⟩
theorem d22_0 : decode jdk_68_method_10_code 0 = .ok (.aload_n 0, 1) := by decide +kernel
theorem d22_1 : decode jdk_68_method_10_code 1 = .ok (.getfield 15, 3) := by decide +kernel
theorem d22_4 : decode jdk_68_method_10_code 4 = .ok (.arraylength, 1) := by decide +kernel
theorem d22_5 : decode jdk_68_method_10_code 5 = .ok (.istore_n 2, 1) := by decide +kernel
theorem d22_6 : decode jdk_68_method_10_code 6 = .ok (.iload_n 1, 1) := by decide +kernel
theorem d22_7 : decode jdk_68_method_10_code 7 = .ok (.aload_n 0, 1) := by decide +kernel
theorem d22_8 : decode jdk_68_method_10_code 8 = .ok (.getfield 22, 3) := by decide +kernel
theorem d22_11 : decode jdk_68_method_10_code 11 = .ok (.ishl, 1) := by decide +kernel
theorem d22_12 : decode jdk_68_method_10_code 12 = .ok (.istore_n 3, 1) := by decide +kernel
theorem d22_13 : decode jdk_68_method_10_code 13 = .ok (.iload_n 3, 1) := by decide +kernel
theorem d22_14 : decode jdk_68_method_10_code 14 = .ok (.iload_n 2, 1) := by decide +kernel
theorem d22_15 : decode jdk_68_method_10_code 15 = .ok (.isub, 1) := by decide +kernel
theorem d22_16 : decode jdk_68_method_10_code 16 = .ok (.istore 4, 2) := by decide +kernel
theorem d22_18 : decode jdk_68_method_10_code 18 = .ok (.iload_n 2, 1) := by decide +kernel
theorem d22_19 : decode jdk_68_method_10_code 19 = .ok (.iload 4, 2) := by decide +kernel
theorem d22_21 : decode jdk_68_method_10_code 21 = .ok (.iload_n 2, 1) := by decide +kernel
theorem d22_22 : decode jdk_68_method_10_code 22 = .ok (.iconst 2, 1) := by decide +kernel
theorem d22_23 : decode jdk_68_method_10_code 23 = .ok (.aload_n 0, 1) := by decide +kernel
theorem d22_24 : decode jdk_68_method_10_code 24 = .ok (.getfield 22, 3) := by decide +kernel
theorem d22_27 : decode jdk_68_method_10_code 27 = .ok (.ishl, 1) := by decide +kernel
theorem d22_28 : decode jdk_68_method_10_code 28 = .ok (.iadd, 1) := by decide +kernel
theorem d22_29 : decode jdk_68_method_10_code 29 = .ok (.invokestatic 114, 3) := by decide +kernel
theorem d22_32 : decode jdk_68_method_10_code 32 = .ok (.istore 5, 2) := by decide +kernel
theorem d22_34 : decode jdk_68_method_10_code 34 = .ok (.iload 5, 2) := by decide +kernel
theorem d22_36 : decode jdk_68_method_10_code 36 = .ok (.ldc 39, 2) := by decide +kernel
theorem d22_38 : decode jdk_68_method_10_code 38 = .ok (.if_icmp .ne 13, 3) := by decide +kernel
theorem d22_41 : decode jdk_68_method_10_code 41 = .ok (.new 120, 3) := by decide +kernel
theorem d22_44 : decode jdk_68_method_10_code 44 = .ok (.dup, 1) := by decide +kernel
theorem d22_45 : decode jdk_68_method_10_code 45 = .ok (.ldc 122, 2) := by decide +kernel
theorem d22_47 : decode jdk_68_method_10_code 47 = .ok (.invokespecial 124, 3) := by decide +kernel
theorem d22_50 : decode jdk_68_method_10_code 50 = .ok (.athrow, 1) := by decide +kernel
theorem d22_51 : decode jdk_68_method_10_code 51 = .ok (.iload 5, 2) := by decide +kernel
theorem d22_53 : decode jdk_68_method_10_code 53 = .ok (.aload_n 0, 1) := by decide +kernel
theorem d22_54 : decode jdk_68_method_10_code 54 = .ok (.getfield 22, 3) := by decide +kernel
theorem d22_57 : decode jdk_68_method_10_code 57 = .ok (.ishr, 1) := by decide +kernel
theorem d22_58 : decode jdk_68_method_10_code 58 = .ok (.ireturn, 1) := by decide +kernel
set_option maxRecDepth 65536 in
set_option maxHeartbeats 40000000 in
theorem c_nc (l : Launch) (Z : State) (a0 : Array Value) (G : Gl Z a0) (a b : Addr) (kb : ClassId) (cap k : Nat) (vs : List Value) (h : Heap) (C : Fld Z h a "java/lang/AbstractStringBuilder" "coder" "B" (.int (0 : Int32))) (V : Fld Z h a "java/lang/AbstractStringBuilder" "value" "[B" (.ref b)) (A : Arv Z h b kb .byte (Int32.ofNat cap) vs (.int (0 : Int32))) (hk : cap < k) (hk2 : k ≤ cap + (cap + 1)) (hcap : cap + (cap + 2) ≤ 4000) :
    Ctr l Z EL nw (⟨"java/lang/AbstractStringBuilder", "newCapacity", "(I)I"⟩ : MethodName) jdk_68_method_10_code 6 (Option.some Jvm.ClassFile.FieldType.int) ({ frames := 2, cells := 0, slots := 0, locals := 29 } : Room) #[.ref a, .int (Int32.ofNat k)] h [] (PureQ h fun w => w = .int (Int32.ofNat (cap + (cap + 2)))) := by
  obtain ⟨hw, hEL, hSA, ⟨zc, SC, hz⟩, ⟨fm, SF, hfm⟩⟩ := id G
  refine Ctr.enter (own := "java/lang/AbstractStringBuilder") (nm := "newCapacity") rfl rfl hEL (plainFor_of_name pn_2) #[.val (.ref a), .val (.int (Int32.ofNat k)), .unset, .unset, .unset, .unset] (fun m => by first | rfl | (simp [entryFrame, mkF, argsToLocals, Value.category, maxLocals]; done)) ?_
  intro p e s m below meth c T X
  refine g_aloadN X d22_0 rfl rfl 1 rfl ?_
  refine g_getF X (Or.inl (hw _ (List.mem_of_getElem? (i := 83) rfl))) (host := "") Via.refl V d22_1 4 rfl ?_
  intro T1 X2
  refine g_arrlen X2 A d22_4 5 rfl ?_
  refine g_istoreN X2 d22_5 (Ls' := #[.val (.ref a), .val (.int (Int32.ofNat k)), .val (.int (Int32.ofNat cap)), .unset, .unset, .unset]) rfl 6 rfl ?_
  refine g_iloadN X2 d22_6 rfl 7 rfl ?_
  refine g_aloadN X2 d22_7 rfl rfl 8 rfl ?_
  refine g_getF X2 (Or.inl (hw _ (List.mem_of_getElem? (i := 85) rfl))) (host := "") Via.refl C d22_8 11 rfl ?_
  intro T3 X4
  refine g_ishl X4 d22_11 (Int32.ofNat k) (shl0 _) 12 rfl ?_
  refine g_istoreN X4 d22_12 (Ls' := #[.val (.ref a), .val (.int (Int32.ofNat k)), .val (.int (Int32.ofNat cap)), .val (.int (Int32.ofNat k)), .unset, .unset]) rfl 13 rfl ?_
  refine g_iloadN X4 d22_13 rfl 14 rfl ?_
  refine g_iloadN X4 d22_14 rfl 15 rfl ?_
  refine g_isub X4 d22_15 (Int32.ofNat (k - cap)) (of_sub (by omega) (by omega)) 16 rfl ?_
  refine g_istore X4 d22_16 (Ls' := #[.val (.ref a), .val (.int (Int32.ofNat k)), .val (.int (Int32.ofNat cap)), .val (.int (Int32.ofNat k)), .val (.int (Int32.ofNat (k - cap))), .unset]) rfl 18 rfl ?_
  refine g_iloadN X4 d22_18 rfl 19 rfl ?_
  refine g_iload X4 d22_19 rfl 21 rfl ?_
  refine g_iloadN X4 d22_21 rfl 22 rfl ?_
  refine g_iconst X4 (2 : Int32) d22_22 (by decide) 23 rfl ?_
  refine g_aloadN X4 d22_23 rfl rfl 24 rfl ?_
  refine g_getF X4 (Or.inl (hw _ (List.mem_of_getElem? (i := 85) rfl))) (host := "") Via.refl C d22_24 27 rfl ?_
  intro T5 X6
  refine g_ishl X6 d22_27 (2 : Int32) (by decide) 28 rfl ?_
  refine g_iadd X6 d22_28 (Int32.ofNat (cap + 2)) (of_add cap 2) 29 rfl ?_
  refine g_callSp X6 (hw _ (List.mem_of_getElem? (i := 141) rfl)) (hw _ (List.mem_of_getElem? (i := 142) rfl)) (hw _ (List.mem_of_getElem? (i := 143) rfl)) (hw _ (List.mem_of_getElem? (i := 144) rfl)) (by decide) (c_nl l Z a0 G cap k h hk hk2 hcap) (by simp) (argsL := [.int (Int32.ofNat cap), .int (Int32.ofNat (k - cap)), .int (Int32.ofNat (cap + 2))]) (rest := []) pd_25 rfl rfl rfl rfl 0 (Nat.le_of_eq rfl) (by decide) (by decide) (ck := 0) rfl (cs := 0) rfl (by decide) (by decide) d22_29 32 rfl ?_
  intro w9 T7 X8 hq10
  subst hq10
  refine g_istore X8 d22_32 (Ls' := #[.val (.ref a), .val (.int (Int32.ofNat k)), .val (.int (Int32.ofNat cap)), .val (.int (Int32.ofNat k)), .val (.int (Int32.ofNat (k - cap))), .val (.int (Int32.ofNat (cap + (cap + 2))))]) rfl 34 rfl ?_
  refine g_iload X8 d22_34 rfl 36 rfl ?_
  refine g_ldcI X8 (hw _ (List.mem_of_getElem? (i := 150) rfl)) d22_36 38 rfl ?_
  refine g_icmpYes X8 d22_38 (XT.ii_ne_t (fun q => of_ne hcap (by decide) q)) 51 (by decide) (by decide) ?_
  refine g_iload X8 d22_51 rfl 53 rfl ?_
  refine g_aloadN X8 d22_53 rfl rfl 54 rfl ?_
  refine g_getF X8 (Or.inl (hw _ (List.mem_of_getElem? (i := 85) rfl))) (host := "") Via.refl C d22_54 57 rfl ?_
  intro T11 X12
  refine g_ishr X12 d22_57 (Int32.ofNat (cap + (cap + 2))) (shr0 _) 58 rfl ?_
  exact g_retI X12 rfl d22_58 (by decide) (by decide) ⟨rfl, _, rfl, rfl⟩
theorem d25_0 : decode jdk_65_method_121_code 0 = .ok (.iload_n 1, 1) := by decide +kernel
theorem d25_1 : decode jdk_65_method_121_code 1 = .ok (.aload_n 0, 1) := by decide +kernel
theorem d25_2 : decode jdk_65_method_121_code 2 = .ok (.arraylength, 1) := by decide +kernel
theorem d25_3 : decode jdk_65_method_121_code 3 = .ok (.if_icmp .ne 11, 3) := by decide +kernel
theorem d25_6 : decode jdk_65_method_121_code 6 = .ok (.aload_n 0, 1) := by decide +kernel
theorem d25_7 : decode jdk_65_method_121_code 7 = .ok (.invokevirtual 310, 3) := by decide +kernel
theorem d25_10 : decode jdk_65_method_121_code 10 = .ok (.checkcast 311, 3) := by decide +kernel
theorem d25_13 : decode jdk_65_method_121_code 13 = .ok (.areturn, 1) := by decide +kernel
theorem d25_14 : decode jdk_65_method_121_code 14 = .ok (.iload_n 1, 1) := by decide +kernel
theorem d25_15 : decode jdk_65_method_121_code 15 = .ok (.newarray .byte, 2) := by decide +kernel
theorem d25_17 : decode jdk_65_method_121_code 17 = .ok (.astore_n 2, 1) := by decide +kernel
theorem d25_18 : decode jdk_65_method_121_code 18 = .ok (.aload_n 0, 1) := by decide +kernel
theorem d25_19 : decode jdk_65_method_121_code 19 = .ok (.iconst 0, 1) := by decide +kernel
theorem d25_20 : decode jdk_65_method_121_code 20 = .ok (.aload_n 2, 1) := by decide +kernel
theorem d25_21 : decode jdk_65_method_121_code 21 = .ok (.iconst 0, 1) := by decide +kernel
theorem d25_22 : decode jdk_65_method_121_code 22 = .ok (.aload_n 0, 1) := by decide +kernel
theorem d25_23 : decode jdk_65_method_121_code 23 = .ok (.arraylength, 1) := by decide +kernel
theorem d25_24 : decode jdk_65_method_121_code 24 = .ok (.iload_n 1, 1) := by decide +kernel
theorem d25_25 : decode jdk_65_method_121_code 25 = .ok (.invokestatic 304, 3) := by decide +kernel
theorem d25_28 : decode jdk_65_method_121_code 28 = .ok (.invokestatic 150, 3) := by decide +kernel
theorem d25_31 : decode jdk_65_method_121_code 31 = .ok (.aload_n 2, 1) := by decide +kernel
theorem d25_32 : decode jdk_65_method_121_code 32 = .ok (.areturn, 1) := by decide +kernel
set_option maxRecDepth 65536 in
set_option maxHeartbeats 40000000 in
theorem c_co (l : Launch) (Z : State) (a0 : Array Value) (G : Gl Z a0) (b : Addr) (kb : ClassId) (cap cp : Nat) (cs : List Int32) (h : Heap) (A : Arv Z h b kb .byte (Int32.ofNat cap) (padB cap cs) (.int (0 : Int32))) (hlen : cs.length ≤ cap) (hlt : cap < cp) (hcp : cp ≤ 4000) (hB : cp ≤ 70) :
    Ctr l Z EL nw (⟨"java/util/Arrays", "copyOf", "([BI)[B"⟩ : MethodName) jdk_65_method_121_code 3 (Option.some (Jvm.ClassFile.FieldType.array Jvm.ClassFile.FieldType.byte)) ({ frames := 1, cells := 1, slots := 70, locals := 18 } : Room) #[.ref b, .int (Int32.ofNat cp)] h [] (ValQ fun w h' => ∃ (t : Addr) (kt : ClassId), w = .ref t ∧ Ext h h' ∧ h.size ≤ t ∧ Arv Z h' t kt .byte (Int32.ofNat cp) (padB cp cs) (.int (0 : Int32))) := by
  obtain ⟨hw, hEL, hSA, ⟨zc, SC, hz⟩, ⟨fm, SF, hfm⟩⟩ := id G
  refine Ctr.enter (own := "java/util/Arrays") (nm := "copyOf") rfl rfl hEL (plainFor_of_name pn_4) #[.val (.ref b), .val (.int (Int32.ofNat cp)), .unset] (fun m => by first | rfl | (simp [entryFrame, mkF, argsToLocals, Value.category, maxLocals]; done)) ?_
  intro p e s m below meth c T X
  refine g_iloadN X d25_0 rfl 1 rfl ?_
  refine g_aloadN X d25_1 rfl rfl 2 rfl ?_
  refine g_arrlen X A d25_2 3 rfl ?_
  refine g_icmpYes X d25_3 (XT.ii_ne_t (fun q => absurd (of_eq hcp (by omega) q) (by omega))) 14 (by decide) (by decide) ?_
  refine g_iloadN X d25_14 rfl 15 rfl ?_
  refine g_newP X (hw _ (List.mem_of_getElem? (i := 19) rfl)) d25_15 (of_nn hcp) 70 (by rw [of_nat hcp]; exact hB) (by decide) (ck := 1) rfl (cs := 70) rfl (by decide) (by decide) 17 rfl ?_
  intro a1 T2 h3 k4 ea5 X6 E7 A8
  have A9 : Arv Z h3 a1 k4 .byte (Int32.ofNat cp) (List.replicate (cp) (.int (0 : Int32))) (.int (0 : Int32)) := A8.pad (pad_rep [] _ (cp))
  have le_a1 : h.size ≤ a1 := by rw [ea5]; exact (Ext.refl h).1
  have ne_b_a1 : b ≠ a1 := by rw [ea5]; exact Nat.ne_of_lt A.lt
  refine g_astoreN X6 d25_17 rfl (Ls' := #[.val (.ref b), .val (.int (Int32.ofNat cp)), .val (.ref a1)]) rfl 18 rfl ?_
  refine g_aloadN X6 d25_18 rfl rfl 19 rfl ?_
  refine g_iconst X6 (0 : Int32) d25_19 (by decide) 20 rfl ?_
  refine g_aloadN X6 d25_20 rfl rfl 21 rfl ?_
  refine g_iconst X6 (0 : Int32) d25_21 (by decide) 22 rfl ?_
  refine g_aloadN X6 d25_22 rfl rfl 23 rfl ?_
  refine g_arrlen X6 (A.ext E7) d25_23 24 rfl ?_
  refine g_iloadN X6 d25_24 rfl 25 rfl ?_
  refine g_callSp X6 (hw _ (List.mem_of_getElem? (i := 155) rfl)) (hw _ (List.mem_of_getElem? (i := 156) rfl)) (hw _ (List.mem_of_getElem? (i := 147) rfl)) (hw _ (List.mem_of_getElem? (i := 157) rfl)) (by decide) (c_minL l Z a0 G (Int32.ofNat cap) (Int32.ofNat cp) h3 (of_le (by omega) hcp)) (by simp) (argsL := [.int (Int32.ofNat cap), .int (Int32.ofNat cp)]) (rest := [.int (0 : Int32), .ref a1, .int (0 : Int32), .ref b]) pd_24 rfl rfl rfl rfl 4 (Nat.le_of_eq rfl) (by decide) (by decide) (ck := 1) rfl (cs := 70) rfl (by decide) (by decide) d25_25 28 rfl ?_
  intro w12 T10 X11 hq13
  subst hq13
  refine g_arrcopy X11 (hw _ (List.mem_of_getElem? (i := 158) rfl)) (hw _ (List.mem_of_getElem? (i := 134) rfl)) (hw _ (List.mem_of_getElem? (i := 132) rfl)) (hw _ (List.mem_of_getElem? (i := 133) rfl)) (A.ext E7) A9 rfl (by decide) (by decide) (of_nn (by omega)) (by rw [clamp0, of_nat (by omega)]; omega) (by rw [clamp0, of_nat (by omega), of_nat (by omega)]; omega) (by rw [clamp0, of_nat (by omega), List.length_replicate]; omega) (padB cp cs) (pad_grow hlen (by omega) (by omega)) (by simp) rfl d25_28 (by decide) 0 (Nat.le_of_eq rfl) (by decide) 31 rfl ?_
  intro T14 h15 X16 K17 A18
  refine g_aloadN X16 d25_31 rfl rfl 32 rfl ?_
  exact g_retA X16 rfl rfl rfl d25_32 (by decide) (by decide) ⟨_, rfl, ⟨a1, _, rfl, (ext_keep ((Ext.refl h).trans E7) K17 (fun x hx => by cases List.mem_singleton.mp hx; exact le_a1)), le_a1, A18⟩⟩
set_option maxRecDepth 65536 in
set_option maxHeartbeats 40000000 in
theorem c_eciG (l : Launch) (Z : State) (a0 : Array Value) (G : Gl Z a0) (a b : Addr) (kb : ClassId) (cap k : Nat) (cs : List Int32) (h : Heap) (S : Sb Z h a b kb cap cs) (hk : cap < k) (hk2 : k ≤ cap + (cap + 1)) (hB' : (cap + (cap + 2)) ≤ 4000) (hB : (cap + (cap + 2)) ≤ 70) :
    Ctr l Z EL nw (⟨"java/lang/AbstractStringBuilder", "ensureCapacityInternal", "(I)V"⟩ : MethodName) jdk_68_method_9_code 3 (Option.none : Option Jvm.ClassFile.FieldType) ({ frames := 3, cells := 1, slots := 70, locals := 48 } : Room) #[.ref a, .int (Int32.ofNat k)] h [a] (VoidQ fun h' => ∃ (t : Addr) (kt : ClassId), Keep h h' [a] ∧ h.size ≤ t ∧ Sb Z h' a t kt (cap + (cap + 2)) cs) := by
  obtain ⟨hw, hEL, hSA, ⟨zc, SC, hz⟩, ⟨fm, SF, hfm⟩⟩ := id G
  refine Ctr.enter (own := "java/lang/AbstractStringBuilder") (nm := "ensureCapacityInternal") rfl rfl hEL (plainFor_of_name pn_2) #[.val (.ref a), .val (.int (Int32.ofNat k)), .unset] (fun m => by first | rfl | (simp [entryFrame, mkF, argsToLocals, Value.category, maxLocals]; done)) ?_
  intro p e s m below meth c T X
  obtain ⟨E, C, N, V, A, hcs, hlen, hcap, hab⟩ := id S
  refine g_aloadN X d18_0 rfl rfl 1 rfl ?_
  refine g_getF X (Or.inl (hw _ (List.mem_of_getElem? (i := 83) rfl))) (host := "") Via.refl V d18_1 4 rfl ?_
  intro T1 X2
  refine g_arrlen X2 A d18_4 5 rfl ?_
  refine g_aloadN X2 d18_5 rfl rfl 6 rfl ?_
  refine g_getF X2 (Or.inl (hw _ (List.mem_of_getElem? (i := 85) rfl))) (host := "") Via.refl C d18_6 9 rfl ?_
  intro T3 X4
  refine g_ishr X4 d18_9 (Int32.ofNat cap) (shr0 _) 10 rfl ?_
  refine g_istoreN X4 d18_10 (Ls' := #[.val (.ref a), .val (.int (Int32.ofNat k)), .val (.int (Int32.ofNat cap))]) rfl 11 rfl ?_
  refine g_iloadN X4 d18_11 rfl 12 rfl ?_
  refine g_iloadN X4 d18_12 rfl 13 rfl ?_
  refine g_isub X4 d18_13 _ rfl 14 rfl ?_
  refine g_ifNo X4 d18_14 (XT.ii_le_f (sub_gt hk (by omega))) 17 rfl ?_
  refine g_aloadN X4 d18_17 rfl rfl 18 rfl ?_
  refine g_aloadN X4 d18_18 rfl rfl 19 rfl ?_
  refine g_getF X4 (Or.inl (hw _ (List.mem_of_getElem? (i := 83) rfl))) (host := "") Via.refl V d18_19 22 rfl ?_
  intro T5 X6
  refine g_aloadN X6 d18_22 rfl rfl 23 rfl ?_
  refine g_iloadN X6 d18_23 rfl 24 rfl ?_
  refine g_callVp X6 (hw _ (List.mem_of_getElem? (i := 136) rfl)) (own_declares (hw _ (List.mem_of_getElem? (i := 137) rfl)) (hw _ (List.mem_of_getElem? (i := 140) rfl))) (hw _ (List.mem_of_getElem? (i := 139) rfl)) (hw _ (List.mem_of_getElem? (i := 137) rfl)) (hw _ (List.mem_of_getElem? (i := 79) rfl)) (hw _ (List.mem_of_getElem? (i := 140) rfl)) (nfSel (hw _ (List.mem_of_getElem? (i := 139) rfl))) (by decide) E (c_nc l Z a0 G a b kb cap k _ h C V A hk hk2 hB') (by simp) (argsL := [.int (Int32.ofNat k)]) (rest := [.ref b, .ref a]) pd_27 rfl rfl rfl rfl 2 (Nat.le_of_eq rfl) (by decide) (by decide) (ck := 0) rfl (cs := 0) rfl (by decide) (by decide) d18_24 27 rfl ?_
  intro w9 T7 X8 hq10
  subst hq10
  refine g_aloadN X8 d18_27 rfl rfl 28 rfl ?_
  refine g_getF X8 (Or.inl (hw _ (List.mem_of_getElem? (i := 85) rfl))) (host := "") Via.refl C d18_28 31 rfl ?_
  intro T11 X12
  refine g_ishl X12 d18_31 (Int32.ofNat (cap + (cap + 2))) (shl0 _) 32 rfl ?_
  refine g_callSv X12 (hw _ (List.mem_of_getElem? (i := 151) rfl)) (hw _ (List.mem_of_getElem? (i := 152) rfl)) (hw _ (List.mem_of_getElem? (i := 153) rfl)) (hw _ (List.mem_of_getElem? (i := 154) rfl)) (by decide) (c_co l Z a0 G b kb cap (cap + (cap + 2)) cs h A hlen (by omega) hB' hB) (by simp) (argsL := [.ref b, .int (Int32.ofNat (cap + (cap + 2)))]) (rest := [.ref a]) pd_26 rfl rfl rfl rfl 1 (Nat.le_of_eq rfl) (by decide) (by decide) (ck := 1) rfl (cs := 70) rfl (by decide) (by decide) d18_32 35 rfl ?_
  intro w15 T13 h17 X14 hq16
  obtain ⟨t18, k19, rfl, E20, le21, A22⟩ := hq16
  have ne_a_t18 : a ≠ t18 := Nat.ne_of_lt (Nat.lt_of_lt_of_le E.lt le21)
  refine g_putF X14 (Or.inl (hw _ (List.mem_of_getElem? (i := 83) rfl))) (host := "") Via.refl (V.ext E20) (E.ext E20) (Or.inl (hw _ (List.mem_of_getElem? (i := 84) rfl))) (hw _ (List.mem_of_getElem? (i := 70) rfl)) (ty := (.array .byte)) (by rfl) rfl rfl (by simp) d18_35 38 rfl ?_
  intro T23 h24 X25 W26 F27 E28
  exact g_ret X25 rfl d18_38 (by decide) (by decide) ⟨rfl, ⟨t18, _, (((Keep.refl h [a]).ext E20).wr W26 (Or.inl (by simp))), le21, E28, ((C.ext E20).other W26 (Or.inr (slot_ne (Or.inl (hw _ (List.mem_of_getElem? (i := 86) rfl))) (Or.inl (hw _ (List.mem_of_getElem? (i := 84) rfl))) (by decide) (by rfl) (by rfl)))), ((N.ext E20).other W26 (Or.inr (slot_ne (Or.inl (hw _ (List.mem_of_getElem? (i := 109) rfl))) (Or.inl (hw _ (List.mem_of_getElem? (i := 84) rfl))) (by decide) (by rfl) (by rfl)))), F27, (A22.other W26 (Ne.symm ne_a_t18)), hcs, (by omega), hB', ne_a_t18⟩⟩
set_option maxRecDepth 65536 in
set_option maxHeartbeats 40000000 in
theorem c_asaG (l : Launch) (Z : State) (a0 : Array Value) (G : Gl Z a0) (a u t b : Addr) (kt kb : ClassId) (cap : Nat) (cs ds : List Int32) (h : Heap) (S : Sb Z h a b kb cap cs) (Eu : Exa Z h u "java/lang/String") (Cu : Fld Z h u "java/lang/String" "coder" "B" (.int (0 : Int32))) (Vu : Fld Z h u "java/lang/String" "value" "[B" (.ref t)) (At : Arv Z h t kt .byte (Int32.ofNat ds.length) (bys ds) (.int (0 : Int32))) (hds : ∀ c ∈ ds, ¬ c < 0 ∧ ¬ (255 : Int32) < c) (hdl : ds.length ≤ 4000) (hau : a ≠ u) (hat : a ≠ t) (hel : (cap + (cap + 2)) ∈ CAPS) (hk : cap < cs.length + ds.length) (hk2 : cs.length + ds.length ≤ cap + (cap + 1)) (hB' : (cap + (cap + 2)) ≤ 4000) (hB : (cap + (cap + 2)) ≤ 70) :
    Ctr l Z EL nw (⟨"java/lang/AbstractStringBuilder", "append", "(Ljava/lang/String;)Ljava/lang/AbstractStringBuilder;"⟩ : MethodName) jdk_68_method_22_code 3 (Option.some (Jvm.ClassFile.FieldType.object "java/lang/AbstractStringBuilder")) ({ frames := 4, cells := 1, slots := 70, locals := 62 } : Room) #[.ref a, .ref u] h [a] (ValQ fun w h' => w = .ref a ∧ ∃ (b' : Addr) (kb' : ClassId), Keep h h' [a] ∧ h.size ≤ b' ∧ Sb Z h' a b' kb' (cap + (cap + 2)) (cs ++ ds)) := by
  obtain ⟨hw, hEL, hSA, ⟨zc, SC, hz⟩, ⟨fm, SF, hfm⟩⟩ := id G
  refine Ctr.enter (own := "java/lang/AbstractStringBuilder") (nm := "append") rfl rfl hEL (plainFor_of_name pn_2) #[.val (.ref a), .val (.ref u), .unset] (fun m => by first | rfl | (simp [entryFrame, mkF, argsToLocals, Value.category, maxLocals]; done)) ?_
  intro p e s m below meth c T X
  obtain ⟨E, C, N, V, A, hcs, hlen, hcap, hab⟩ := id S
  refine g_aloadN X d15_0 rfl rfl 1 rfl ?_
  refine g_ifnonnullYes X d15_1 9 (by decide) (by decide) ?_
  refine g_aloadN X d15_9 rfl rfl 10 rfl ?_
  refine g_callVp X (hw _ (List.mem_of_getElem? (i := 98) rfl)) (hw _ (List.mem_of_getElem? (i := 99) rfl)) (hw _ (List.mem_of_getElem? (i := 101) rfl)) (hw _ (List.mem_of_getElem? (i := 100) rfl)) (hw _ (List.mem_of_getElem? (i := 3) rfl)) (hw _ (List.mem_of_getElem? (i := 102) rfl)) (nfSel (hw _ (List.mem_of_getElem? (i := 101) rfl))) (by decide) Eu (c_len l Z a0 G u t kt ds h Eu Cu Vu At hds hdl) (by simp) (argsL := []) (rest := []) pd_4 rfl rfl rfl rfl 0 (Nat.le_of_eq rfl) (by decide) (by decide) (ck := 0) rfl (cs := 0) rfl (by decide) (by decide) d15_10 13 rfl ?_
  intro w3 T1 X2 hq4
  subst hq4
  refine g_istoreN X2 d15_13 (Ls' := #[.val (.ref a), .val (.ref u), .val (.int (Int32.ofNat ds.length))]) rfl 14 rfl ?_
  refine g_aloadN X2 d15_14 rfl rfl 15 rfl ?_
  refine g_aloadN X2 d15_15 rfl rfl 16 rfl ?_
  refine g_getF X2 (Or.inl (hw _ (List.mem_of_getElem? (i := 108) rfl))) (host := "") Via.refl N d15_16 19 rfl ?_
  intro T5 X6
  refine g_iloadN X6 d15_19 rfl 20 rfl ?_
  refine g_iadd X6 d15_20 (Int32.ofNat (cs.length + ds.length)) (of_add _ _) 21 rfl ?_
  refine g_callVn X6 (hw _ (List.mem_of_getElem? (i := 110) rfl)) (own_declares (hw _ (List.mem_of_getElem? (i := 111) rfl)) (hw _ (List.mem_of_getElem? (i := 114) rfl))) (hw _ (List.mem_of_getElem? (i := 113) rfl)) (hw _ (List.mem_of_getElem? (i := 111) rfl)) (hw _ (List.mem_of_getElem? (i := 79) rfl)) (hw _ (List.mem_of_getElem? (i := 114) rfl)) (nfSel (hw _ (List.mem_of_getElem? (i := 113) rfl))) (by decide) E (c_eciG l Z a0 G a b kb cap (cs.length + ds.length) cs h S hk hk2 hB' hB) (by simp) (argsL := [.int (Int32.ofNat (cs.length + ds.length))]) (rest := []) pd_13 rfl rfl rfl rfl 0 (Nat.le_of_eq rfl) (by decide) (by decide) (ck := 1) rfl (cs := 70) rfl (by decide) (by decide) d15_21 24 rfl ?_
  intro T7 h10 X8 hq9
  obtain ⟨b', kb', hK1, hL1, S1⟩ := hq9
  obtain ⟨E1, C1, N1, V1, A1, _, hlen1, hcap1, hab1⟩ := id S1
  have X11 := X8.add (elL hw (cap + (cap + 2)) hel) A1 (Nat.le_trans X.old.1 hL1)
  refine g_aloadN X11 d15_24 rfl rfl 25 rfl ?_
  refine g_aloadN X11 d15_25 rfl rfl 26 rfl ?_
  refine g_getF X11 (Or.inl (hw _ (List.mem_of_getElem? (i := 108) rfl))) (host := "") Via.refl N1 d15_26 29 rfl ?_
  intro T12 X13
  refine g_aloadN X13 d15_29 rfl rfl 30 rfl ?_
  refine g_callVn X13 (hw _ (List.mem_of_getElem? (i := 115) rfl)) (own_declares (hw _ (List.mem_of_getElem? (i := 116) rfl)) (hw _ (List.mem_of_getElem? (i := 119) rfl))) (hw _ (List.mem_of_getElem? (i := 118) rfl)) (hw _ (List.mem_of_getElem? (i := 116) rfl)) (hw _ (List.mem_of_getElem? (i := 79) rfl)) (hw _ (List.mem_of_getElem? (i := 119) rfl)) (nfSel (hw _ (List.mem_of_getElem? (i := 118) rfl))) (by decide) E1 (c_psa l Z a0 G a u t b' kt kb' (cap + (cap + 2)) cs ds h10 E1 C1 V1 (Eu.keep hK1) (Cu.keep hK1 (ninS (Ne.symm hau) nin0)) (Vu.keep hK1 (ninS (Ne.symm hau) nin0)) (At.keep hK1 (ninS (Ne.symm hat) nin0)) hds hdl A1 (by omega) hcap1) (by simp) (argsL := [.int (Int32.ofNat cs.length), .ref u]) (rest := []) pd_16 rfl rfl rfl rfl 0 (Nat.le_of_eq rfl) (by decide) (by decide) (ck := 1) rfl (cs := 70) rfl (by decide) (by decide) d15_30 33 rfl ?_
  intro T14 h17 X15 hq16
  obtain ⟨K18, A19⟩ := hq16
  refine g_aloadN X15 d15_33 rfl rfl 34 rfl ?_
  refine g_dup X15 d15_34 rfl 35 rfl ?_
  refine g_getF X15 (Or.inl (hw _ (List.mem_of_getElem? (i := 108) rfl))) (host := "") Via.refl (N1.keep K18 (ninS hab1 nin0)) d15_35 38 rfl ?_
  intro T20 X21
  refine g_iloadN X21 d15_38 rfl 39 rfl ?_
  refine g_iadd X21 d15_39 (Int32.ofNat (cs.length + ds.length)) (of_add _ _) 40 rfl ?_
  refine g_putF X21 (Or.inl (hw _ (List.mem_of_getElem? (i := 108) rfl))) (host := "") Via.refl (N1.keep K18 (ninS hab1 nin0)) (E1.keep K18) (Or.inl (hw _ (List.mem_of_getElem? (i := 109) rfl))) (hw _ (List.mem_of_getElem? (i := 70) rfl)) (ty := .int) (by rfl) rfl rfl (by simp) d15_40 43 rfl ?_
  intro T22 h23 X24 W25 F26 E27
  refine g_aloadN X24 d15_43 rfl rfl 44 rfl ?_
  exact g_retA X24 rfl rfl rfl d15_44 (by decide) (by decide) ⟨_, rfl, ⟨rfl, b', kb', ((((Keep.refl h [a]).trans hK1 (by simp)).trans K18 (fun x hx => by cases List.mem_singleton.mp hx; exact Or.inr hL1)).wr W25 (Or.inl (by simp))), hL1, E27, ((C1.keep K18 (ninS hab1 nin0)).other W25 (Or.inr (slot_ne (Or.inl (hw _ (List.mem_of_getElem? (i := 86) rfl))) (Or.inl (hw _ (List.mem_of_getElem? (i := 109) rfl))) (by decide) (by rfl) (by rfl)))), (by rw [List.length_append]; exact F26), ((V1.keep K18 (ninS hab1 nin0)).other W25 (Or.inr (slot_ne (Or.inl (hw _ (List.mem_of_getElem? (i := 84) rfl))) (Or.inl (hw _ (List.mem_of_getElem? (i := 109) rfl))) (by decide) (by rfl) (by rfl)))), (A19.other W25 (Ne.symm hab1)), ok_app hcs hds, (by rw [List.length_append]; omega), hcap1, hab1⟩⟩
set_option maxRecDepth 65536 in
set_option maxHeartbeats 40000000 in
theorem c_sbaG (l : Launch) (Z : State) (a0 : Array Value) (G : Gl Z a0) (a u t b : Addr) (kt kb : ClassId) (cap : Nat) (cs ds : List Int32) (h : Heap) (S : Sb Z h a b kb cap cs) (Eu : Exa Z h u "java/lang/String") (Cu : Fld Z h u "java/lang/String" "coder" "B" (.int (0 : Int32))) (Vu : Fld Z h u "java/lang/String" "value" "[B" (.ref t)) (At : Arv Z h t kt .byte (Int32.ofNat ds.length) (bys ds) (.int (0 : Int32))) (hds : ∀ c ∈ ds, ¬ c < 0 ∧ ¬ (255 : Int32) < c) (hdl : ds.length ≤ 4000) (hau : a ≠ u) (hat : a ≠ t) (hel : (cap + (cap + 2)) ∈ CAPS) (hk : cap < cs.length + ds.length) (hk2 : cs.length + ds.length ≤ cap + (cap + 1)) (hB' : (cap + (cap + 2)) ≤ 4000) (hB : (cap + (cap + 2)) ≤ 70) :
    Ctr l Z EL nw (⟨"java/lang/StringBuilder", "append", "(Ljava/lang/String;)Ljava/lang/StringBuilder;"⟩ : MethodName) jdk_67_method_7_code 2 (Option.some (Jvm.ClassFile.FieldType.object "java/lang/StringBuilder")) ({ frames := 5, cells := 1, slots := 70, locals := 76 } : Room) #[.ref a, .ref u] h [a] (ValQ fun w h' => w = .ref a ∧ ∃ (b' : Addr) (kb' : ClassId), Keep h h' [a] ∧ h.size ≤ b' ∧ Sb Z h' a b' kb' (cap + (cap + 2)) (cs ++ ds)) := by
  obtain ⟨hw, hEL, hSA, ⟨zc, SC, hz⟩, ⟨fm, SF, hfm⟩⟩ := id G
  refine Ctr.enter (own := "java/lang/StringBuilder") (nm := "append") rfl rfl hEL (plainFor_of_name pn_3) #[.val (.ref a), .val (.ref u)] (fun m => by first | rfl | (simp [entryFrame, mkF, argsToLocals, Value.category, maxLocals]; done)) ?_
  intro p e s m below meth c T X
  refine g_aloadN X d14_0 rfl rfl 1 rfl ?_
  refine g_aloadN X d14_1 rfl rfl 2 rfl ?_
  refine g_callUv X (by decide) (hw _ (List.mem_of_getElem? (i := 93) rfl)) (own_same (hw _ (List.mem_of_getElem? (i := 94) rfl)) (hw _ (List.mem_of_getElem? (i := 113) rfl)) rfl (by decide)) (hw _ (List.mem_of_getElem? (i := 94) rfl)) (hw _ (List.mem_of_getElem? (i := 95) rfl)) (hw _ (List.mem_of_getElem? (i := 79) rfl)) (hw _ (List.mem_of_getElem? (i := 97) rfl)) S.1 (c_asaG l Z a0 G a u t b kt kb cap cs ds h S Eu Cu Vu At hds hdl hau hat hel hk hk2 hB' hB) (by simp) (argsL := [.ref u]) (rest := []) pd_15 rfl rfl rfl rfl 0 (Nat.le_of_eq rfl) (by decide) (by decide) (ck := 1) rfl (cs := 70) rfl (by decide) (by decide) d14_2 5 rfl ?_
  intro w3 T1 h5 X2 hq4
  obtain ⟨rfl, hR⟩ := hq4
  refine g_pop X2 d14_5 rfl 6 rfl ?_
  refine g_aloadN X2 d14_6 rfl rfl 7 rfl ?_
  exact g_retA X2 rfl rfl rfl d14_7 (by decide) (by decide) ⟨_, rfl, ⟨rfl, hR⟩⟩
theorem d7_0 : decode method_2_code 0 = .ok (.iconst 2, 1) := by decide +kernel
theorem d7_1 : decode method_2_code 1 = .ok (.newarray .char, 2) := by decide +kernel
theorem d7_3 : decode method_2_code 3 = .ok (.dup, 1) := by decide +kernel
theorem d7_4 : decode method_2_code 4 = .ok (.iconst 0, 1) := by decide +kernel
theorem d7_5 : decode method_2_code 5 = .ok (.iload_n 0, 1) := by decide +kernel
theorem d7_6 : decode method_2_code 6 = .ok (.sipush 255, 3) := by decide +kernel
theorem d7_9 : decode method_2_code 9 = .ok (.iand, 1) := by decide +kernel
theorem d7_10 : decode method_2_code 10 = .ok (.i2c, 1) := by decide +kernel
theorem d7_11 : decode method_2_code 11 = .ok (.castore, 1) := by decide +kernel
theorem d7_12 : decode method_2_code 12 = .ok (.dup, 1) := by decide +kernel
theorem d7_13 : decode method_2_code 13 = .ok (.iconst 1, 1) := by decide +kernel
theorem d7_14 : decode method_2_code 14 = .ok (.iload_n 0, 1) := by decide +kernel
theorem d7_15 : decode method_2_code 15 = .ok (.bipush 8, 2) := by decide +kernel
theorem d7_17 : decode method_2_code 17 = .ok (.iushr, 1) := by decide +kernel
theorem d7_18 : decode method_2_code 18 = .ok (.sipush 255, 3) := by decide +kernel
theorem d7_21 : decode method_2_code 21 = .ok (.iand, 1) := by decide +kernel
theorem d7_22 : decode method_2_code 22 = .ok (.i2c, 1) := by decide +kernel
theorem d7_23 : decode method_2_code 23 = .ok (.castore, 1) := by decide +kernel
theorem d7_24 : decode method_2_code 24 = .ok (.astore_n 1, 1) := by decide +kernel
theorem d7_25 : decode method_2_code 25 = .ok (.new 7, 3) := by decide +kernel
theorem d7_28 : decode method_2_code 28 = .ok (.dup, 1) := by decide +kernel
theorem d7_29 : decode method_2_code 29 = .ok (.aload_n 1, 1) := by decide +kernel
theorem d7_30 : decode method_2_code 30 = .ok (.invokespecial 9, 3) := by decide +kernel
theorem d7_33 : decode method_2_code 33 = .ok (.areturn, 1) := by decide +kernel
theorem pn_6 : plainName "com/example/sitesd/sitesd/model/UserToStringPinLaw" = true := by first | (simp [plainName, overriddenIn]; done) | decide +kernel
set_option maxRecDepth 65536 in
set_option maxHeartbeats 40000000 in
theorem c_two (l : Launch) (Z : State) (a0 : Array Value) (G : Gl Z a0) (x0 : Int32) (us : List Addr) (h : Heap)  :
    Ctr l Z EL nw (⟨"com/example/sitesd/sitesd/model/UserToStringPinLaw", "two", "(I)Ljava/lang/String;"⟩ : MethodName) method_2_code 2 (Option.some (Jvm.ClassFile.FieldType.object "java/lang/String")) ({ frames := 4, cells := 3, slots := 8, locals := 66 } : Room) #[.int x0] h us (ValQ fun w h' => ∃ a, w = .ref a ∧ Ext h h' ∧ Str Z h' us a [x0 &&& (255 : Int32), XT.ushr x0 (8 : Int32) &&& (255 : Int32)]) := by
  obtain ⟨hw, hEL, hSA, ⟨zc, SC, hz⟩, ⟨fm, SF, hfm⟩⟩ := id G
  refine Ctr.enter (own := "com/example/sitesd/sitesd/model/UserToStringPinLaw") (nm := "two") rfl rfl hEL (plainFor_of_name pn_6) #[.val (.int x0), .unset] (fun m => by first | rfl | (simp [entryFrame, mkF, argsToLocals, Value.category, maxLocals]; done)) ?_
  intro p e s m below meth c T X
  refine g_iconst X (2 : Int32) d7_0 (by decide) 1 rfl ?_
  refine g_newP X (hw _ (List.mem_of_getElem? (i := 0) rfl)) d7_1 (by decide) 2 (by decide) (by decide) (ck := 1) rfl (cs := 2) rfl (by decide) (by decide) 3 rfl ?_
  intro a1 T2 h3 k4 ea5 X6 E7 A8
  have A9 : Arv Z h3 a1 k4 .char (2 : Int32) [.int (0 : Int32), .int (0 : Int32)] (.int (0 : Int32)) := A8.pad (fun i => by rcases i with _ | _ | _ | _ | _ | i <;> rfl)
  have le_a1 : h.size ≤ a1 := by rw [ea5]; exact (Ext.refl h).1
  refine g_dup X6 d7_3 rfl 4 rfl ?_
  refine g_iconst X6 (0 : Int32) d7_4 (by decide) 5 rfl ?_
  refine g_iloadN X6 d7_5 rfl 6 rfl ?_
  refine g_sipush X6 (255 : Int32) d7_6 (by decide) 9 rfl ?_
  refine g_iand X6 d7_9 _ rfl 10 rfl ?_
  refine g_i2c X6 d7_10 (x0 &&& (255 : Int32)) (i2c_mask _) 11 rfl ?_
  refine g_castore X6 A9 0 (by decide) (by decide) (by decide) (by simp) (x0 &&& (255 : Int32)) (nar_mask _) (by simp) d7_11 12 rfl ?_
  intro T10 h11 X12 W13 B15
  have A14 : Arv Z h11 a1 k4 .char (2 : Int32) [.int (x0 &&& (255 : Int32)), .int (0 : Int32)] (.int (0 : Int32)) := B15
  refine g_dup X12 d7_12 rfl 13 rfl ?_
  refine g_iconst X12 (1 : Int32) d7_13 (by decide) 14 rfl ?_
  refine g_iloadN X12 d7_14 rfl 15 rfl ?_
  refine g_bipush X12 (8 : Int32) d7_15 (by decide) 17 rfl ?_
  refine g_iushr X12 d7_17 _ rfl 18 rfl ?_
  refine g_sipush X12 (255 : Int32) d7_18 (by decide) 21 rfl ?_
  refine g_iand X12 d7_21 _ rfl 22 rfl ?_
  refine g_i2c X12 d7_22 ((XT.ushr x0 (8 : Int32)) &&& (255 : Int32)) (i2c_mask _) 23 rfl ?_
  refine g_castore X12 A14 1 (by decide) (by decide) (by decide) (by simp) ((XT.ushr x0 (8 : Int32)) &&& (255 : Int32)) (nar_mask _) (by simp) d7_23 24 rfl ?_
  intro T16 h17 X18 W19 B21
  have A20 : Arv Z h17 a1 k4 .char (2 : Int32) [.int (x0 &&& (255 : Int32)), .int ((XT.ushr x0 (8 : Int32)) &&& (255 : Int32))] (.int (0 : Int32)) := B21
  refine g_astoreN X18 d7_24 rfl (Ls' := #[.val (.int x0), .val (.ref a1)]) rfl 25 rfl ?_
  refine g_new X18 (hw _ (List.mem_of_getElem? (i := 1) rfl)) (hw _ (List.mem_of_getElem? (i := 2) rfl)) (hw _ (List.mem_of_getElem? (i := 3) rfl)) d7_25 (ck := 2) rfl (cs := 6) rfl (by decide) (by decide) 28 rfl ?_
  intro a22 T23 h24 ea25 X26 E27 A28 D29
  have le_a22 : h.size ≤ a22 := by rw [ea25]; exact (ext_wr (ext_wr ((Ext.refl h).trans E7) W13 le_a1) W19 le_a1).1
  have ne_a1_a22 : a1 ≠ a22 := by rw [ea25]; exact Nat.ne_of_lt A20.lt
  have F30 : Fld Z h24 a22 "java/lang/String" "value" "[B" (.null) := D29 (Or.inr (hw _ (List.mem_of_getElem? (i := 29) rfl))) (ty := (.array .byte)) (by rfl)
  have F31 : Fld Z h24 a22 "java/lang/String" "coder" "B" (.int (0 : Int32)) := D29 (Or.inr (hw _ (List.mem_of_getElem? (i := 27) rfl))) (ty := .byte) (by rfl)
  refine g_dup X26 d7_28 rfl 29 rfl ?_
  refine g_aloadN X26 d7_29 rfl rfl 30 rfl ?_
  refine g_strNew X26 (cs := [x0 &&& (255 : Int32), (XT.ushr x0 (8 : Int32)) &&& (255 : Int32)]) (hw _ (List.mem_of_getElem? (i := 4) rfl)) (hw _ (List.mem_of_getElem? (i := 5) rfl)) (hw _ (List.mem_of_getElem? (i := 6) rfl)) (hwsV hw) (hw _ (List.mem_of_getElem? (i := 2) rfl)) (SC.ext X26.old) hz A28 F30 F31 (A20.ext E27) rfl 2 rfl rfl (by decide) (by decide) (by intro c hc; simp only [List.mem_cons, List.not_mem_nil, or_false] at hc; rcases hc with rfl | rfl <;> first | decide | exact and255 _) (by simp) rfl 1 (Nat.le_of_eq rfl) (by decide) (by decide) (ck := 3) rfl (cs' := 8) rfl (by decide) (by decide) d7_30 33 rfl ?_
  intro T32 h33 X34 K35 Q36
  have S37 : Str Z h33 (us) a22 [x0 &&& (255 : Int32), (XT.ushr x0 (8 : Int32)) &&& (255 : Int32)] := str_of Q36 X.news le_a22 ((ext_wr (ext_wr ((Ext.refl h).trans E7) W13 le_a1) W19 le_a1).trans E27).1
  have X38 := X34.sub (us' := us) (by intro x hx; simp [hx])
  exact g_retA X38 rfl rfl rfl d7_33 (by decide) (by decide) ⟨_, rfl, ⟨a22, rfl, (ext_keep ((ext_wr (ext_wr ((Ext.refl h).trans E7) W13 le_a1) W19 le_a1).trans E27) K35 (fun x hx => by cases List.mem_singleton.mp hx; exact le_a22)), S37⟩⟩
theorem d9_0 : decode jdk_30_method_1_code 0 = .ok (.aload_n 0, 1) := by decide +kernel
theorem d9_1 : decode jdk_30_method_1_code 1 = .ok (.invokespecial 1, 3) := by decide +kernel
theorem d9_4 : decode jdk_30_method_1_code 4 = .ok (.return_, 1) := by decide +kernel
theorem pn_7 : plainName "java/lang/Record" = true := by first | (simp [plainName, overriddenIn]; done) | decide +kernel
set_option maxRecDepth 65536 in
set_option maxHeartbeats 40000000 in
theorem c_rec (l : Launch) (Z : State) (a0 : Array Value) (G : Gl Z a0) (j : Addr) (h : Heap)  :
    Ctr l Z EL nw (⟨"java/lang/Record", "<init>", "()V"⟩ : MethodName) jdk_30_method_1_code 1 (Option.none : Option Jvm.ClassFile.FieldType) ({ frames := 1, cells := 0, slots := 0, locals := 12 } : Room) #[.ref j] h [] (VoidQ fun h' => h = h') := by
  obtain ⟨hw, hEL, hSA, ⟨zc, SC, hz⟩, ⟨fm, SF, hfm⟩⟩ := id G
  refine Ctr.enter (own := "java/lang/Record") (nm := "<init>") rfl rfl hEL (plainFor_of_name pn_7) #[.val (.ref j)] (fun m => by first | rfl | (simp [entryFrame, mkF, argsToLocals, Value.category, maxLocals]; done)) ?_
  intro p e s m below meth c T X
  refine g_aloadN X d9_0 rfl rfl 1 rfl ?_
  refine g_initO X (hw _ (List.mem_of_getElem? (i := 45) rfl)) (hw _ (List.mem_of_getElem? (i := 12) rfl)) (hw _ (List.mem_of_getElem? (i := 13) rfl)) rfl d9_1 (by decide) 0 (Nat.le_of_eq rfl) (by decide) 4 rfl ?_
  intro T1 X2
  exact g_ret X2 rfl d9_4 (by decide) (by decide) ⟨rfl, rfl⟩
theorem d10_0 : decode jdk_31_method_11_code 0 = .ok (.aload_n 0, 1) := by decide +kernel
theorem d10_1 : decode jdk_31_method_11_code 1 = .ok (.ifnonnull 12, 3) := by decide +kernel
theorem d10_4 : decode jdk_31_method_11_code 4 = .ok (.new 84, 3) := by decide +kernel
theorem d10_7 : decode jdk_31_method_11_code 7 = .ok (.dup, 1) := by decide +kernel
theorem d10_8 : decode jdk_31_method_11_code 8 = .ok (.aload_n 1, 1) := by decide +kernel
theorem d10_9 : decode jdk_31_method_11_code 9 = .ok (.invokespecial 87, 3) := by decide +kernel
theorem d10_12 : decode jdk_31_method_11_code 12 = .ok (.athrow, 1) := by decide +kernel
theorem d10_13 : decode jdk_31_method_11_code 13 = .ok (.aload_n 0, 1) := by decide +kernel
theorem d10_14 : decode jdk_31_method_11_code 14 = .ok (.areturn, 1) := by decide +kernel
theorem pn_8 : plainName "java/util/Objects" = true := by first | (simp [plainName, overriddenIn]; done) | decide +kernel
set_option maxRecDepth 65536 in
set_option maxHeartbeats 40000000 in
theorem c_rnn (l : Launch) (Z : State) (a0 : Array Value) (G : Gl Z a0) (a b : Addr) (h : Heap)  :
    Ctr l Z EL nw (⟨"java/util/Objects", "requireNonNull", "(Ljava/lang/Object;Ljava/lang/String;)Ljava/lang/Object;"⟩ : MethodName) jdk_31_method_11_code 2 (Option.some (Jvm.ClassFile.FieldType.object "java/lang/Object")) ({ frames := 0, cells := 0, slots := 0, locals := 0 } : Room) #[.ref a, .ref b] h [] (PureQ h fun w => w = .ref a) := by
  obtain ⟨hw, hEL, hSA, ⟨zc, SC, hz⟩, ⟨fm, SF, hfm⟩⟩ := id G
  refine Ctr.enter (own := "java/util/Objects") (nm := "requireNonNull") rfl rfl hEL (plainFor_of_name pn_8) #[.val (.ref a), .val (.ref b)] (fun m => by first | rfl | (simp [entryFrame, mkF, argsToLocals, Value.category, maxLocals]; done)) ?_
  intro p e s m below meth c T X
  refine g_aloadN X d10_0 rfl rfl 1 rfl ?_
  refine g_ifnonnullYes X d10_1 13 (by decide) (by decide) ?_
  refine g_aloadN X d10_13 rfl rfl 14 rfl ?_
  exact g_retA X rfl rfl rfl d10_14 (by decide) (by decide) ⟨rfl, _, rfl, rfl⟩
theorem d8_0 : decode prog_19_method_1_code 0 = .ok (.aload_n 0, 1) := by decide +kernel
theorem d8_1 : decode prog_19_method_1_code 1 = .ok (.invokespecial 1, 3) := by decide +kernel
theorem d8_4 : decode prog_19_method_1_code 4 = .ok (.aload_n 1, 1) := by decide +kernel
theorem d8_5 : decode prog_19_method_1_code 5 = .ok (.ldc 7, 2) := by decide +kernel
theorem d8_7 : decode prog_19_method_1_code 7 = .ok (.invokestatic 9, 3) := by decide +kernel
theorem d8_10 : decode prog_19_method_1_code 10 = .ok (.pop, 1) := by decide +kernel
theorem d8_11 : decode prog_19_method_1_code 11 = .ok (.aload_n 2, 1) := by decide +kernel
theorem d8_12 : decode prog_19_method_1_code 12 = .ok (.ldc 15, 2) := by decide +kernel
theorem d8_14 : decode prog_19_method_1_code 14 = .ok (.invokestatic 9, 3) := by decide +kernel
theorem d8_17 : decode prog_19_method_1_code 17 = .ok (.pop, 1) := by decide +kernel
theorem d8_18 : decode prog_19_method_1_code 18 = .ok (.aload_n 3, 1) := by decide +kernel
theorem d8_19 : decode prog_19_method_1_code 19 = .ok (.ldc 17, 2) := by decide +kernel
theorem d8_21 : decode prog_19_method_1_code 21 = .ok (.invokestatic 9, 3) := by decide +kernel
theorem d8_24 : decode prog_19_method_1_code 24 = .ok (.pop, 1) := by decide +kernel
theorem d8_25 : decode prog_19_method_1_code 25 = .ok (.aload 4, 2) := by decide +kernel
theorem d8_27 : decode prog_19_method_1_code 27 = .ok (.ldc 19, 2) := by decide +kernel
theorem d8_29 : decode prog_19_method_1_code 29 = .ok (.invokestatic 9, 3) := by decide +kernel
theorem d8_32 : decode prog_19_method_1_code 32 = .ok (.pop, 1) := by decide +kernel
theorem d8_33 : decode prog_19_method_1_code 33 = .ok (.aload_n 0, 1) := by decide +kernel
theorem d8_34 : decode prog_19_method_1_code 34 = .ok (.aload_n 1, 1) := by decide +kernel
theorem d8_35 : decode prog_19_method_1_code 35 = .ok (.putfield 21, 3) := by decide +kernel
theorem d8_38 : decode prog_19_method_1_code 38 = .ok (.aload_n 0, 1) := by decide +kernel
theorem d8_39 : decode prog_19_method_1_code 39 = .ok (.aload_n 2, 1) := by decide +kernel
theorem d8_40 : decode prog_19_method_1_code 40 = .ok (.putfield 26, 3) := by decide +kernel
theorem d8_43 : decode prog_19_method_1_code 43 = .ok (.aload_n 0, 1) := by decide +kernel
theorem d8_44 : decode prog_19_method_1_code 44 = .ok (.aload_n 3, 1) := by decide +kernel
theorem d8_45 : decode prog_19_method_1_code 45 = .ok (.putfield 28, 3) := by decide +kernel
theorem d8_48 : decode prog_19_method_1_code 48 = .ok (.aload_n 0, 1) := by decide +kernel
theorem d8_49 : decode prog_19_method_1_code 49 = .ok (.aload 4, 2) := by decide +kernel
theorem d8_51 : decode prog_19_method_1_code 51 = .ok (.putfield 30, 3) := by decide +kernel
theorem d8_54 : decode prog_19_method_1_code 54 = .ok (.return_, 1) := by decide +kernel
theorem pn_9 : plainName "com/example/sitesd/sitesd/model/User" = true := by first | (simp [plainName, overriddenIn]; done) | decide +kernel
set_option maxRecDepth 65536 in
set_option maxHeartbeats 40000000 in
theorem c_uinit (l : Launch) (Z : State) (a0 : Array Value) (G : Gl Z a0) (j a0' a1 a2 a3 : Addr) (h : Heap) (E : Exa Z h j "com/example/sitesd/sitesd/model/User") (F0 : Fld Z h j "com/example/sitesd/sitesd/model/User" "id" "Ljava/lang/String;" .null) (F1 : Fld Z h j "com/example/sitesd/sitesd/model/User" "name" "Ljava/lang/String;" .null) (F2 : Fld Z h j "com/example/sitesd/sitesd/model/User" "displayName" "Ljava/lang/String;" .null) (F3 : Fld Z h j "com/example/sitesd/sitesd/model/User" "token" "Ljava/lang/String;" .null) :
    Ctr l Z EL nw (⟨"com/example/sitesd/sitesd/model/User", "<init>", "(Ljava/lang/String;Ljava/lang/String;Ljava/lang/String;Ljava/lang/String;)V"⟩ : MethodName) prog_19_method_1_code 5 (Option.none : Option Jvm.ClassFile.FieldType) ({ frames := 2, cells := 8, slots := 104, locals := 24 } : Room) #[.ref j, .ref a0', .ref a1, .ref a2, .ref a3] h [j] (VoidQ fun h' => Keep h h' [j] ∧ Exa Z h' j "com/example/sitesd/sitesd/model/User" ∧ Fld Z h' j "com/example/sitesd/sitesd/model/User" "id" "Ljava/lang/String;" (.ref a0') ∧ Fld Z h' j "com/example/sitesd/sitesd/model/User" "name" "Ljava/lang/String;" (.ref a1) ∧ Fld Z h' j "com/example/sitesd/sitesd/model/User" "displayName" "Ljava/lang/String;" (.ref a2) ∧ Fld Z h' j "com/example/sitesd/sitesd/model/User" "token" "Ljava/lang/String;" (.ref a3)) := by
  obtain ⟨hw, hEL, hSA, ⟨zc, SC, hz⟩, ⟨fm, SF, hfm⟩⟩ := id G
  refine Ctr.enter (own := "com/example/sitesd/sitesd/model/User") (nm := "<init>") rfl rfl hEL (plainFor_of_name pn_9) #[.val (.ref j), .val (.ref a0'), .val (.ref a1), .val (.ref a2), .val (.ref a3)] (fun m => by first | rfl | (simp [entryFrame, mkF, argsToLocals, Value.category, maxLocals]; done)) ?_
  intro p e s m below meth c T X
  refine g_aloadN X d8_0 rfl rfl 1 rfl ?_
  refine g_callIn X rfl (hw _ (List.mem_of_getElem? (i := 40) rfl)) (hw _ (List.mem_of_getElem? (i := 41) rfl)) (hw _ (List.mem_of_getElem? (i := 43) rfl)) (hw _ (List.mem_of_getElem? (i := 44) rfl)) (by decide) (c_rec l Z a0 G j h) (by simp) (argsL := []) (rest := []) pd_12 rfl rfl rfl rfl 0 (Nat.le_of_eq rfl) (by decide) (by decide) (ck := 0) rfl (cs := 0) rfl (by decide) (by decide) d8_1 4 rfl ?_
  intro T1 h4 X2 hq3
  subst hq3
  refine g_aloadN X2 d8_4 rfl rfl 5 rfl ?_
  refine g_ldcS X2 (cs := [(105 : Int32), (100 : Int32)]) rfl (hw _ (List.mem_of_getElem? (i := 46) rfl)) hSA (by simp [EL, consts_1]) ⟨by decide, by decide⟩ (by decide) (by decide) d8_5 8 (by decide) (by decide) (ck := 2) rfl (cs' := 12) rfl (by decide) (by decide) 7 rfl ?_
  intro s5 T6 h7 X8 E9 S10
  refine g_callSp X8 (hw _ (List.mem_of_getElem? (i := 49) rfl)) (hw _ (List.mem_of_getElem? (i := 50) rfl)) (hw _ (List.mem_of_getElem? (i := 51) rfl)) (hw _ (List.mem_of_getElem? (i := 52) rfl)) (by decide) (c_rnn l Z a0 G a0' s5 h7) (by simp) (argsL := [.ref a0', .ref s5]) (rest := []) pd_2 rfl rfl rfl rfl 0 (Nat.le_of_eq rfl) (by decide) (by decide) (ck := 2) rfl (cs := 12) rfl (by decide) (by decide) d8_7 10 rfl ?_
  intro w13 T11 X12 hq14
  subst hq14
  refine g_pop X12 d8_10 rfl 11 rfl ?_
  refine g_aloadN X12 d8_11 rfl rfl 12 rfl ?_
  refine g_ldcS X12 (cs := [(110 : Int32), (97 : Int32), (109 : Int32), (101 : Int32)]) rfl (hw _ (List.mem_of_getElem? (i := 53) rfl)) hSA (by simp [EL, consts_1]) ⟨by decide, by decide⟩ (by decide) (by decide) d8_12 16 (by decide) (by decide) (ck := 4) rfl (cs' := 32) rfl (by decide) (by decide) 14 rfl ?_
  intro s15 T16 h17 X18 E19 S20
  refine g_callSp X18 (hw _ (List.mem_of_getElem? (i := 49) rfl)) (hw _ (List.mem_of_getElem? (i := 50) rfl)) (hw _ (List.mem_of_getElem? (i := 51) rfl)) (hw _ (List.mem_of_getElem? (i := 52) rfl)) (by decide) (c_rnn l Z a0 G a1 s15 h17) (by simp) (argsL := [.ref a1, .ref s15]) (rest := []) pd_2 rfl rfl rfl rfl 0 (Nat.le_of_eq rfl) (by decide) (by decide) (ck := 4) rfl (cs := 32) rfl (by decide) (by decide) d8_14 17 rfl ?_
  intro w23 T21 X22 hq24
  subst hq24
  refine g_pop X22 d8_17 rfl 18 rfl ?_
  refine g_aloadN X22 d8_18 rfl rfl 19 rfl ?_
  refine g_ldcS X22 (cs := [(100 : Int32), (105 : Int32), (115 : Int32), (112 : Int32), (108 : Int32), (97 : Int32), (121 : Int32), (78 : Int32), (97 : Int32), (109 : Int32), (101 : Int32)]) rfl (hw _ (List.mem_of_getElem? (i := 54) rfl)) hSA (by simp [EL, consts_1]) ⟨by decide, by decide⟩ (by decide) (by decide) d8_19 44 (by decide) (by decide) (ck := 6) rfl (cs' := 80) rfl (by decide) (by decide) 21 rfl ?_
  intro s25 T26 h27 X28 E29 S30
  refine g_callSp X28 (hw _ (List.mem_of_getElem? (i := 49) rfl)) (hw _ (List.mem_of_getElem? (i := 50) rfl)) (hw _ (List.mem_of_getElem? (i := 51) rfl)) (hw _ (List.mem_of_getElem? (i := 52) rfl)) (by decide) (c_rnn l Z a0 G a2 s25 h27) (by simp) (argsL := [.ref a2, .ref s25]) (rest := []) pd_2 rfl rfl rfl rfl 0 (Nat.le_of_eq rfl) (by decide) (by decide) (ck := 6) rfl (cs := 80) rfl (by decide) (by decide) d8_21 24 rfl ?_
  intro w33 T31 X32 hq34
  subst hq34
  refine g_pop X32 d8_24 rfl 25 rfl ?_
  refine g_aload X32 d8_25 rfl rfl 27 rfl ?_
  refine g_ldcS X32 (cs := [(116 : Int32), (111 : Int32), (107 : Int32), (101 : Int32), (110 : Int32)]) rfl (hw _ (List.mem_of_getElem? (i := 55) rfl)) hSA (by simp [EL, consts_1]) ⟨by decide, by decide⟩ (by decide) (by decide) d8_27 20 (by decide) (by decide) (ck := 8) rfl (cs' := 104) rfl (by decide) (by decide) 29 rfl ?_
  intro s35 T36 h37 X38 E39 S40
  refine g_callSp X38 (hw _ (List.mem_of_getElem? (i := 49) rfl)) (hw _ (List.mem_of_getElem? (i := 50) rfl)) (hw _ (List.mem_of_getElem? (i := 51) rfl)) (hw _ (List.mem_of_getElem? (i := 52) rfl)) (by decide) (c_rnn l Z a0 G a3 s35 h37) (by simp) (argsL := [.ref a3, .ref s35]) (rest := []) pd_2 rfl rfl rfl rfl 0 (Nat.le_of_eq rfl) (by decide) (by decide) (ck := 8) rfl (cs := 104) rfl (by decide) (by decide) d8_29 32 rfl ?_
  intro w43 T41 X42 hq44
  subst hq44
  refine g_pop X42 d8_32 rfl 33 rfl ?_
  refine g_aloadN X42 d8_33 rfl rfl 34 rfl ?_
  refine g_aloadN X42 d8_34 rfl rfl 35 rfl ?_
  refine g_putF X42 (Or.inl (hw _ (List.mem_of_getElem? (i := 56) rfl))) (host := "") Via.refl ((((F0.ext E9).ext E19).ext E29).ext E39) ((((E.ext E9).ext E19).ext E29).ext E39) (Or.inr ⟨(hw _ (List.mem_of_getElem? (i := 57) rfl)), rfl, rfl⟩) (hw _ (List.mem_of_getElem? (i := 31) rfl)) (ty := (.object "java/lang/String")) (by rfl) rfl rfl (by simp) d8_35 38 rfl ?_
  intro T45 h46 X47 W48 F49 E50
  refine g_aloadN X47 d8_38 rfl rfl 39 rfl ?_
  refine g_aloadN X47 d8_39 rfl rfl 40 rfl ?_
  refine g_putF X47 (Or.inl (hw _ (List.mem_of_getElem? (i := 58) rfl))) (host := "") Via.refl (((((F1.ext E9).ext E19).ext E29).ext E39).other W48 (Or.inr (slot_ne (Or.inr (hw _ (List.mem_of_getElem? (i := 59) rfl))) (Or.inr (hw _ (List.mem_of_getElem? (i := 57) rfl))) (by decide) (by rfl) (by rfl)))) E50 (Or.inr ⟨(hw _ (List.mem_of_getElem? (i := 59) rfl)), rfl, rfl⟩) (hw _ (List.mem_of_getElem? (i := 31) rfl)) (ty := (.object "java/lang/String")) (by rfl) rfl rfl (by simp) d8_40 43 rfl ?_
  intro T51 h52 X53 W54 F55 E56
  refine g_aloadN X53 d8_43 rfl rfl 44 rfl ?_
  refine g_aloadN X53 d8_44 rfl rfl 45 rfl ?_
  refine g_putF X53 (Or.inl (hw _ (List.mem_of_getElem? (i := 60) rfl))) (host := "") Via.refl ((((((F2.ext E9).ext E19).ext E29).ext E39).other W48 (Or.inr (slot_ne (Or.inr (hw _ (List.mem_of_getElem? (i := 61) rfl))) (Or.inr (hw _ (List.mem_of_getElem? (i := 57) rfl))) (by decide) (by rfl) (by rfl)))).other W54 (Or.inr (slot_ne (Or.inr (hw _ (List.mem_of_getElem? (i := 61) rfl))) (Or.inr (hw _ (List.mem_of_getElem? (i := 59) rfl))) (by decide) (by rfl) (by rfl)))) E56 (Or.inr ⟨(hw _ (List.mem_of_getElem? (i := 61) rfl)), rfl, rfl⟩) (hw _ (List.mem_of_getElem? (i := 31) rfl)) (ty := (.object "java/lang/String")) (by rfl) rfl rfl (by simp) d8_45 48 rfl ?_
  intro T57 h58 X59 W60 F61 E62
  refine g_aloadN X59 d8_48 rfl rfl 49 rfl ?_
  refine g_aload X59 d8_49 rfl rfl 51 rfl ?_
  refine g_putF X59 (Or.inl (hw _ (List.mem_of_getElem? (i := 62) rfl))) (host := "") Via.refl (((((((F3.ext E9).ext E19).ext E29).ext E39).other W48 (Or.inr (slot_ne (Or.inr (hw _ (List.mem_of_getElem? (i := 63) rfl))) (Or.inr (hw _ (List.mem_of_getElem? (i := 57) rfl))) (by decide) (by rfl) (by rfl)))).other W54 (Or.inr (slot_ne (Or.inr (hw _ (List.mem_of_getElem? (i := 63) rfl))) (Or.inr (hw _ (List.mem_of_getElem? (i := 59) rfl))) (by decide) (by rfl) (by rfl)))).other W60 (Or.inr (slot_ne (Or.inr (hw _ (List.mem_of_getElem? (i := 63) rfl))) (Or.inr (hw _ (List.mem_of_getElem? (i := 61) rfl))) (by decide) (by rfl) (by rfl)))) E62 (Or.inr ⟨(hw _ (List.mem_of_getElem? (i := 63) rfl)), rfl, rfl⟩) (hw _ (List.mem_of_getElem? (i := 31) rfl)) (ty := (.object "java/lang/String")) (by rfl) rfl rfl (by simp) d8_51 54 rfl ?_
  intro T63 h64 X65 W66 F67 E68
  exact g_ret X65 rfl d8_54 (by decide) (by decide) ⟨rfl, ⟨(((((((((Keep.refl h [j]).ext E9).ext E19).ext E29).ext E39).wr W48 (Or.inl (by simp))).wr W54 (Or.inl (by simp))).wr W60 (Or.inl (by simp))).wr W66 (Or.inl (by simp))), E68, (((F49.other W54 (Or.inr (slot_ne (Or.inr (hw _ (List.mem_of_getElem? (i := 57) rfl))) (Or.inr (hw _ (List.mem_of_getElem? (i := 59) rfl))) (by decide) (by rfl) (by rfl)))).other W60 (Or.inr (slot_ne (Or.inr (hw _ (List.mem_of_getElem? (i := 57) rfl))) (Or.inr (hw _ (List.mem_of_getElem? (i := 61) rfl))) (by decide) (by rfl) (by rfl)))).other W66 (Or.inr (slot_ne (Or.inr (hw _ (List.mem_of_getElem? (i := 57) rfl))) (Or.inr (hw _ (List.mem_of_getElem? (i := 63) rfl))) (by decide) (by rfl) (by rfl)))), ((F55.other W60 (Or.inr (slot_ne (Or.inr (hw _ (List.mem_of_getElem? (i := 59) rfl))) (Or.inr (hw _ (List.mem_of_getElem? (i := 61) rfl))) (by decide) (by rfl) (by rfl)))).other W66 (Or.inr (slot_ne (Or.inr (hw _ (List.mem_of_getElem? (i := 59) rfl))) (Or.inr (hw _ (List.mem_of_getElem? (i := 63) rfl))) (by decide) (by rfl) (by rfl)))), (F61.other W66 (Or.inr (slot_ne (Or.inr (hw _ (List.mem_of_getElem? (i := 61) rfl))) (Or.inr (hw _ (List.mem_of_getElem? (i := 63) rfl))) (by decide) (by rfl) (by rfl)))), F67⟩⟩
theorem d11_0 : decode prog_19_method_2_code 0 = .ok (.new 32, 3) := by decide +kernel
theorem d11_3 : decode prog_19_method_2_code 3 = .ok (.dup, 1) := by decide +kernel
theorem d11_4 : decode prog_19_method_2_code 4 = .ok (.invokespecial 34, 3) := by decide +kernel
theorem d11_7 : decode prog_19_method_2_code 7 = .ok (.ldc 35, 2) := by decide +kernel
theorem d11_9 : decode prog_19_method_2_code 9 = .ok (.invokevirtual 37, 3) := by decide +kernel
theorem d11_12 : decode prog_19_method_2_code 12 = .ok (.aload_n 0, 1) := by decide +kernel
theorem d11_13 : decode prog_19_method_2_code 13 = .ok (.getfield 21, 3) := by decide +kernel
theorem d11_16 : decode prog_19_method_2_code 16 = .ok (.invokevirtual 37, 3) := by decide +kernel
theorem d11_19 : decode prog_19_method_2_code 19 = .ok (.ldc 41, 2) := by decide +kernel
theorem d11_21 : decode prog_19_method_2_code 21 = .ok (.invokevirtual 37, 3) := by decide +kernel
theorem d11_24 : decode prog_19_method_2_code 24 = .ok (.aload_n 0, 1) := by decide +kernel
theorem d11_25 : decode prog_19_method_2_code 25 = .ok (.getfield 26, 3) := by decide +kernel
theorem d11_28 : decode prog_19_method_2_code 28 = .ok (.invokevirtual 37, 3) := by decide +kernel
theorem d11_31 : decode prog_19_method_2_code 31 = .ok (.ldc 43, 2) := by decide +kernel
theorem d11_33 : decode prog_19_method_2_code 33 = .ok (.invokevirtual 37, 3) := by decide +kernel
theorem d11_36 : decode prog_19_method_2_code 36 = .ok (.aload_n 0, 1) := by decide +kernel
theorem d11_37 : decode prog_19_method_2_code 37 = .ok (.getfield 28, 3) := by decide +kernel
theorem d11_40 : decode prog_19_method_2_code 40 = .ok (.invokevirtual 37, 3) := by decide +kernel
theorem d11_43 : decode prog_19_method_2_code 43 = .ok (.ldc 45, 2) := by decide +kernel
theorem d11_45 : decode prog_19_method_2_code 45 = .ok (.invokevirtual 37, 3) := by decide +kernel
theorem d11_48 : decode prog_19_method_2_code 48 = .ok (.invokevirtual 47, 3) := by decide +kernel
theorem d11_51 : decode prog_19_method_2_code 51 = .ok (.areturn, 1) := by decide +kernel
set_option maxRecDepth 65536 in
set_option maxHeartbeats 40000000 in
theorem c_uts (l : Launch) (Z : State) (a0 : Array Value) (G : Gl Z a0) (j t1 t2 t3 : Addr) (us : List Addr) (x0 x1 y0 y1 z0 z1 : Int32) (h : Heap) (E : Exa Z h j "com/example/sitesd/sitesd/model/User") (F1 : Fld Z h j "com/example/sitesd/sitesd/model/User" "id" "Ljava/lang/String;" (.ref t1)) (F2 : Fld Z h j "com/example/sitesd/sitesd/model/User" "name" "Ljava/lang/String;" (.ref t2)) (F3 : Fld Z h j "com/example/sitesd/sitesd/model/User" "displayName" "Ljava/lang/String;" (.ref t3)) (S1 : Str Z h us t1 [x0, x1]) (S2 : Str Z h us t2 [y0, y1]) (S3 : Str Z h us t3 [z0, z1]) :
    Ctr l Z EL nw (⟨"com/example/sitesd/sitesd/model/User", "toString", "()Ljava/lang/String;"⟩ : MethodName) prog_19_method_2_code 1 (Option.some (Jvm.ClassFile.FieldType.object "java/lang/String")) ({ frames := 6, cells := 14, slots := 336, locals := 91 } : Room) #[.ref j] h us (ValQ fun w h' => ∃ r, w = .ref r ∧ Ext h h' ∧ StrN Z h h' r (((((((([] : List Int32) ++ [(85 : Int32), (115 : Int32), (101 : Int32), (114 : Int32), (91 : Int32), (105 : Int32), (100 : Int32), (61 : Int32)]) ++ [x0, x1]) ++ [(44 : Int32), (32 : Int32), (110 : Int32), (97 : Int32), (109 : Int32), (101 : Int32), (61 : Int32)]) ++ [y0, y1]) ++ [(44 : Int32), (32 : Int32), (100 : Int32), (105 : Int32), (115 : Int32), (112 : Int32), (108 : Int32), (97 : Int32), (121 : Int32), (78 : Int32), (97 : Int32), (109 : Int32), (101 : Int32), (61 : Int32)]) ++ [z0, z1]) ++ [(93 : Int32)])) := by
  obtain ⟨hw, hEL, hSA, ⟨zc, SC, hz⟩, ⟨fm, SF, hfm⟩⟩ := id G
  refine Ctr.enter (own := "com/example/sitesd/sitesd/model/User") (nm := "toString") rfl rfl hEL (plainFor_of_name pn_9) #[.val (.ref j)] (fun m => by first | rfl | (simp [entryFrame, mkF, argsToLocals, Value.category, maxLocals]; done)) ?_
  intro p e s m below meth c T X
  refine g_new X (hw _ (List.mem_of_getElem? (i := 69) rfl)) (hw _ (List.mem_of_getElem? (i := 70) rfl)) (hw _ (List.mem_of_getElem? (i := 71) rfl)) d11_0 (ck := 1) rfl (cs := 4) rfl (by decide) (by decide) 3 rfl ?_
  intro a1 T2 h3 ea4 X5 E6 A7 D8
  have le_a1 : h.size ≤ a1 := by rw [ea4]; exact (Ext.refl h).1
  have ne_j_a1 : j ≠ a1 := by rw [ea4]; exact Nat.ne_of_lt E.lt
  have ne_t1_a1 : t1 ≠ a1 := by rw [ea4]; exact Nat.ne_of_lt S1.lt
  have ne_t2_a1 : t2 ≠ a1 := by rw [ea4]; exact Nat.ne_of_lt S2.lt
  have ne_t3_a1 : t3 ≠ a1 := by rw [ea4]; exact Nat.ne_of_lt S3.lt
  have F9 : Fld Z h3 a1 "java/lang/AbstractStringBuilder" "value" "[B" (.null) := D8 (Or.inl (hw _ (List.mem_of_getElem? (i := 84) rfl))) (ty := (.array .byte)) (by rfl)
  have F10 : Fld Z h3 a1 "java/lang/AbstractStringBuilder" "coder" "B" (.int (0 : Int32)) := D8 (Or.inl (hw _ (List.mem_of_getElem? (i := 86) rfl))) (ty := .byte) (by rfl)
  have F11 : Fld Z h3 a1 "java/lang/AbstractStringBuilder" "count" "I" (.int (0 : Int32)) := D8 (Or.inl (hw _ (List.mem_of_getElem? (i := 109) rfl))) (ty := .int) (by rfl)
  refine g_dup X5 d11_3 rfl 4 rfl ?_
  refine g_callIn X5 rfl (hw _ (List.mem_of_getElem? (i := 72) rfl)) (hw _ (List.mem_of_getElem? (i := 73) rfl)) (hw _ (List.mem_of_getElem? (i := 71) rfl)) (hw _ (List.mem_of_getElem? (i := 74) rfl)) (by decide) (c_sbi l Z a0 G a1 h3 A7 F9 F10 F11) (by simp) (argsL := []) (rest := [.ref a1]) pd_12 rfl rfl rfl rfl 1 (Nat.le_of_eq rfl) (by decide) (by decide) (ck := 2) rfl (cs := 20) rfl (by decide) (by decide) d11_4 7 rfl ?_
  intro T12 h15 X13 hq14
  obtain ⟨b16, kb17, K18, le19, S20⟩ := hq14
  have X21 := X13.add (elL hw 16 (by decide)) S20.arv (Nat.le_trans X5.old.1 le19)
  have le_b16 : h.size ≤ b16 := Nat.le_trans ((Ext.refl h).trans E6).1 le19
  have ne_j_b16 : j ≠ b16 := Nat.ne_of_lt (Nat.lt_of_lt_of_le (E.ext E6).lt le19)
  have ne_a1_b16 : a1 ≠ b16 := Nat.ne_of_lt (Nat.lt_of_lt_of_le A7.lt le19)
  have x22 : Ext h h15 := (ext_keep ((Ext.refl h).trans E6) K18 (fun x hx => by simp only [List.mem_cons, List.not_mem_nil, or_false] at hx; rcases hx with rfl <;> first | exact le_a1))
  refine g_ldcS X21 (cs := [(85 : Int32), (115 : Int32), (101 : Int32), (114 : Int32), (91 : Int32), (105 : Int32), (100 : Int32), (61 : Int32)]) rfl (hw _ (List.mem_of_getElem? (i := 87) rfl)) hSA (by simp [EL, consts_1]) ⟨by decide, by decide⟩ (by decide) (by decide) d11_7 32 (by decide) (by decide) (ck := 4) rfl (cs' := 56) rfl (by decide) (by decide) 9 rfl ?_
  intro s23 T24 h25 X26 E27 S28
  obtain ⟨t29, kb30, e31, f32, f33, k34, b35, l36, n37⟩ := id S28
  refine g_callVv X26 (hw _ (List.mem_of_getElem? (i := 88) rfl)) (hw _ (List.mem_of_getElem? (i := 89) rfl)) (hw _ (List.mem_of_getElem? (i := 91) rfl)) (hw _ (List.mem_of_getElem? (i := 90) rfl)) (hw _ (List.mem_of_getElem? (i := 71) rfl)) (hw _ (List.mem_of_getElem? (i := 92) rfl)) (nfSel (hw _ (List.mem_of_getElem? (i := 91) rfl))) (by decide) (S20.ext E27).1 (c_sba l Z a0 G a1 s23 t29 b16 kb30 kb17 16 ([] : List Int32) ([(85 : Int32), (115 : Int32), (101 : Int32), (114 : Int32), (91 : Int32), (105 : Int32), (100 : Int32), (61 : Int32)]) h25 (S20.ext E27) e31 f32 f33 k34 b35 l36 (by first | (simp; done) | exact Nat.le_of_ble_eq_true rfl)) (by simp) (argsL := [.ref s23]) (rest := []) pd_14 rfl rfl rfl rfl 0 (Nat.le_of_eq rfl) (by decide) (by decide) (ck := 4) rfl (cs := 56) rfl (by decide) (by decide) d11_9 12 rfl ?_
  intro w40 T38 h42 X39 hq41
  obtain ⟨rfl, K43, S44⟩ := hq41
  have x45 : Ext h h42 := (ext_keep (x22.trans E27) K43 (fun x hx => by simp only [List.mem_cons, List.not_mem_nil, or_false] at hx; rcases hx with rfl | rfl <;> first | exact le_a1 | exact le_b16))
  refine g_aloadN X39 d11_12 rfl rfl 13 rfl ?_
  refine g_getF X39 (Or.inl (hw _ (List.mem_of_getElem? (i := 56) rfl))) (host := "") Via.refl ((((F1.ext E6).keep K18 (ninS ne_j_a1 nin0)).ext E27).keep K43 (ninS ne_j_a1 (ninS ne_j_b16 nin0))) d11_13 16 rfl ?_
  intro T46 X47
  obtain ⟨t48, kb49, e50, f51, f52, k53, b54, l55, n56⟩ := id ((((S1.grow E6 ea4).growK K18 (by simp) le19).ext E27).keep K43 (by simp))
  refine g_callVv X47 (hw _ (List.mem_of_getElem? (i := 88) rfl)) (hw _ (List.mem_of_getElem? (i := 89) rfl)) (hw _ (List.mem_of_getElem? (i := 91) rfl)) (hw _ (List.mem_of_getElem? (i := 90) rfl)) (hw _ (List.mem_of_getElem? (i := 71) rfl)) (hw _ (List.mem_of_getElem? (i := 92) rfl)) (nfSel (hw _ (List.mem_of_getElem? (i := 91) rfl))) (by decide) S44.1 (c_sba l Z a0 G a1 t1 t48 b16 kb49 kb17 16 (([] : List Int32) ++ [(85 : Int32), (115 : Int32), (101 : Int32), (114 : Int32), (91 : Int32), (105 : Int32), (100 : Int32), (61 : Int32)]) ([x0, x1]) h42 S44 e50 f51 f52 k53 b54 l55 (by first | (simp; done) | exact Nat.le_of_ble_eq_true rfl)) (by simp) (argsL := [.ref t1]) (rest := []) pd_14 rfl rfl rfl rfl 0 (Nat.le_of_eq rfl) (by decide) (by decide) (ck := 4) rfl (cs := 56) rfl (by decide) (by decide) d11_16 19 rfl ?_
  intro w59 T57 h61 X58 hq60
  obtain ⟨rfl, K62, S63⟩ := hq60
  have x64 : Ext h h61 := (ext_keep x45 K62 (fun x hx => by simp only [List.mem_cons, List.not_mem_nil, or_false] at hx; rcases hx with rfl | rfl <;> first | exact le_a1 | exact le_b16))
  refine g_ldcS X58 (cs := [(44 : Int32), (32 : Int32), (110 : Int32), (97 : Int32), (109 : Int32), (101 : Int32), (61 : Int32)]) rfl (hw _ (List.mem_of_getElem? (i := 135) rfl)) hSA (by simp [EL, consts_1]) ⟨by decide, by decide⟩ (by decide) (by decide) d11_19 28 (by decide) (by decide) (ck := 6) rfl (cs' := 88) rfl (by decide) (by decide) 21 rfl ?_
  intro s65 T66 h67 X68 E69 S70
  obtain ⟨t71, kb72, e73, f74, f75, k76, b77, l78, n79⟩ := id S70
  refine g_callVv X68 (hw _ (List.mem_of_getElem? (i := 88) rfl)) (hw _ (List.mem_of_getElem? (i := 89) rfl)) (hw _ (List.mem_of_getElem? (i := 91) rfl)) (hw _ (List.mem_of_getElem? (i := 90) rfl)) (hw _ (List.mem_of_getElem? (i := 71) rfl)) (hw _ (List.mem_of_getElem? (i := 92) rfl)) (nfSel (hw _ (List.mem_of_getElem? (i := 91) rfl))) (by decide) (S63.ext E69).1 (c_sbaG l Z a0 G a1 s65 t71 b16 kb72 kb17 16 ((([] : List Int32) ++ [(85 : Int32), (115 : Int32), (101 : Int32), (114 : Int32), (91 : Int32), (105 : Int32), (100 : Int32), (61 : Int32)]) ++ [x0, x1]) ([(44 : Int32), (32 : Int32), (110 : Int32), (97 : Int32), (109 : Int32), (101 : Int32), (61 : Int32)]) h67 (S63.ext E69) e73 f74 f75 k76 b77 l78 (n79 a1 (by simp)).1 (n79 a1 (by simp)).2 (by decide) (by first | (simp; done) | exact Nat.le_of_ble_eq_true rfl) (by first | (simp; done) | exact Nat.le_of_ble_eq_true rfl) (by decide) (by decide)) (by simp) (argsL := [.ref s65]) (rest := []) pd_14 rfl rfl rfl rfl 0 (Nat.le_of_eq rfl) (by decide) (by decide) (ck := 7) rfl (cs := 158) rfl (by decide) (by decide) d11_21 24 rfl ?_
  intro w82 T80 h84 X81 hq83
  obtain ⟨rfl, b85, kb86, K87, le88, S89⟩ := hq83
  have X90 := X81.add (elL hw 34 (by decide)) S89.arv (Nat.le_trans X68.old.1 le88)
  have le_b85 : h.size ≤ b85 := Nat.le_trans (x64.trans E69).1 le88
  have ne_j_b85 : j ≠ b85 := Nat.ne_of_lt (Nat.lt_of_lt_of_le ((((((E.ext E6).keep K18).ext E27).keep K43).keep K62).ext E69).lt le88)
  have ne_a1_b85 : a1 ≠ b85 := Nat.ne_of_lt (Nat.lt_of_lt_of_le (S63.ext E69).lt le88)
  have x91 : Ext h h84 := (ext_keep (x64.trans E69) K87 (fun x hx => by simp only [List.mem_cons, List.not_mem_nil, or_false] at hx; rcases hx with rfl <;> first | exact le_a1))
  refine g_aloadN X90 d11_24 rfl rfl 25 rfl ?_
  refine g_getF X90 (Or.inl (hw _ (List.mem_of_getElem? (i := 58) rfl))) (host := "") Via.refl (((((((F2.ext E6).keep K18 (ninS ne_j_a1 nin0)).ext E27).keep K43 (ninS ne_j_a1 (ninS ne_j_b16 nin0))).keep K62 (ninS ne_j_a1 (ninS ne_j_b16 nin0))).ext E69).keep K87 (ninS ne_j_a1 nin0)) d11_25 28 rfl ?_
  intro T92 X93
  obtain ⟨t94, kb95, e96, f97, f98, k99, b100, l101, n102⟩ := id (((((((S2.grow E6 ea4).growK K18 (by simp) le19).ext E27).keep K43 (by simp)).keep K62 (by simp)).ext E69).growK K87 (by simp) le88)
  refine g_callVv X93 (hw _ (List.mem_of_getElem? (i := 88) rfl)) (hw _ (List.mem_of_getElem? (i := 89) rfl)) (hw _ (List.mem_of_getElem? (i := 91) rfl)) (hw _ (List.mem_of_getElem? (i := 90) rfl)) (hw _ (List.mem_of_getElem? (i := 71) rfl)) (hw _ (List.mem_of_getElem? (i := 92) rfl)) (nfSel (hw _ (List.mem_of_getElem? (i := 91) rfl))) (by decide) S89.1 (c_sba l Z a0 G a1 t2 t94 b85 kb95 kb86 34 (((([] : List Int32) ++ [(85 : Int32), (115 : Int32), (101 : Int32), (114 : Int32), (91 : Int32), (105 : Int32), (100 : Int32), (61 : Int32)]) ++ [x0, x1]) ++ [(44 : Int32), (32 : Int32), (110 : Int32), (97 : Int32), (109 : Int32), (101 : Int32), (61 : Int32)]) ([y0, y1]) h84 S89 e96 f97 f98 k99 b100 l101 (by first | (simp; done) | exact Nat.le_of_ble_eq_true rfl)) (by simp) (argsL := [.ref t2]) (rest := []) pd_14 rfl rfl rfl rfl 0 (Nat.le_of_eq rfl) (by decide) (by decide) (ck := 7) rfl (cs := 158) rfl (by decide) (by decide) d11_28 31 rfl ?_
  intro w105 T103 h107 X104 hq106
  obtain ⟨rfl, K108, S109⟩ := hq106
  have x110 : Ext h h107 := (ext_keep x91 K108 (fun x hx => by simp only [List.mem_cons, List.not_mem_nil, or_false] at hx; rcases hx with rfl | rfl <;> first | exact le_a1 | exact le_b85))
  refine g_ldcS X104 (cs := [(44 : Int32), (32 : Int32), (100 : Int32), (105 : Int32), (115 : Int32), (112 : Int32), (108 : Int32), (97 : Int32), (121 : Int32), (78 : Int32), (97 : Int32), (109 : Int32), (101 : Int32), (61 : Int32)]) rfl (hw _ (List.mem_of_getElem? (i := 159) rfl)) hSA (by simp [EL, consts_1]) ⟨by decide, by decide⟩ (by decide) (by decide) d11_31 56 (by decide) (by decide) (ck := 9) rfl (cs' := 218) rfl (by decide) (by decide) 33 rfl ?_
  intro s111 T112 h113 X114 E115 S116
  obtain ⟨t117, kb118, e119, f120, f121, k122, b123, l124, n125⟩ := id S116
  refine g_callVv X114 (hw _ (List.mem_of_getElem? (i := 88) rfl)) (hw _ (List.mem_of_getElem? (i := 89) rfl)) (hw _ (List.mem_of_getElem? (i := 91) rfl)) (hw _ (List.mem_of_getElem? (i := 90) rfl)) (hw _ (List.mem_of_getElem? (i := 71) rfl)) (hw _ (List.mem_of_getElem? (i := 92) rfl)) (nfSel (hw _ (List.mem_of_getElem? (i := 91) rfl))) (by decide) (S109.ext E115).1 (c_sba l Z a0 G a1 s111 t117 b85 kb118 kb86 34 ((((([] : List Int32) ++ [(85 : Int32), (115 : Int32), (101 : Int32), (114 : Int32), (91 : Int32), (105 : Int32), (100 : Int32), (61 : Int32)]) ++ [x0, x1]) ++ [(44 : Int32), (32 : Int32), (110 : Int32), (97 : Int32), (109 : Int32), (101 : Int32), (61 : Int32)]) ++ [y0, y1]) ([(44 : Int32), (32 : Int32), (100 : Int32), (105 : Int32), (115 : Int32), (112 : Int32), (108 : Int32), (97 : Int32), (121 : Int32), (78 : Int32), (97 : Int32), (109 : Int32), (101 : Int32), (61 : Int32)]) h113 (S109.ext E115) e119 f120 f121 k122 b123 l124 (by first | (simp; done) | exact Nat.le_of_ble_eq_true rfl)) (by simp) (argsL := [.ref s111]) (rest := []) pd_14 rfl rfl rfl rfl 0 (Nat.le_of_eq rfl) (by decide) (by decide) (ck := 9) rfl (cs := 218) rfl (by decide) (by decide) d11_33 36 rfl ?_
  intro w128 T126 h130 X127 hq129
  obtain ⟨rfl, K131, S132⟩ := hq129
  have x133 : Ext h h130 := (ext_keep (x110.trans E115) K131 (fun x hx => by simp only [List.mem_cons, List.not_mem_nil, or_false] at hx; rcases hx with rfl | rfl <;> first | exact le_a1 | exact le_b85))
  refine g_aloadN X127 d11_36 rfl rfl 37 rfl ?_
  refine g_getF X127 (Or.inl (hw _ (List.mem_of_getElem? (i := 60) rfl))) (host := "") Via.refl ((((((((((F3.ext E6).keep K18 (ninS ne_j_a1 nin0)).ext E27).keep K43 (ninS ne_j_a1 (ninS ne_j_b16 nin0))).keep K62 (ninS ne_j_a1 (ninS ne_j_b16 nin0))).ext E69).keep K87 (ninS ne_j_a1 nin0)).keep K108 (ninS ne_j_a1 (ninS ne_j_b85 nin0))).ext E115).keep K131 (ninS ne_j_a1 (ninS ne_j_b85 nin0))) d11_37 40 rfl ?_
  intro T134 X135
  obtain ⟨t136, kb137, e138, f139, f140, k141, b142, l143, n144⟩ := id ((((((((((S3.grow E6 ea4).growK K18 (by simp) le19).ext E27).keep K43 (by simp)).keep K62 (by simp)).ext E69).growK K87 (by simp) le88).keep K108 (by simp)).ext E115).keep K131 (by simp))
  refine g_callVv X135 (hw _ (List.mem_of_getElem? (i := 88) rfl)) (hw _ (List.mem_of_getElem? (i := 89) rfl)) (hw _ (List.mem_of_getElem? (i := 91) rfl)) (hw _ (List.mem_of_getElem? (i := 90) rfl)) (hw _ (List.mem_of_getElem? (i := 71) rfl)) (hw _ (List.mem_of_getElem? (i := 92) rfl)) (nfSel (hw _ (List.mem_of_getElem? (i := 91) rfl))) (by decide) S132.1 (c_sbaG l Z a0 G a1 t3 t136 b85 kb137 kb86 34 (((((([] : List Int32) ++ [(85 : Int32), (115 : Int32), (101 : Int32), (114 : Int32), (91 : Int32), (105 : Int32), (100 : Int32), (61 : Int32)]) ++ [x0, x1]) ++ [(44 : Int32), (32 : Int32), (110 : Int32), (97 : Int32), (109 : Int32), (101 : Int32), (61 : Int32)]) ++ [y0, y1]) ++ [(44 : Int32), (32 : Int32), (100 : Int32), (105 : Int32), (115 : Int32), (112 : Int32), (108 : Int32), (97 : Int32), (121 : Int32), (78 : Int32), (97 : Int32), (109 : Int32), (101 : Int32), (61 : Int32)]) ([z0, z1]) h130 S132 e138 f139 f140 k141 b142 l143 (n144 a1 (by simp)).1 (n144 a1 (by simp)).2 (by decide) (by first | (simp; done) | exact Nat.le_of_ble_eq_true rfl) (by first | (simp; done) | exact Nat.le_of_ble_eq_true rfl) (by decide) (by decide)) (by simp) (argsL := [.ref t3]) (rest := []) pd_14 rfl rfl rfl rfl 0 (Nat.le_of_eq rfl) (by decide) (by decide) (ck := 10) rfl (cs := 288) rfl (by decide) (by decide) d11_40 43 rfl ?_
  intro w147 T145 h149 X146 hq148
  obtain ⟨rfl, b150, kb151, K152, le153, S154⟩ := hq148
  have X155 := X146.add (elL hw 70 (by decide)) S154.arv (Nat.le_trans X135.old.1 le153)
  have le_b150 : h.size ≤ b150 := Nat.le_trans x133.1 le153
  have ne_j_b150 : j ≠ b150 := Nat.ne_of_lt (Nat.lt_of_lt_of_le ((((((((((E.ext E6).keep K18).ext E27).keep K43).keep K62).ext E69).keep K87).keep K108).ext E115).keep K131).lt le153)
  have ne_a1_b150 : a1 ≠ b150 := Nat.ne_of_lt (Nat.lt_of_lt_of_le S132.lt le153)
  have x156 : Ext h h149 := (ext_keep x133 K152 (fun x hx => by simp only [List.mem_cons, List.not_mem_nil, or_false] at hx; rcases hx with rfl <;> first | exact le_a1))
  refine g_ldcS X155 (cs := [(93 : Int32)]) rfl (hw _ (List.mem_of_getElem? (i := 160) rfl)) hSA (by simp [EL, consts_1]) ⟨by decide, by decide⟩ (by decide) (by decide) d11_43 4 (by decide) (by decide) (ck := 12) rfl (cs' := 296) rfl (by decide) (by decide) 45 rfl ?_
  intro s157 T158 h159 X160 E161 S162
  obtain ⟨t163, kb164, e165, f166, f167, k168, b169, l170, n171⟩ := id S162
  refine g_callVv X160 (hw _ (List.mem_of_getElem? (i := 88) rfl)) (hw _ (List.mem_of_getElem? (i := 89) rfl)) (hw _ (List.mem_of_getElem? (i := 91) rfl)) (hw _ (List.mem_of_getElem? (i := 90) rfl)) (hw _ (List.mem_of_getElem? (i := 71) rfl)) (hw _ (List.mem_of_getElem? (i := 92) rfl)) (nfSel (hw _ (List.mem_of_getElem? (i := 91) rfl))) (by decide) (S154.ext E161).1 (c_sba l Z a0 G a1 s157 t163 b150 kb164 kb151 70 ((((((([] : List Int32) ++ [(85 : Int32), (115 : Int32), (101 : Int32), (114 : Int32), (91 : Int32), (105 : Int32), (100 : Int32), (61 : Int32)]) ++ [x0, x1]) ++ [(44 : Int32), (32 : Int32), (110 : Int32), (97 : Int32), (109 : Int32), (101 : Int32), (61 : Int32)]) ++ [y0, y1]) ++ [(44 : Int32), (32 : Int32), (100 : Int32), (105 : Int32), (115 : Int32), (112 : Int32), (108 : Int32), (97 : Int32), (121 : Int32), (78 : Int32), (97 : Int32), (109 : Int32), (101 : Int32), (61 : Int32)]) ++ [z0, z1]) ([(93 : Int32)]) h159 (S154.ext E161) e165 f166 f167 k168 b169 l170 (by first | (simp; done) | exact Nat.le_of_ble_eq_true rfl)) (by simp) (argsL := [.ref s157]) (rest := []) pd_14 rfl rfl rfl rfl 0 (Nat.le_of_eq rfl) (by decide) (by decide) (ck := 12) rfl (cs := 296) rfl (by decide) (by decide) d11_45 48 rfl ?_
  intro w174 T172 h176 X173 hq175
  obtain ⟨rfl, K177, S178⟩ := hq175
  have x179 : Ext h h176 := (ext_keep (x156.trans E161) K177 (fun x hx => by simp only [List.mem_cons, List.not_mem_nil, or_false] at hx; rcases hx with rfl | rfl <;> first | exact le_a1 | exact le_b150))
  refine g_callVv X173 (hw _ (List.mem_of_getElem? (i := 161) rfl)) (hw _ (List.mem_of_getElem? (i := 162) rfl)) (hw _ (List.mem_of_getElem? (i := 164) rfl)) (hw _ (List.mem_of_getElem? (i := 163) rfl)) (hw _ (List.mem_of_getElem? (i := 71) rfl)) (hw _ (List.mem_of_getElem? (i := 165) rfl)) (nfSel (hw _ (List.mem_of_getElem? (i := 164) rfl))) (by decide) S178.1 (c_sts l Z a0 G a1 b150 kb151 70 (((((((([] : List Int32) ++ [(85 : Int32), (115 : Int32), (101 : Int32), (114 : Int32), (91 : Int32), (105 : Int32), (100 : Int32), (61 : Int32)]) ++ [x0, x1]) ++ [(44 : Int32), (32 : Int32), (110 : Int32), (97 : Int32), (109 : Int32), (101 : Int32), (61 : Int32)]) ++ [y0, y1]) ++ [(44 : Int32), (32 : Int32), (100 : Int32), (105 : Int32), (115 : Int32), (112 : Int32), (108 : Int32), (97 : Int32), (121 : Int32), (78 : Int32), (97 : Int32), (109 : Int32), (101 : Int32), (61 : Int32)]) ++ [z0, z1]) ++ [(93 : Int32)]) h176 S178 (by first | (simp; done) | exact Nat.le_of_ble_eq_true rfl) (by first | (simp; done) | exact Nat.le_of_ble_eq_true rfl)) (by simp) (argsL := []) (rest := []) pd_19 rfl rfl rfl rfl 0 (Nat.le_of_eq rfl) (by decide) (by decide) (ck := 14) rfl (cs := 336) rfl (by decide) (by decide) d11_48 51 rfl ?_
  intro w182 T180 h184 X181 hq183
  obtain ⟨r185, rfl, E186, SN187⟩ := hq183
  have S188 : Str Z h184 (b150 :: b85 :: b16 :: a1 :: us) r185 (((((((([] : List Int32) ++ [(85 : Int32), (115 : Int32), (101 : Int32), (114 : Int32), (91 : Int32), (105 : Int32), (100 : Int32), (61 : Int32)]) ++ [x0, x1]) ++ [(44 : Int32), (32 : Int32), (110 : Int32), (97 : Int32), (109 : Int32), (101 : Int32), (61 : Int32)]) ++ [y0, y1]) ++ [(44 : Int32), (32 : Int32), (100 : Int32), (105 : Int32), (115 : Int32), (112 : Int32), (108 : Int32), (97 : Int32), (121 : Int32), (78 : Int32), (97 : Int32), (109 : Int32), (101 : Int32), (61 : Int32)]) ++ [z0, z1]) ++ [(93 : Int32)]) := SN187.str X173.news
  have sn_r185 : StrN Z h h184 r185 (((((((([] : List Int32) ++ [(85 : Int32), (115 : Int32), (101 : Int32), (114 : Int32), (91 : Int32), (105 : Int32), (100 : Int32), (61 : Int32)]) ++ [x0, x1]) ++ [(44 : Int32), (32 : Int32), (110 : Int32), (97 : Int32), (109 : Int32), (101 : Int32), (61 : Int32)]) ++ [y0, y1]) ++ [(44 : Int32), (32 : Int32), (100 : Int32), (105 : Int32), (115 : Int32), (112 : Int32), (108 : Int32), (97 : Int32), (121 : Int32), (78 : Int32), (97 : Int32), (109 : Int32), (101 : Int32), (61 : Int32)]) ++ [z0, z1]) ++ [(93 : Int32)]) := SN187.mono x179.1
  exact g_retA X181 rfl rfl rfl d11_51 (by decide) (by decide) ⟨_, rfl, ⟨r185, rfl, (x179.trans E186), sn_r185⟩⟩
set_option maxRecDepth 65536 in
set_option maxHeartbeats 40000000 in
theorem c_law (l : Launch) (Z : State) (a0 : Array Value) (G : Gl Z a0) (k0 k1 k2 k3 : Int32) (h : Heap)  :
    Ctr l Z EL nw x code maxLocals ret room_1 #[.int k0, .int k1, .int k2, .int k3] h [] (fun v _ => v = some (.int 1)) := by
  obtain ⟨hw, hEL, hSA, ⟨zc, SC, hz⟩, ⟨fm, SF, hfm⟩⟩ := id G
  refine Ctr.enter (own := "com/example/sitesd/sitesd/model/UserToStringPinLaw") (nm := "law") rfl rfl hEL (plainFor_of_name pn_6) #[.val (.int k0), .val (.int k1), .val (.int k2), .val (.int k3), .unset, .unset, .unset, .unset, .unset, .unset, .unset, .unset, .unset, .unset] (fun m => by first | rfl | (simp [entryFrame, mkF, argsToLocals, Value.category, maxLocals]; done)) ?_
  intro p e s m below meth c T X
  refine g_iloadN X at_0 rfl 1 rfl ?_
  refine g_sipush X (255 : Int32) at_1 (by decide) 4 rfl ?_
  refine g_iand X at_4 _ rfl 5 rfl ?_
  refine g_i2c X at_5 (k0 &&& (255 : Int32)) (i2c_mask _) 6 rfl ?_
  refine g_istore X at_6 (Ls' := #[.val (.int k0), .val (.int k1), .val (.int k2), .val (.int k3), .val (.int (k0 &&& (255 : Int32))), .unset, .unset, .unset, .unset, .unset, .unset, .unset, .unset, .unset]) rfl 8 rfl ?_
  refine g_iloadN X at_8 rfl 9 rfl ?_
  refine g_bipush X (8 : Int32) at_9 (by decide) 11 rfl ?_
  refine g_iushr X at_11 _ rfl 12 rfl ?_
  refine g_sipush X (255 : Int32) at_12 (by decide) 15 rfl ?_
  refine g_iand X at_15 _ rfl 16 rfl ?_
  refine g_i2c X at_16 ((XT.ushr k0 (8 : Int32)) &&& (255 : Int32)) (i2c_mask _) 17 rfl ?_
  refine g_istore X at_17 (Ls' := #[.val (.int k0), .val (.int k1), .val (.int k2), .val (.int k3), .val (.int (k0 &&& (255 : Int32))), .val (.int ((XT.ushr k0 (8 : Int32)) &&& (255 : Int32))), .unset, .unset, .unset, .unset, .unset, .unset, .unset, .unset]) rfl 19 rfl ?_
  refine g_iloadN X at_19 rfl 20 rfl ?_
  refine g_sipush X (255 : Int32) at_20 (by decide) 23 rfl ?_
  refine g_iand X at_23 _ rfl 24 rfl ?_
  refine g_i2c X at_24 (k1 &&& (255 : Int32)) (i2c_mask _) 25 rfl ?_
  refine g_istore X at_25 (Ls' := #[.val (.int k0), .val (.int k1), .val (.int k2), .val (.int k3), .val (.int (k0 &&& (255 : Int32))), .val (.int ((XT.ushr k0 (8 : Int32)) &&& (255 : Int32))), .val (.int (k1 &&& (255 : Int32))), .unset, .unset, .unset, .unset, .unset, .unset, .unset]) rfl 27 rfl ?_
  refine g_iloadN X at_27 rfl 28 rfl ?_
  refine g_bipush X (8 : Int32) at_28 (by decide) 30 rfl ?_
  refine g_iushr X at_30 _ rfl 31 rfl ?_
  refine g_sipush X (255 : Int32) at_31 (by decide) 34 rfl ?_
  refine g_iand X at_34 _ rfl 35 rfl ?_
  refine g_i2c X at_35 ((XT.ushr k1 (8 : Int32)) &&& (255 : Int32)) (i2c_mask _) 36 rfl ?_
  refine g_istore X at_36 (Ls' := #[.val (.int k0), .val (.int k1), .val (.int k2), .val (.int k3), .val (.int (k0 &&& (255 : Int32))), .val (.int ((XT.ushr k0 (8 : Int32)) &&& (255 : Int32))), .val (.int (k1 &&& (255 : Int32))), .val (.int ((XT.ushr k1 (8 : Int32)) &&& (255 : Int32))), .unset, .unset, .unset, .unset, .unset, .unset]) rfl 38 rfl ?_
  refine g_iloadN X at_38 rfl 39 rfl ?_
  refine g_sipush X (255 : Int32) at_39 (by decide) 42 rfl ?_
  refine g_iand X at_42 _ rfl 43 rfl ?_
  refine g_i2c X at_43 (k2 &&& (255 : Int32)) (i2c_mask _) 44 rfl ?_
  refine g_istore X at_44 (Ls' := #[.val (.int k0), .val (.int k1), .val (.int k2), .val (.int k3), .val (.int (k0 &&& (255 : Int32))), .val (.int ((XT.ushr k0 (8 : Int32)) &&& (255 : Int32))), .val (.int (k1 &&& (255 : Int32))), .val (.int ((XT.ushr k1 (8 : Int32)) &&& (255 : Int32))), .val (.int (k2 &&& (255 : Int32))), .unset, .unset, .unset, .unset, .unset]) rfl 46 rfl ?_
  refine g_iloadN X at_46 rfl 47 rfl ?_
  refine g_bipush X (8 : Int32) at_47 (by decide) 49 rfl ?_
  refine g_iushr X at_49 _ rfl 50 rfl ?_
  refine g_sipush X (255 : Int32) at_50 (by decide) 53 rfl ?_
  refine g_iand X at_53 _ rfl 54 rfl ?_
  refine g_i2c X at_54 ((XT.ushr k2 (8 : Int32)) &&& (255 : Int32)) (i2c_mask _) 55 rfl ?_
  refine g_istore X at_55 (Ls' := #[.val (.int k0), .val (.int k1), .val (.int k2), .val (.int k3), .val (.int (k0 &&& (255 : Int32))), .val (.int ((XT.ushr k0 (8 : Int32)) &&& (255 : Int32))), .val (.int (k1 &&& (255 : Int32))), .val (.int ((XT.ushr k1 (8 : Int32)) &&& (255 : Int32))), .val (.int (k2 &&& (255 : Int32))), .val (.int ((XT.ushr k2 (8 : Int32)) &&& (255 : Int32))), .unset, .unset, .unset, .unset]) rfl 57 rfl ?_
  refine g_bipush X (36 : Int32) at_57 (by decide) 59 rfl ?_
  refine g_newP X (hw _ (List.mem_of_getElem? (i := 0) rfl)) at_59 (by decide) 36 (by decide) (by decide) (ck := 1) rfl (cs := 36) rfl (by decide) (by decide) 61 rfl ?_
  intro a1 T2 h3 k4 ea5 X6 E7 A8
  have A9 : Arv Z h3 a1 k4 .char (36 : Int32) [.int (0 : Int32), .int (0 : Int32), .int (0 : Int32), .int (0 : Int32), .int (0 : Int32), .int (0 : Int32), .int (0 : Int32), .int (0 : Int32), .int (0 : Int32), .int (0 : Int32), .int (0 : Int32), .int (0 : Int32), .int (0 : Int32), .int (0 : Int32), .int (0 : Int32), .int (0 : Int32), .int (0 : Int32), .int (0 : Int32), .int (0 : Int32), .int (0 : Int32), .int (0 : Int32), .int (0 : Int32), .int (0 : Int32), .int (0 : Int32), .int (0 : Int32), .int (0 : Int32), .int (0 : Int32), .int (0 : Int32), .int (0 : Int32), .int (0 : Int32), .int (0 : Int32), .int (0 : Int32), .int (0 : Int32), .int (0 : Int32), .int (0 : Int32), .int (0 : Int32)] (.int (0 : Int32)) := A8.pad (pad_rep [] _ 36)
  have le_a1 : h.size ≤ a1 := by rw [ea5]; exact (Ext.refl h).1
  refine g_dup X6 at_61 rfl 62 rfl ?_
  refine g_iconst X6 (0 : Int32) at_62 (by decide) 63 rfl ?_
  refine g_bipush X6 (85 : Int32) at_63 (by decide) 65 rfl ?_
  refine g_castore X6 A9 0 (by decide) (by decide) (by decide) (by simp) (85 : Int32) (by decide) (by simp) at_65 66 rfl ?_
  intro T10 h11 X12 W13 B15
  have A14 : Arv Z h11 a1 k4 .char (36 : Int32) [.int (85 : Int32), .int (0 : Int32), .int (0 : Int32), .int (0 : Int32), .int (0 : Int32), .int (0 : Int32), .int (0 : Int32), .int (0 : Int32), .int (0 : Int32), .int (0 : Int32), .int (0 : Int32), .int (0 : Int32), .int (0 : Int32), .int (0 : Int32), .int (0 : Int32), .int (0 : Int32), .int (0 : Int32), .int (0 : Int32), .int (0 : Int32), .int (0 : Int32), .int (0 : Int32), .int (0 : Int32), .int (0 : Int32), .int (0 : Int32), .int (0 : Int32), .int (0 : Int32), .int (0 : Int32), .int (0 : Int32), .int (0 : Int32), .int (0 : Int32), .int (0 : Int32), .int (0 : Int32), .int (0 : Int32), .int (0 : Int32), .int (0 : Int32), .int (0 : Int32)] (.int (0 : Int32)) := B15
  refine g_dup X12 at_66 rfl 67 rfl ?_
  refine g_iconst X12 (1 : Int32) at_67 (by decide) 68 rfl ?_
  refine g_bipush X12 (115 : Int32) at_68 (by decide) 70 rfl ?_
  refine g_castore X12 A14 1 (by decide) (by decide) (by decide) (by simp) (115 : Int32) (by decide) (by simp) at_70 71 rfl ?_
  intro T16 h17 X18 W19 B21
  have A20 : Arv Z h17 a1 k4 .char (36 : Int32) [.int (85 : Int32), .int (115 : Int32), .int (0 : Int32), .int (0 : Int32), .int (0 : Int32), .int (0 : Int32), .int (0 : Int32), .int (0 : Int32), .int (0 : Int32), .int (0 : Int32), .int (0 : Int32), .int (0 : Int32), .int (0 : Int32), .int (0 : Int32), .int (0 : Int32), .int (0 : Int32), .int (0 : Int32), .int (0 : Int32), .int (0 : Int32), .int (0 : Int32), .int (0 : Int32), .int (0 : Int32), .int (0 : Int32), .int (0 : Int32), .int (0 : Int32), .int (0 : Int32), .int (0 : Int32), .int (0 : Int32), .int (0 : Int32), .int (0 : Int32), .int (0 : Int32), .int (0 : Int32), .int (0 : Int32), .int (0 : Int32), .int (0 : Int32), .int (0 : Int32)] (.int (0 : Int32)) := B21
  refine g_dup X18 at_71 rfl 72 rfl ?_
  refine g_iconst X18 (2 : Int32) at_72 (by decide) 73 rfl ?_
  refine g_bipush X18 (101 : Int32) at_73 (by decide) 75 rfl ?_
  refine g_castore X18 A20 2 (by decide) (by decide) (by decide) (by simp) (101 : Int32) (by decide) (by simp) at_75 76 rfl ?_
  intro T22 h23 X24 W25 B27
  have A26 : Arv Z h23 a1 k4 .char (36 : Int32) [.int (85 : Int32), .int (115 : Int32), .int (101 : Int32), .int (0 : Int32), .int (0 : Int32), .int (0 : Int32), .int (0 : Int32), .int (0 : Int32), .int (0 : Int32), .int (0 : Int32), .int (0 : Int32), .int (0 : Int32), .int (0 : Int32), .int (0 : Int32), .int (0 : Int32), .int (0 : Int32), .int (0 : Int32), .int (0 : Int32), .int (0 : Int32), .int (0 : Int32), .int (0 : Int32), .int (0 : Int32), .int (0 : Int32), .int (0 : Int32), .int (0 : Int32), .int (0 : Int32), .int (0 : Int32), .int (0 : Int32), .int (0 : Int32), .int (0 : Int32), .int (0 : Int32), .int (0 : Int32), .int (0 : Int32), .int (0 : Int32), .int (0 : Int32), .int (0 : Int32)] (.int (0 : Int32)) := B27
  refine g_dup X24 at_76 rfl 77 rfl ?_
  refine g_iconst X24 (3 : Int32) at_77 (by decide) 78 rfl ?_
  refine g_bipush X24 (114 : Int32) at_78 (by decide) 80 rfl ?_
  refine g_castore X24 A26 3 (by decide) (by decide) (by decide) (by simp) (114 : Int32) (by decide) (by simp) at_80 81 rfl ?_
  intro T28 h29 X30 W31 B33
  have A32 : Arv Z h29 a1 k4 .char (36 : Int32) [.int (85 : Int32), .int (115 : Int32), .int (101 : Int32), .int (114 : Int32), .int (0 : Int32), .int (0 : Int32), .int (0 : Int32), .int (0 : Int32), .int (0 : Int32), .int (0 : Int32), .int (0 : Int32), .int (0 : Int32), .int (0 : Int32), .int (0 : Int32), .int (0 : Int32), .int (0 : Int32), .int (0 : Int32), .int (0 : Int32), .int (0 : Int32), .int (0 : Int32), .int (0 : Int32), .int (0 : Int32), .int (0 : Int32), .int (0 : Int32), .int (0 : Int32), .int (0 : Int32), .int (0 : Int32), .int (0 : Int32), .int (0 : Int32), .int (0 : Int32), .int (0 : Int32), .int (0 : Int32), .int (0 : Int32), .int (0 : Int32), .int (0 : Int32), .int (0 : Int32)] (.int (0 : Int32)) := B33
  refine g_dup X30 at_81 rfl 82 rfl ?_
  refine g_iconst X30 (4 : Int32) at_82 (by decide) 83 rfl ?_
  refine g_bipush X30 (91 : Int32) at_83 (by decide) 85 rfl ?_
  refine g_castore X30 A32 4 (by decide) (by decide) (by decide) (by simp) (91 : Int32) (by decide) (by simp) at_85 86 rfl ?_
  intro T34 h35 X36 W37 B39
  have A38 : Arv Z h35 a1 k4 .char (36 : Int32) [.int (85 : Int32), .int (115 : Int32), .int (101 : Int32), .int (114 : Int32), .int (91 : Int32), .int (0 : Int32), .int (0 : Int32), .int (0 : Int32), .int (0 : Int32), .int (0 : Int32), .int (0 : Int32), .int (0 : Int32), .int (0 : Int32), .int (0 : Int32), .int (0 : Int32), .int (0 : Int32), .int (0 : Int32), .int (0 : Int32), .int (0 : Int32), .int (0 : Int32), .int (0 : Int32), .int (0 : Int32), .int (0 : Int32), .int (0 : Int32), .int (0 : Int32), .int (0 : Int32), .int (0 : Int32), .int (0 : Int32), .int (0 : Int32), .int (0 : Int32), .int (0 : Int32), .int (0 : Int32), .int (0 : Int32), .int (0 : Int32), .int (0 : Int32), .int (0 : Int32)] (.int (0 : Int32)) := B39
  refine g_dup X36 at_86 rfl 87 rfl ?_
  refine g_iconst X36 (5 : Int32) at_87 (by decide) 88 rfl ?_
  refine g_bipush X36 (105 : Int32) at_88 (by decide) 90 rfl ?_
  refine g_castore X36 A38 5 (by decide) (by decide) (by decide) (by simp) (105 : Int32) (by decide) (by simp) at_90 91 rfl ?_
  intro T40 h41 X42 W43 B45
  have A44 : Arv Z h41 a1 k4 .char (36 : Int32) [.int (85 : Int32), .int (115 : Int32), .int (101 : Int32), .int (114 : Int32), .int (91 : Int32), .int (105 : Int32), .int (0 : Int32), .int (0 : Int32), .int (0 : Int32), .int (0 : Int32), .int (0 : Int32), .int (0 : Int32), .int (0 : Int32), .int (0 : Int32), .int (0 : Int32), .int (0 : Int32), .int (0 : Int32), .int (0 : Int32), .int (0 : Int32), .int (0 : Int32), .int (0 : Int32), .int (0 : Int32), .int (0 : Int32), .int (0 : Int32), .int (0 : Int32), .int (0 : Int32), .int (0 : Int32), .int (0 : Int32), .int (0 : Int32), .int (0 : Int32), .int (0 : Int32), .int (0 : Int32), .int (0 : Int32), .int (0 : Int32), .int (0 : Int32), .int (0 : Int32)] (.int (0 : Int32)) := B45
  refine g_dup X42 at_91 rfl 92 rfl ?_
  refine g_bipush X42 (6 : Int32) at_92 (by decide) 94 rfl ?_
  refine g_bipush X42 (100 : Int32) at_94 (by decide) 96 rfl ?_
  refine g_castore X42 A44 6 (by decide) (by decide) (by decide) (by simp) (100 : Int32) (by decide) (by simp) at_96 97 rfl ?_
  intro T46 h47 X48 W49 B51
  have A50 : Arv Z h47 a1 k4 .char (36 : Int32) [.int (85 : Int32), .int (115 : Int32), .int (101 : Int32), .int (114 : Int32), .int (91 : Int32), .int (105 : Int32), .int (100 : Int32), .int (0 : Int32), .int (0 : Int32), .int (0 : Int32), .int (0 : Int32), .int (0 : Int32), .int (0 : Int32), .int (0 : Int32), .int (0 : Int32), .int (0 : Int32), .int (0 : Int32), .int (0 : Int32), .int (0 : Int32), .int (0 : Int32), .int (0 : Int32), .int (0 : Int32), .int (0 : Int32), .int (0 : Int32), .int (0 : Int32), .int (0 : Int32), .int (0 : Int32), .int (0 : Int32), .int (0 : Int32), .int (0 : Int32), .int (0 : Int32), .int (0 : Int32), .int (0 : Int32), .int (0 : Int32), .int (0 : Int32), .int (0 : Int32)] (.int (0 : Int32)) := B51
  refine g_dup X48 at_97 rfl 98 rfl ?_
  refine g_bipush X48 (7 : Int32) at_98 (by decide) 100 rfl ?_
  refine g_bipush X48 (61 : Int32) at_100 (by decide) 102 rfl ?_
  refine g_castore X48 A50 7 (by decide) (by decide) (by decide) (by simp) (61 : Int32) (by decide) (by simp) at_102 103 rfl ?_
  intro T52 h53 X54 W55 B57
  have A56 : Arv Z h53 a1 k4 .char (36 : Int32) [.int (85 : Int32), .int (115 : Int32), .int (101 : Int32), .int (114 : Int32), .int (91 : Int32), .int (105 : Int32), .int (100 : Int32), .int (61 : Int32), .int (0 : Int32), .int (0 : Int32), .int (0 : Int32), .int (0 : Int32), .int (0 : Int32), .int (0 : Int32), .int (0 : Int32), .int (0 : Int32), .int (0 : Int32), .int (0 : Int32), .int (0 : Int32), .int (0 : Int32), .int (0 : Int32), .int (0 : Int32), .int (0 : Int32), .int (0 : Int32), .int (0 : Int32), .int (0 : Int32), .int (0 : Int32), .int (0 : Int32), .int (0 : Int32), .int (0 : Int32), .int (0 : Int32), .int (0 : Int32), .int (0 : Int32), .int (0 : Int32), .int (0 : Int32), .int (0 : Int32)] (.int (0 : Int32)) := B57
  refine g_dup X54 at_103 rfl 104 rfl ?_
  refine g_bipush X54 (8 : Int32) at_104 (by decide) 106 rfl ?_
  refine g_iload X54 at_106 rfl 108 rfl ?_
  refine g_castore X54 A56 8 (by decide) (by decide) (by decide) (by simp) (k0 &&& (255 : Int32)) (nar_mask _) (by simp) at_108 109 rfl ?_
  intro T58 h59 X60 W61 B63
  have A62 : Arv Z h59 a1 k4 .char (36 : Int32) [.int (85 : Int32), .int (115 : Int32), .int (101 : Int32), .int (114 : Int32), .int (91 : Int32), .int (105 : Int32), .int (100 : Int32), .int (61 : Int32), .int (k0 &&& (255 : Int32)), .int (0 : Int32), .int (0 : Int32), .int (0 : Int32), .int (0 : Int32), .int (0 : Int32), .int (0 : Int32), .int (0 : Int32), .int (0 : Int32), .int (0 : Int32), .int (0 : Int32), .int (0 : Int32), .int (0 : Int32), .int (0 : Int32), .int (0 : Int32), .int (0 : Int32), .int (0 : Int32), .int (0 : Int32), .int (0 : Int32), .int (0 : Int32), .int (0 : Int32), .int (0 : Int32), .int (0 : Int32), .int (0 : Int32), .int (0 : Int32), .int (0 : Int32), .int (0 : Int32), .int (0 : Int32)] (.int (0 : Int32)) := B63
  refine g_dup X60 at_109 rfl 110 rfl ?_
  refine g_bipush X60 (9 : Int32) at_110 (by decide) 112 rfl ?_
  refine g_iload X60 at_112 rfl 114 rfl ?_
  refine g_castore X60 A62 9 (by decide) (by decide) (by decide) (by simp) ((XT.ushr k0 (8 : Int32)) &&& (255 : Int32)) (nar_mask _) (by simp) at_114 115 rfl ?_
  intro T64 h65 X66 W67 B69
  have A68 : Arv Z h65 a1 k4 .char (36 : Int32) [.int (85 : Int32), .int (115 : Int32), .int (101 : Int32), .int (114 : Int32), .int (91 : Int32), .int (105 : Int32), .int (100 : Int32), .int (61 : Int32), .int (k0 &&& (255 : Int32)), .int ((XT.ushr k0 (8 : Int32)) &&& (255 : Int32)), .int (0 : Int32), .int (0 : Int32), .int (0 : Int32), .int (0 : Int32), .int (0 : Int32), .int (0 : Int32), .int (0 : Int32), .int (0 : Int32), .int (0 : Int32), .int (0 : Int32), .int (0 : Int32), .int (0 : Int32), .int (0 : Int32), .int (0 : Int32), .int (0 : Int32), .int (0 : Int32), .int (0 : Int32), .int (0 : Int32), .int (0 : Int32), .int (0 : Int32), .int (0 : Int32), .int (0 : Int32), .int (0 : Int32), .int (0 : Int32), .int (0 : Int32), .int (0 : Int32)] (.int (0 : Int32)) := B69
  refine g_dup X66 at_115 rfl 116 rfl ?_
  refine g_bipush X66 (10 : Int32) at_116 (by decide) 118 rfl ?_
  refine g_bipush X66 (44 : Int32) at_118 (by decide) 120 rfl ?_
  refine g_castore X66 A68 10 (by decide) (by decide) (by decide) (by simp) (44 : Int32) (by decide) (by simp) at_120 121 rfl ?_
  intro T70 h71 X72 W73 B75
  have A74 : Arv Z h71 a1 k4 .char (36 : Int32) [.int (85 : Int32), .int (115 : Int32), .int (101 : Int32), .int (114 : Int32), .int (91 : Int32), .int (105 : Int32), .int (100 : Int32), .int (61 : Int32), .int (k0 &&& (255 : Int32)), .int ((XT.ushr k0 (8 : Int32)) &&& (255 : Int32)), .int (44 : Int32), .int (0 : Int32), .int (0 : Int32), .int (0 : Int32), .int (0 : Int32), .int (0 : Int32), .int (0 : Int32), .int (0 : Int32), .int (0 : Int32), .int (0 : Int32), .int (0 : Int32), .int (0 : Int32), .int (0 : Int32), .int (0 : Int32), .int (0 : Int32), .int (0 : Int32), .int (0 : Int32), .int (0 : Int32), .int (0 : Int32), .int (0 : Int32), .int (0 : Int32), .int (0 : Int32), .int (0 : Int32), .int (0 : Int32), .int (0 : Int32), .int (0 : Int32)] (.int (0 : Int32)) := B75
  refine g_dup X72 at_121 rfl 122 rfl ?_
  refine g_bipush X72 (11 : Int32) at_122 (by decide) 124 rfl ?_
  refine g_bipush X72 (32 : Int32) at_124 (by decide) 126 rfl ?_
  refine g_castore X72 A74 11 (by decide) (by decide) (by decide) (by simp) (32 : Int32) (by decide) (by simp) at_126 127 rfl ?_
  intro T76 h77 X78 W79 B81
  have A80 : Arv Z h77 a1 k4 .char (36 : Int32) [.int (85 : Int32), .int (115 : Int32), .int (101 : Int32), .int (114 : Int32), .int (91 : Int32), .int (105 : Int32), .int (100 : Int32), .int (61 : Int32), .int (k0 &&& (255 : Int32)), .int ((XT.ushr k0 (8 : Int32)) &&& (255 : Int32)), .int (44 : Int32), .int (32 : Int32), .int (0 : Int32), .int (0 : Int32), .int (0 : Int32), .int (0 : Int32), .int (0 : Int32), .int (0 : Int32), .int (0 : Int32), .int (0 : Int32), .int (0 : Int32), .int (0 : Int32), .int (0 : Int32), .int (0 : Int32), .int (0 : Int32), .int (0 : Int32), .int (0 : Int32), .int (0 : Int32), .int (0 : Int32), .int (0 : Int32), .int (0 : Int32), .int (0 : Int32), .int (0 : Int32), .int (0 : Int32), .int (0 : Int32), .int (0 : Int32)] (.int (0 : Int32)) := B81
  refine g_dup X78 at_127 rfl 128 rfl ?_
  refine g_bipush X78 (12 : Int32) at_128 (by decide) 130 rfl ?_
  refine g_bipush X78 (110 : Int32) at_130 (by decide) 132 rfl ?_
  refine g_castore X78 A80 12 (by decide) (by decide) (by decide) (by simp) (110 : Int32) (by decide) (by simp) at_132 133 rfl ?_
  intro T82 h83 X84 W85 B87
  have A86 : Arv Z h83 a1 k4 .char (36 : Int32) [.int (85 : Int32), .int (115 : Int32), .int (101 : Int32), .int (114 : Int32), .int (91 : Int32), .int (105 : Int32), .int (100 : Int32), .int (61 : Int32), .int (k0 &&& (255 : Int32)), .int ((XT.ushr k0 (8 : Int32)) &&& (255 : Int32)), .int (44 : Int32), .int (32 : Int32), .int (110 : Int32), .int (0 : Int32), .int (0 : Int32), .int (0 : Int32), .int (0 : Int32), .int (0 : Int32), .int (0 : Int32), .int (0 : Int32), .int (0 : Int32), .int (0 : Int32), .int (0 : Int32), .int (0 : Int32), .int (0 : Int32), .int (0 : Int32), .int (0 : Int32), .int (0 : Int32), .int (0 : Int32), .int (0 : Int32), .int (0 : Int32), .int (0 : Int32), .int (0 : Int32), .int (0 : Int32), .int (0 : Int32), .int (0 : Int32)] (.int (0 : Int32)) := B87
  refine g_dup X84 at_133 rfl 134 rfl ?_
  refine g_bipush X84 (13 : Int32) at_134 (by decide) 136 rfl ?_
  refine g_bipush X84 (97 : Int32) at_136 (by decide) 138 rfl ?_
  refine g_castore X84 A86 13 (by decide) (by decide) (by decide) (by simp) (97 : Int32) (by decide) (by simp) at_138 139 rfl ?_
  intro T88 h89 X90 W91 B93
  have A92 : Arv Z h89 a1 k4 .char (36 : Int32) [.int (85 : Int32), .int (115 : Int32), .int (101 : Int32), .int (114 : Int32), .int (91 : Int32), .int (105 : Int32), .int (100 : Int32), .int (61 : Int32), .int (k0 &&& (255 : Int32)), .int ((XT.ushr k0 (8 : Int32)) &&& (255 : Int32)), .int (44 : Int32), .int (32 : Int32), .int (110 : Int32), .int (97 : Int32), .int (0 : Int32), .int (0 : Int32), .int (0 : Int32), .int (0 : Int32), .int (0 : Int32), .int (0 : Int32), .int (0 : Int32), .int (0 : Int32), .int (0 : Int32), .int (0 : Int32), .int (0 : Int32), .int (0 : Int32), .int (0 : Int32), .int (0 : Int32), .int (0 : Int32), .int (0 : Int32), .int (0 : Int32), .int (0 : Int32), .int (0 : Int32), .int (0 : Int32), .int (0 : Int32), .int (0 : Int32)] (.int (0 : Int32)) := B93
  refine g_dup X90 at_139 rfl 140 rfl ?_
  refine g_bipush X90 (14 : Int32) at_140 (by decide) 142 rfl ?_
  refine g_bipush X90 (109 : Int32) at_142 (by decide) 144 rfl ?_
  refine g_castore X90 A92 14 (by decide) (by decide) (by decide) (by simp) (109 : Int32) (by decide) (by simp) at_144 145 rfl ?_
  intro T94 h95 X96 W97 B99
  have A98 : Arv Z h95 a1 k4 .char (36 : Int32) [.int (85 : Int32), .int (115 : Int32), .int (101 : Int32), .int (114 : Int32), .int (91 : Int32), .int (105 : Int32), .int (100 : Int32), .int (61 : Int32), .int (k0 &&& (255 : Int32)), .int ((XT.ushr k0 (8 : Int32)) &&& (255 : Int32)), .int (44 : Int32), .int (32 : Int32), .int (110 : Int32), .int (97 : Int32), .int (109 : Int32), .int (0 : Int32), .int (0 : Int32), .int (0 : Int32), .int (0 : Int32), .int (0 : Int32), .int (0 : Int32), .int (0 : Int32), .int (0 : Int32), .int (0 : Int32), .int (0 : Int32), .int (0 : Int32), .int (0 : Int32), .int (0 : Int32), .int (0 : Int32), .int (0 : Int32), .int (0 : Int32), .int (0 : Int32), .int (0 : Int32), .int (0 : Int32), .int (0 : Int32), .int (0 : Int32)] (.int (0 : Int32)) := B99
  refine g_dup X96 at_145 rfl 146 rfl ?_
  refine g_bipush X96 (15 : Int32) at_146 (by decide) 148 rfl ?_
  refine g_bipush X96 (101 : Int32) at_148 (by decide) 150 rfl ?_
  refine g_castore X96 A98 15 (by decide) (by decide) (by decide) (by simp) (101 : Int32) (by decide) (by simp) at_150 151 rfl ?_
  intro T100 h101 X102 W103 B105
  have A104 : Arv Z h101 a1 k4 .char (36 : Int32) [.int (85 : Int32), .int (115 : Int32), .int (101 : Int32), .int (114 : Int32), .int (91 : Int32), .int (105 : Int32), .int (100 : Int32), .int (61 : Int32), .int (k0 &&& (255 : Int32)), .int ((XT.ushr k0 (8 : Int32)) &&& (255 : Int32)), .int (44 : Int32), .int (32 : Int32), .int (110 : Int32), .int (97 : Int32), .int (109 : Int32), .int (101 : Int32), .int (0 : Int32), .int (0 : Int32), .int (0 : Int32), .int (0 : Int32), .int (0 : Int32), .int (0 : Int32), .int (0 : Int32), .int (0 : Int32), .int (0 : Int32), .int (0 : Int32), .int (0 : Int32), .int (0 : Int32), .int (0 : Int32), .int (0 : Int32), .int (0 : Int32), .int (0 : Int32), .int (0 : Int32), .int (0 : Int32), .int (0 : Int32), .int (0 : Int32)] (.int (0 : Int32)) := B105
  refine g_dup X102 at_151 rfl 152 rfl ?_
  refine g_bipush X102 (16 : Int32) at_152 (by decide) 154 rfl ?_
  refine g_bipush X102 (61 : Int32) at_154 (by decide) 156 rfl ?_
  refine g_castore X102 A104 16 (by decide) (by decide) (by decide) (by simp) (61 : Int32) (by decide) (by simp) at_156 157 rfl ?_
  intro T106 h107 X108 W109 B111
  have A110 : Arv Z h107 a1 k4 .char (36 : Int32) [.int (85 : Int32), .int (115 : Int32), .int (101 : Int32), .int (114 : Int32), .int (91 : Int32), .int (105 : Int32), .int (100 : Int32), .int (61 : Int32), .int (k0 &&& (255 : Int32)), .int ((XT.ushr k0 (8 : Int32)) &&& (255 : Int32)), .int (44 : Int32), .int (32 : Int32), .int (110 : Int32), .int (97 : Int32), .int (109 : Int32), .int (101 : Int32), .int (61 : Int32), .int (0 : Int32), .int (0 : Int32), .int (0 : Int32), .int (0 : Int32), .int (0 : Int32), .int (0 : Int32), .int (0 : Int32), .int (0 : Int32), .int (0 : Int32), .int (0 : Int32), .int (0 : Int32), .int (0 : Int32), .int (0 : Int32), .int (0 : Int32), .int (0 : Int32), .int (0 : Int32), .int (0 : Int32), .int (0 : Int32), .int (0 : Int32)] (.int (0 : Int32)) := B111
  refine g_dup X108 at_157 rfl 158 rfl ?_
  refine g_bipush X108 (17 : Int32) at_158 (by decide) 160 rfl ?_
  refine g_iload X108 at_160 rfl 162 rfl ?_
  refine g_castore X108 A110 17 (by decide) (by decide) (by decide) (by simp) (k1 &&& (255 : Int32)) (nar_mask _) (by simp) at_162 163 rfl ?_
  intro T112 h113 X114 W115 B117
  have A116 : Arv Z h113 a1 k4 .char (36 : Int32) [.int (85 : Int32), .int (115 : Int32), .int (101 : Int32), .int (114 : Int32), .int (91 : Int32), .int (105 : Int32), .int (100 : Int32), .int (61 : Int32), .int (k0 &&& (255 : Int32)), .int ((XT.ushr k0 (8 : Int32)) &&& (255 : Int32)), .int (44 : Int32), .int (32 : Int32), .int (110 : Int32), .int (97 : Int32), .int (109 : Int32), .int (101 : Int32), .int (61 : Int32), .int (k1 &&& (255 : Int32)), .int (0 : Int32), .int (0 : Int32), .int (0 : Int32), .int (0 : Int32), .int (0 : Int32), .int (0 : Int32), .int (0 : Int32), .int (0 : Int32), .int (0 : Int32), .int (0 : Int32), .int (0 : Int32), .int (0 : Int32), .int (0 : Int32), .int (0 : Int32), .int (0 : Int32), .int (0 : Int32), .int (0 : Int32), .int (0 : Int32)] (.int (0 : Int32)) := B117
  refine g_dup X114 at_163 rfl 164 rfl ?_
  refine g_bipush X114 (18 : Int32) at_164 (by decide) 166 rfl ?_
  refine g_iload X114 at_166 rfl 168 rfl ?_
  refine g_castore X114 A116 18 (by decide) (by decide) (by decide) (by simp) ((XT.ushr k1 (8 : Int32)) &&& (255 : Int32)) (nar_mask _) (by simp) at_168 169 rfl ?_
  intro T118 h119 X120 W121 B123
  have A122 : Arv Z h119 a1 k4 .char (36 : Int32) [.int (85 : Int32), .int (115 : Int32), .int (101 : Int32), .int (114 : Int32), .int (91 : Int32), .int (105 : Int32), .int (100 : Int32), .int (61 : Int32), .int (k0 &&& (255 : Int32)), .int ((XT.ushr k0 (8 : Int32)) &&& (255 : Int32)), .int (44 : Int32), .int (32 : Int32), .int (110 : Int32), .int (97 : Int32), .int (109 : Int32), .int (101 : Int32), .int (61 : Int32), .int (k1 &&& (255 : Int32)), .int ((XT.ushr k1 (8 : Int32)) &&& (255 : Int32)), .int (0 : Int32), .int (0 : Int32), .int (0 : Int32), .int (0 : Int32), .int (0 : Int32), .int (0 : Int32), .int (0 : Int32), .int (0 : Int32), .int (0 : Int32), .int (0 : Int32), .int (0 : Int32), .int (0 : Int32), .int (0 : Int32), .int (0 : Int32), .int (0 : Int32), .int (0 : Int32), .int (0 : Int32)] (.int (0 : Int32)) := B123
  refine g_dup X120 at_169 rfl 170 rfl ?_
  refine g_bipush X120 (19 : Int32) at_170 (by decide) 172 rfl ?_
  refine g_bipush X120 (44 : Int32) at_172 (by decide) 174 rfl ?_
  refine g_castore X120 A122 19 (by decide) (by decide) (by decide) (by simp) (44 : Int32) (by decide) (by simp) at_174 175 rfl ?_
  intro T124 h125 X126 W127 B129
  have A128 : Arv Z h125 a1 k4 .char (36 : Int32) [.int (85 : Int32), .int (115 : Int32), .int (101 : Int32), .int (114 : Int32), .int (91 : Int32), .int (105 : Int32), .int (100 : Int32), .int (61 : Int32), .int (k0 &&& (255 : Int32)), .int ((XT.ushr k0 (8 : Int32)) &&& (255 : Int32)), .int (44 : Int32), .int (32 : Int32), .int (110 : Int32), .int (97 : Int32), .int (109 : Int32), .int (101 : Int32), .int (61 : Int32), .int (k1 &&& (255 : Int32)), .int ((XT.ushr k1 (8 : Int32)) &&& (255 : Int32)), .int (44 : Int32), .int (0 : Int32), .int (0 : Int32), .int (0 : Int32), .int (0 : Int32), .int (0 : Int32), .int (0 : Int32), .int (0 : Int32), .int (0 : Int32), .int (0 : Int32), .int (0 : Int32), .int (0 : Int32), .int (0 : Int32), .int (0 : Int32), .int (0 : Int32), .int (0 : Int32), .int (0 : Int32)] (.int (0 : Int32)) := B129
  refine g_dup X126 at_175 rfl 176 rfl ?_
  refine g_bipush X126 (20 : Int32) at_176 (by decide) 178 rfl ?_
  refine g_bipush X126 (32 : Int32) at_178 (by decide) 180 rfl ?_
  refine g_castore X126 A128 20 (by decide) (by decide) (by decide) (by simp) (32 : Int32) (by decide) (by simp) at_180 181 rfl ?_
  intro T130 h131 X132 W133 B135
  have A134 : Arv Z h131 a1 k4 .char (36 : Int32) [.int (85 : Int32), .int (115 : Int32), .int (101 : Int32), .int (114 : Int32), .int (91 : Int32), .int (105 : Int32), .int (100 : Int32), .int (61 : Int32), .int (k0 &&& (255 : Int32)), .int ((XT.ushr k0 (8 : Int32)) &&& (255 : Int32)), .int (44 : Int32), .int (32 : Int32), .int (110 : Int32), .int (97 : Int32), .int (109 : Int32), .int (101 : Int32), .int (61 : Int32), .int (k1 &&& (255 : Int32)), .int ((XT.ushr k1 (8 : Int32)) &&& (255 : Int32)), .int (44 : Int32), .int (32 : Int32), .int (0 : Int32), .int (0 : Int32), .int (0 : Int32), .int (0 : Int32), .int (0 : Int32), .int (0 : Int32), .int (0 : Int32), .int (0 : Int32), .int (0 : Int32), .int (0 : Int32), .int (0 : Int32), .int (0 : Int32), .int (0 : Int32), .int (0 : Int32), .int (0 : Int32)] (.int (0 : Int32)) := B135
  refine g_dup X132 at_181 rfl 182 rfl ?_
  refine g_bipush X132 (21 : Int32) at_182 (by decide) 184 rfl ?_
  refine g_bipush X132 (100 : Int32) at_184 (by decide) 186 rfl ?_
  refine g_castore X132 A134 21 (by decide) (by decide) (by decide) (by simp) (100 : Int32) (by decide) (by simp) at_186 187 rfl ?_
  intro T136 h137 X138 W139 B141
  have A140 : Arv Z h137 a1 k4 .char (36 : Int32) [.int (85 : Int32), .int (115 : Int32), .int (101 : Int32), .int (114 : Int32), .int (91 : Int32), .int (105 : Int32), .int (100 : Int32), .int (61 : Int32), .int (k0 &&& (255 : Int32)), .int ((XT.ushr k0 (8 : Int32)) &&& (255 : Int32)), .int (44 : Int32), .int (32 : Int32), .int (110 : Int32), .int (97 : Int32), .int (109 : Int32), .int (101 : Int32), .int (61 : Int32), .int (k1 &&& (255 : Int32)), .int ((XT.ushr k1 (8 : Int32)) &&& (255 : Int32)), .int (44 : Int32), .int (32 : Int32), .int (100 : Int32), .int (0 : Int32), .int (0 : Int32), .int (0 : Int32), .int (0 : Int32), .int (0 : Int32), .int (0 : Int32), .int (0 : Int32), .int (0 : Int32), .int (0 : Int32), .int (0 : Int32), .int (0 : Int32), .int (0 : Int32), .int (0 : Int32), .int (0 : Int32)] (.int (0 : Int32)) := B141
  refine g_dup X138 at_187 rfl 188 rfl ?_
  refine g_bipush X138 (22 : Int32) at_188 (by decide) 190 rfl ?_
  refine g_bipush X138 (105 : Int32) at_190 (by decide) 192 rfl ?_
  refine g_castore X138 A140 22 (by decide) (by decide) (by decide) (by simp) (105 : Int32) (by decide) (by simp) at_192 193 rfl ?_
  intro T142 h143 X144 W145 B147
  have A146 : Arv Z h143 a1 k4 .char (36 : Int32) [.int (85 : Int32), .int (115 : Int32), .int (101 : Int32), .int (114 : Int32), .int (91 : Int32), .int (105 : Int32), .int (100 : Int32), .int (61 : Int32), .int (k0 &&& (255 : Int32)), .int ((XT.ushr k0 (8 : Int32)) &&& (255 : Int32)), .int (44 : Int32), .int (32 : Int32), .int (110 : Int32), .int (97 : Int32), .int (109 : Int32), .int (101 : Int32), .int (61 : Int32), .int (k1 &&& (255 : Int32)), .int ((XT.ushr k1 (8 : Int32)) &&& (255 : Int32)), .int (44 : Int32), .int (32 : Int32), .int (100 : Int32), .int (105 : Int32), .int (0 : Int32), .int (0 : Int32), .int (0 : Int32), .int (0 : Int32), .int (0 : Int32), .int (0 : Int32), .int (0 : Int32), .int (0 : Int32), .int (0 : Int32), .int (0 : Int32), .int (0 : Int32), .int (0 : Int32), .int (0 : Int32)] (.int (0 : Int32)) := B147
  refine g_dup X144 at_193 rfl 194 rfl ?_
  refine g_bipush X144 (23 : Int32) at_194 (by decide) 196 rfl ?_
  refine g_bipush X144 (115 : Int32) at_196 (by decide) 198 rfl ?_
  refine g_castore X144 A146 23 (by decide) (by decide) (by decide) (by simp) (115 : Int32) (by decide) (by simp) at_198 199 rfl ?_
  intro T148 h149 X150 W151 B153
  have A152 : Arv Z h149 a1 k4 .char (36 : Int32) [.int (85 : Int32), .int (115 : Int32), .int (101 : Int32), .int (114 : Int32), .int (91 : Int32), .int (105 : Int32), .int (100 : Int32), .int (61 : Int32), .int (k0 &&& (255 : Int32)), .int ((XT.ushr k0 (8 : Int32)) &&& (255 : Int32)), .int (44 : Int32), .int (32 : Int32), .int (110 : Int32), .int (97 : Int32), .int (109 : Int32), .int (101 : Int32), .int (61 : Int32), .int (k1 &&& (255 : Int32)), .int ((XT.ushr k1 (8 : Int32)) &&& (255 : Int32)), .int (44 : Int32), .int (32 : Int32), .int (100 : Int32), .int (105 : Int32), .int (115 : Int32), .int (0 : Int32), .int (0 : Int32), .int (0 : Int32), .int (0 : Int32), .int (0 : Int32), .int (0 : Int32), .int (0 : Int32), .int (0 : Int32), .int (0 : Int32), .int (0 : Int32), .int (0 : Int32), .int (0 : Int32)] (.int (0 : Int32)) := B153
  refine g_dup X150 at_199 rfl 200 rfl ?_
  refine g_bipush X150 (24 : Int32) at_200 (by decide) 202 rfl ?_
  refine g_bipush X150 (112 : Int32) at_202 (by decide) 204 rfl ?_
  refine g_castore X150 A152 24 (by decide) (by decide) (by decide) (by simp) (112 : Int32) (by decide) (by simp) at_204 205 rfl ?_
  intro T154 h155 X156 W157 B159
  have A158 : Arv Z h155 a1 k4 .char (36 : Int32) [.int (85 : Int32), .int (115 : Int32), .int (101 : Int32), .int (114 : Int32), .int (91 : Int32), .int (105 : Int32), .int (100 : Int32), .int (61 : Int32), .int (k0 &&& (255 : Int32)), .int ((XT.ushr k0 (8 : Int32)) &&& (255 : Int32)), .int (44 : Int32), .int (32 : Int32), .int (110 : Int32), .int (97 : Int32), .int (109 : Int32), .int (101 : Int32), .int (61 : Int32), .int (k1 &&& (255 : Int32)), .int ((XT.ushr k1 (8 : Int32)) &&& (255 : Int32)), .int (44 : Int32), .int (32 : Int32), .int (100 : Int32), .int (105 : Int32), .int (115 : Int32), .int (112 : Int32), .int (0 : Int32), .int (0 : Int32), .int (0 : Int32), .int (0 : Int32), .int (0 : Int32), .int (0 : Int32), .int (0 : Int32), .int (0 : Int32), .int (0 : Int32), .int (0 : Int32), .int (0 : Int32)] (.int (0 : Int32)) := B159
  refine g_dup X156 at_205 rfl 206 rfl ?_
  refine g_bipush X156 (25 : Int32) at_206 (by decide) 208 rfl ?_
  refine g_bipush X156 (108 : Int32) at_208 (by decide) 210 rfl ?_
  refine g_castore X156 A158 25 (by decide) (by decide) (by decide) (by simp) (108 : Int32) (by decide) (by simp) at_210 211 rfl ?_
  intro T160 h161 X162 W163 B165
  have A164 : Arv Z h161 a1 k4 .char (36 : Int32) [.int (85 : Int32), .int (115 : Int32), .int (101 : Int32), .int (114 : Int32), .int (91 : Int32), .int (105 : Int32), .int (100 : Int32), .int (61 : Int32), .int (k0 &&& (255 : Int32)), .int ((XT.ushr k0 (8 : Int32)) &&& (255 : Int32)), .int (44 : Int32), .int (32 : Int32), .int (110 : Int32), .int (97 : Int32), .int (109 : Int32), .int (101 : Int32), .int (61 : Int32), .int (k1 &&& (255 : Int32)), .int ((XT.ushr k1 (8 : Int32)) &&& (255 : Int32)), .int (44 : Int32), .int (32 : Int32), .int (100 : Int32), .int (105 : Int32), .int (115 : Int32), .int (112 : Int32), .int (108 : Int32), .int (0 : Int32), .int (0 : Int32), .int (0 : Int32), .int (0 : Int32), .int (0 : Int32), .int (0 : Int32), .int (0 : Int32), .int (0 : Int32), .int (0 : Int32), .int (0 : Int32)] (.int (0 : Int32)) := B165
  refine g_dup X162 at_211 rfl 212 rfl ?_
  refine g_bipush X162 (26 : Int32) at_212 (by decide) 214 rfl ?_
  refine g_bipush X162 (97 : Int32) at_214 (by decide) 216 rfl ?_
  refine g_castore X162 A164 26 (by decide) (by decide) (by decide) (by simp) (97 : Int32) (by decide) (by simp) at_216 217 rfl ?_
  intro T166 h167 X168 W169 B171
  have A170 : Arv Z h167 a1 k4 .char (36 : Int32) [.int (85 : Int32), .int (115 : Int32), .int (101 : Int32), .int (114 : Int32), .int (91 : Int32), .int (105 : Int32), .int (100 : Int32), .int (61 : Int32), .int (k0 &&& (255 : Int32)), .int ((XT.ushr k0 (8 : Int32)) &&& (255 : Int32)), .int (44 : Int32), .int (32 : Int32), .int (110 : Int32), .int (97 : Int32), .int (109 : Int32), .int (101 : Int32), .int (61 : Int32), .int (k1 &&& (255 : Int32)), .int ((XT.ushr k1 (8 : Int32)) &&& (255 : Int32)), .int (44 : Int32), .int (32 : Int32), .int (100 : Int32), .int (105 : Int32), .int (115 : Int32), .int (112 : Int32), .int (108 : Int32), .int (97 : Int32), .int (0 : Int32), .int (0 : Int32), .int (0 : Int32), .int (0 : Int32), .int (0 : Int32), .int (0 : Int32), .int (0 : Int32), .int (0 : Int32), .int (0 : Int32)] (.int (0 : Int32)) := B171
  refine g_dup X168 at_217 rfl 218 rfl ?_
  refine g_bipush X168 (27 : Int32) at_218 (by decide) 220 rfl ?_
  refine g_bipush X168 (121 : Int32) at_220 (by decide) 222 rfl ?_
  refine g_castore X168 A170 27 (by decide) (by decide) (by decide) (by simp) (121 : Int32) (by decide) (by simp) at_222 223 rfl ?_
  intro T172 h173 X174 W175 B177
  have A176 : Arv Z h173 a1 k4 .char (36 : Int32) [.int (85 : Int32), .int (115 : Int32), .int (101 : Int32), .int (114 : Int32), .int (91 : Int32), .int (105 : Int32), .int (100 : Int32), .int (61 : Int32), .int (k0 &&& (255 : Int32)), .int ((XT.ushr k0 (8 : Int32)) &&& (255 : Int32)), .int (44 : Int32), .int (32 : Int32), .int (110 : Int32), .int (97 : Int32), .int (109 : Int32), .int (101 : Int32), .int (61 : Int32), .int (k1 &&& (255 : Int32)), .int ((XT.ushr k1 (8 : Int32)) &&& (255 : Int32)), .int (44 : Int32), .int (32 : Int32), .int (100 : Int32), .int (105 : Int32), .int (115 : Int32), .int (112 : Int32), .int (108 : Int32), .int (97 : Int32), .int (121 : Int32), .int (0 : Int32), .int (0 : Int32), .int (0 : Int32), .int (0 : Int32), .int (0 : Int32), .int (0 : Int32), .int (0 : Int32), .int (0 : Int32)] (.int (0 : Int32)) := B177
  refine g_dup X174 at_223 rfl 224 rfl ?_
  refine g_bipush X174 (28 : Int32) at_224 (by decide) 226 rfl ?_
  refine g_bipush X174 (78 : Int32) at_226 (by decide) 228 rfl ?_
  refine g_castore X174 A176 28 (by decide) (by decide) (by decide) (by simp) (78 : Int32) (by decide) (by simp) at_228 229 rfl ?_
  intro T178 h179 X180 W181 B183
  have A182 : Arv Z h179 a1 k4 .char (36 : Int32) [.int (85 : Int32), .int (115 : Int32), .int (101 : Int32), .int (114 : Int32), .int (91 : Int32), .int (105 : Int32), .int (100 : Int32), .int (61 : Int32), .int (k0 &&& (255 : Int32)), .int ((XT.ushr k0 (8 : Int32)) &&& (255 : Int32)), .int (44 : Int32), .int (32 : Int32), .int (110 : Int32), .int (97 : Int32), .int (109 : Int32), .int (101 : Int32), .int (61 : Int32), .int (k1 &&& (255 : Int32)), .int ((XT.ushr k1 (8 : Int32)) &&& (255 : Int32)), .int (44 : Int32), .int (32 : Int32), .int (100 : Int32), .int (105 : Int32), .int (115 : Int32), .int (112 : Int32), .int (108 : Int32), .int (97 : Int32), .int (121 : Int32), .int (78 : Int32), .int (0 : Int32), .int (0 : Int32), .int (0 : Int32), .int (0 : Int32), .int (0 : Int32), .int (0 : Int32), .int (0 : Int32)] (.int (0 : Int32)) := B183
  refine g_dup X180 at_229 rfl 230 rfl ?_
  refine g_bipush X180 (29 : Int32) at_230 (by decide) 232 rfl ?_
  refine g_bipush X180 (97 : Int32) at_232 (by decide) 234 rfl ?_
  refine g_castore X180 A182 29 (by decide) (by decide) (by decide) (by simp) (97 : Int32) (by decide) (by simp) at_234 235 rfl ?_
  intro T184 h185 X186 W187 B189
  have A188 : Arv Z h185 a1 k4 .char (36 : Int32) [.int (85 : Int32), .int (115 : Int32), .int (101 : Int32), .int (114 : Int32), .int (91 : Int32), .int (105 : Int32), .int (100 : Int32), .int (61 : Int32), .int (k0 &&& (255 : Int32)), .int ((XT.ushr k0 (8 : Int32)) &&& (255 : Int32)), .int (44 : Int32), .int (32 : Int32), .int (110 : Int32), .int (97 : Int32), .int (109 : Int32), .int (101 : Int32), .int (61 : Int32), .int (k1 &&& (255 : Int32)), .int ((XT.ushr k1 (8 : Int32)) &&& (255 : Int32)), .int (44 : Int32), .int (32 : Int32), .int (100 : Int32), .int (105 : Int32), .int (115 : Int32), .int (112 : Int32), .int (108 : Int32), .int (97 : Int32), .int (121 : Int32), .int (78 : Int32), .int (97 : Int32), .int (0 : Int32), .int (0 : Int32), .int (0 : Int32), .int (0 : Int32), .int (0 : Int32), .int (0 : Int32)] (.int (0 : Int32)) := B189
  refine g_dup X186 at_235 rfl 236 rfl ?_
  refine g_bipush X186 (30 : Int32) at_236 (by decide) 238 rfl ?_
  refine g_bipush X186 (109 : Int32) at_238 (by decide) 240 rfl ?_
  refine g_castore X186 A188 30 (by decide) (by decide) (by decide) (by simp) (109 : Int32) (by decide) (by simp) at_240 241 rfl ?_
  intro T190 h191 X192 W193 B195
  have A194 : Arv Z h191 a1 k4 .char (36 : Int32) [.int (85 : Int32), .int (115 : Int32), .int (101 : Int32), .int (114 : Int32), .int (91 : Int32), .int (105 : Int32), .int (100 : Int32), .int (61 : Int32), .int (k0 &&& (255 : Int32)), .int ((XT.ushr k0 (8 : Int32)) &&& (255 : Int32)), .int (44 : Int32), .int (32 : Int32), .int (110 : Int32), .int (97 : Int32), .int (109 : Int32), .int (101 : Int32), .int (61 : Int32), .int (k1 &&& (255 : Int32)), .int ((XT.ushr k1 (8 : Int32)) &&& (255 : Int32)), .int (44 : Int32), .int (32 : Int32), .int (100 : Int32), .int (105 : Int32), .int (115 : Int32), .int (112 : Int32), .int (108 : Int32), .int (97 : Int32), .int (121 : Int32), .int (78 : Int32), .int (97 : Int32), .int (109 : Int32), .int (0 : Int32), .int (0 : Int32), .int (0 : Int32), .int (0 : Int32), .int (0 : Int32)] (.int (0 : Int32)) := B195
  refine g_dup X192 at_241 rfl 242 rfl ?_
  refine g_bipush X192 (31 : Int32) at_242 (by decide) 244 rfl ?_
  refine g_bipush X192 (101 : Int32) at_244 (by decide) 246 rfl ?_
  refine g_castore X192 A194 31 (by decide) (by decide) (by decide) (by simp) (101 : Int32) (by decide) (by simp) at_246 247 rfl ?_
  intro T196 h197 X198 W199 B201
  have A200 : Arv Z h197 a1 k4 .char (36 : Int32) [.int (85 : Int32), .int (115 : Int32), .int (101 : Int32), .int (114 : Int32), .int (91 : Int32), .int (105 : Int32), .int (100 : Int32), .int (61 : Int32), .int (k0 &&& (255 : Int32)), .int ((XT.ushr k0 (8 : Int32)) &&& (255 : Int32)), .int (44 : Int32), .int (32 : Int32), .int (110 : Int32), .int (97 : Int32), .int (109 : Int32), .int (101 : Int32), .int (61 : Int32), .int (k1 &&& (255 : Int32)), .int ((XT.ushr k1 (8 : Int32)) &&& (255 : Int32)), .int (44 : Int32), .int (32 : Int32), .int (100 : Int32), .int (105 : Int32), .int (115 : Int32), .int (112 : Int32), .int (108 : Int32), .int (97 : Int32), .int (121 : Int32), .int (78 : Int32), .int (97 : Int32), .int (109 : Int32), .int (101 : Int32), .int (0 : Int32), .int (0 : Int32), .int (0 : Int32), .int (0 : Int32)] (.int (0 : Int32)) := B201
  refine g_dup X198 at_247 rfl 248 rfl ?_
  refine g_bipush X198 (32 : Int32) at_248 (by decide) 250 rfl ?_
  refine g_bipush X198 (61 : Int32) at_250 (by decide) 252 rfl ?_
  refine g_castore X198 A200 32 (by decide) (by decide) (by decide) (by simp) (61 : Int32) (by decide) (by simp) at_252 253 rfl ?_
  intro T202 h203 X204 W205 B207
  have A206 : Arv Z h203 a1 k4 .char (36 : Int32) [.int (85 : Int32), .int (115 : Int32), .int (101 : Int32), .int (114 : Int32), .int (91 : Int32), .int (105 : Int32), .int (100 : Int32), .int (61 : Int32), .int (k0 &&& (255 : Int32)), .int ((XT.ushr k0 (8 : Int32)) &&& (255 : Int32)), .int (44 : Int32), .int (32 : Int32), .int (110 : Int32), .int (97 : Int32), .int (109 : Int32), .int (101 : Int32), .int (61 : Int32), .int (k1 &&& (255 : Int32)), .int ((XT.ushr k1 (8 : Int32)) &&& (255 : Int32)), .int (44 : Int32), .int (32 : Int32), .int (100 : Int32), .int (105 : Int32), .int (115 : Int32), .int (112 : Int32), .int (108 : Int32), .int (97 : Int32), .int (121 : Int32), .int (78 : Int32), .int (97 : Int32), .int (109 : Int32), .int (101 : Int32), .int (61 : Int32), .int (0 : Int32), .int (0 : Int32), .int (0 : Int32)] (.int (0 : Int32)) := B207
  refine g_dup X204 at_253 rfl 254 rfl ?_
  refine g_bipush X204 (33 : Int32) at_254 (by decide) 256 rfl ?_
  refine g_iload X204 at_256 rfl 258 rfl ?_
  refine g_castore X204 A206 33 (by decide) (by decide) (by decide) (by simp) (k2 &&& (255 : Int32)) (nar_mask _) (by simp) at_258 259 rfl ?_
  intro T208 h209 X210 W211 B213
  have A212 : Arv Z h209 a1 k4 .char (36 : Int32) [.int (85 : Int32), .int (115 : Int32), .int (101 : Int32), .int (114 : Int32), .int (91 : Int32), .int (105 : Int32), .int (100 : Int32), .int (61 : Int32), .int (k0 &&& (255 : Int32)), .int ((XT.ushr k0 (8 : Int32)) &&& (255 : Int32)), .int (44 : Int32), .int (32 : Int32), .int (110 : Int32), .int (97 : Int32), .int (109 : Int32), .int (101 : Int32), .int (61 : Int32), .int (k1 &&& (255 : Int32)), .int ((XT.ushr k1 (8 : Int32)) &&& (255 : Int32)), .int (44 : Int32), .int (32 : Int32), .int (100 : Int32), .int (105 : Int32), .int (115 : Int32), .int (112 : Int32), .int (108 : Int32), .int (97 : Int32), .int (121 : Int32), .int (78 : Int32), .int (97 : Int32), .int (109 : Int32), .int (101 : Int32), .int (61 : Int32), .int (k2 &&& (255 : Int32)), .int (0 : Int32), .int (0 : Int32)] (.int (0 : Int32)) := B213
  refine g_dup X210 at_259 rfl 260 rfl ?_
  refine g_bipush X210 (34 : Int32) at_260 (by decide) 262 rfl ?_
  refine g_iload X210 at_262 rfl 264 rfl ?_
  refine g_castore X210 A212 34 (by decide) (by decide) (by decide) (by simp) ((XT.ushr k2 (8 : Int32)) &&& (255 : Int32)) (nar_mask _) (by simp) at_264 265 rfl ?_
  intro T214 h215 X216 W217 B219
  have A218 : Arv Z h215 a1 k4 .char (36 : Int32) [.int (85 : Int32), .int (115 : Int32), .int (101 : Int32), .int (114 : Int32), .int (91 : Int32), .int (105 : Int32), .int (100 : Int32), .int (61 : Int32), .int (k0 &&& (255 : Int32)), .int ((XT.ushr k0 (8 : Int32)) &&& (255 : Int32)), .int (44 : Int32), .int (32 : Int32), .int (110 : Int32), .int (97 : Int32), .int (109 : Int32), .int (101 : Int32), .int (61 : Int32), .int (k1 &&& (255 : Int32)), .int ((XT.ushr k1 (8 : Int32)) &&& (255 : Int32)), .int (44 : Int32), .int (32 : Int32), .int (100 : Int32), .int (105 : Int32), .int (115 : Int32), .int (112 : Int32), .int (108 : Int32), .int (97 : Int32), .int (121 : Int32), .int (78 : Int32), .int (97 : Int32), .int (109 : Int32), .int (101 : Int32), .int (61 : Int32), .int (k2 &&& (255 : Int32)), .int ((XT.ushr k2 (8 : Int32)) &&& (255 : Int32)), .int (0 : Int32)] (.int (0 : Int32)) := B219
  refine g_dup X216 at_265 rfl 266 rfl ?_
  refine g_bipush X216 (35 : Int32) at_266 (by decide) 268 rfl ?_
  refine g_bipush X216 (93 : Int32) at_268 (by decide) 270 rfl ?_
  refine g_castore X216 A218 35 (by decide) (by decide) (by decide) (by simp) (93 : Int32) (by decide) (by simp) at_270 271 rfl ?_
  intro T220 h221 X222 W223 B225
  have A224 : Arv Z h221 a1 k4 .char (36 : Int32) [.int (85 : Int32), .int (115 : Int32), .int (101 : Int32), .int (114 : Int32), .int (91 : Int32), .int (105 : Int32), .int (100 : Int32), .int (61 : Int32), .int (k0 &&& (255 : Int32)), .int ((XT.ushr k0 (8 : Int32)) &&& (255 : Int32)), .int (44 : Int32), .int (32 : Int32), .int (110 : Int32), .int (97 : Int32), .int (109 : Int32), .int (101 : Int32), .int (61 : Int32), .int (k1 &&& (255 : Int32)), .int ((XT.ushr k1 (8 : Int32)) &&& (255 : Int32)), .int (44 : Int32), .int (32 : Int32), .int (100 : Int32), .int (105 : Int32), .int (115 : Int32), .int (112 : Int32), .int (108 : Int32), .int (97 : Int32), .int (121 : Int32), .int (78 : Int32), .int (97 : Int32), .int (109 : Int32), .int (101 : Int32), .int (61 : Int32), .int (k2 &&& (255 : Int32)), .int ((XT.ushr k2 (8 : Int32)) &&& (255 : Int32)), .int (93 : Int32)] (.int (0 : Int32)) := B225
  refine g_astore X222 at_271 rfl (Ls' := #[.val (.int k0), .val (.int k1), .val (.int k2), .val (.int k3), .val (.int (k0 &&& (255 : Int32))), .val (.int ((XT.ushr k0 (8 : Int32)) &&& (255 : Int32))), .val (.int (k1 &&& (255 : Int32))), .val (.int ((XT.ushr k1 (8 : Int32)) &&& (255 : Int32))), .val (.int (k2 &&& (255 : Int32))), .val (.int ((XT.ushr k2 (8 : Int32)) &&& (255 : Int32))), .val (.ref a1), .unset, .unset, .unset]) rfl 273 rfl ?_
  refine g_new X222 (hw _ (List.mem_of_getElem? (i := 1) rfl)) (hw _ (List.mem_of_getElem? (i := 2) rfl)) (hw _ (List.mem_of_getElem? (i := 3) rfl)) at_273 (ck := 2) rfl (cs := 40) rfl (by decide) (by decide) 276 rfl ?_
  intro a226 T227 h228 ea229 X230 E231 A232 D233
  have le_a226 : h.size ≤ a226 := by rw [ea229]; exact (ext_wr (ext_wr (ext_wr (ext_wr (ext_wr (ext_wr (ext_wr (ext_wr (ext_wr (ext_wr (ext_wr (ext_wr (ext_wr (ext_wr (ext_wr (ext_wr (ext_wr (ext_wr (ext_wr (ext_wr (ext_wr (ext_wr (ext_wr (ext_wr (ext_wr (ext_wr (ext_wr (ext_wr (ext_wr (ext_wr (ext_wr (ext_wr (ext_wr (ext_wr (ext_wr (ext_wr ((Ext.refl h).trans E7) W13 le_a1) W19 le_a1) W25 le_a1) W31 le_a1) W37 le_a1) W43 le_a1) W49 le_a1) W55 le_a1) W61 le_a1) W67 le_a1) W73 le_a1) W79 le_a1) W85 le_a1) W91 le_a1) W97 le_a1) W103 le_a1) W109 le_a1) W115 le_a1) W121 le_a1) W127 le_a1) W133 le_a1) W139 le_a1) W145 le_a1) W151 le_a1) W157 le_a1) W163 le_a1) W169 le_a1) W175 le_a1) W181 le_a1) W187 le_a1) W193 le_a1) W199 le_a1) W205 le_a1) W211 le_a1) W217 le_a1) W223 le_a1).1
  have ne_a1_a226 : a1 ≠ a226 := by rw [ea229]; exact Nat.ne_of_lt A224.lt
  have F234 : Fld Z h228 a226 "java/lang/String" "value" "[B" (.null) := D233 (Or.inr (hw _ (List.mem_of_getElem? (i := 29) rfl))) (ty := (.array .byte)) (by rfl)
  have F235 : Fld Z h228 a226 "java/lang/String" "coder" "B" (.int (0 : Int32)) := D233 (Or.inr (hw _ (List.mem_of_getElem? (i := 27) rfl))) (ty := .byte) (by rfl)
  refine g_dup X230 at_276 rfl 277 rfl ?_
  refine g_aload X230 at_277 rfl rfl 279 rfl ?_
  refine g_strNew X230 (cs := [(85 : Int32), (115 : Int32), (101 : Int32), (114 : Int32), (91 : Int32), (105 : Int32), (100 : Int32), (61 : Int32), k0 &&& (255 : Int32), (XT.ushr k0 (8 : Int32)) &&& (255 : Int32), (44 : Int32), (32 : Int32), (110 : Int32), (97 : Int32), (109 : Int32), (101 : Int32), (61 : Int32), k1 &&& (255 : Int32), (XT.ushr k1 (8 : Int32)) &&& (255 : Int32), (44 : Int32), (32 : Int32), (100 : Int32), (105 : Int32), (115 : Int32), (112 : Int32), (108 : Int32), (97 : Int32), (121 : Int32), (78 : Int32), (97 : Int32), (109 : Int32), (101 : Int32), (61 : Int32), k2 &&& (255 : Int32), (XT.ushr k2 (8 : Int32)) &&& (255 : Int32), (93 : Int32)]) (hw _ (List.mem_of_getElem? (i := 4) rfl)) (hw _ (List.mem_of_getElem? (i := 5) rfl)) (hw _ (List.mem_of_getElem? (i := 6) rfl)) (hwsV hw) (hw _ (List.mem_of_getElem? (i := 2) rfl)) (SC.ext X230.old) hz A232 F234 F235 (A224.ext E231) rfl 36 rfl rfl (by decide) (by decide) (by intro c hc; simp only [List.mem_cons, List.not_mem_nil, or_false] at hc; rcases hc with rfl | rfl | rfl | rfl | rfl | rfl | rfl | rfl | rfl | rfl | rfl | rfl | rfl | rfl | rfl | rfl | rfl | rfl | rfl | rfl | rfl | rfl | rfl | rfl | rfl | rfl | rfl | rfl | rfl | rfl | rfl | rfl | rfl | rfl | rfl | rfl <;> first | decide | exact and255 _) (by simp) rfl 1 (Nat.le_of_eq rfl) (by decide) (by decide) (ck := 3) rfl (cs' := 76) rfl (by decide) (by decide) at_279 282 rfl ?_
  intro T236 h237 X238 K239 Q240
  have S241 : Str Z h237 ([]) a226 [(85 : Int32), (115 : Int32), (101 : Int32), (114 : Int32), (91 : Int32), (105 : Int32), (100 : Int32), (61 : Int32), k0 &&& (255 : Int32), (XT.ushr k0 (8 : Int32)) &&& (255 : Int32), (44 : Int32), (32 : Int32), (110 : Int32), (97 : Int32), (109 : Int32), (101 : Int32), (61 : Int32), k1 &&& (255 : Int32), (XT.ushr k1 (8 : Int32)) &&& (255 : Int32), (44 : Int32), (32 : Int32), (100 : Int32), (105 : Int32), (115 : Int32), (112 : Int32), (108 : Int32), (97 : Int32), (121 : Int32), (78 : Int32), (97 : Int32), (109 : Int32), (101 : Int32), (61 : Int32), k2 &&& (255 : Int32), (XT.ushr k2 (8 : Int32)) &&& (255 : Int32), (93 : Int32)] := str_of Q240 (fun x hx => X222.news x ((by simp : ∀ y ∈ ([] : List Addr), y ∈ ([a1] : List Addr)) x hx)) (Nat.le_of_eq ea229.symm) E231.1
  have X242 := X238.sub (us' := []) (by simp)
  refine g_astore X242 at_282 rfl (Ls' := #[.val (.int k0), .val (.int k1), .val (.int k2), .val (.int k3), .val (.int (k0 &&& (255 : Int32))), .val (.int ((XT.ushr k0 (8 : Int32)) &&& (255 : Int32))), .val (.int (k1 &&& (255 : Int32))), .val (.int ((XT.ushr k1 (8 : Int32)) &&& (255 : Int32))), .val (.int (k2 &&& (255 : Int32))), .val (.int ((XT.ushr k2 (8 : Int32)) &&& (255 : Int32))), .val (.ref a1), .val (.ref a226), .unset, .unset]) rfl 284 rfl ?_
  refine g_new X242 (hw _ (List.mem_of_getElem? (i := 30) rfl)) (hw _ (List.mem_of_getElem? (i := 31) rfl)) (hw _ (List.mem_of_getElem? (i := 32) rfl)) at_284 (ck := 4) rfl (cs := 80) rfl (by decide) (by decide) 287 rfl ?_
  intro a243 T244 h245 ea246 X247 E248 A249 D250
  have le_a243 : h.size ≤ a243 := by rw [ea246]; exact (ext_keep ((ext_wr (ext_wr (ext_wr (ext_wr (ext_wr (ext_wr (ext_wr (ext_wr (ext_wr (ext_wr (ext_wr (ext_wr (ext_wr (ext_wr (ext_wr (ext_wr (ext_wr (ext_wr (ext_wr (ext_wr (ext_wr (ext_wr (ext_wr (ext_wr (ext_wr (ext_wr (ext_wr (ext_wr (ext_wr (ext_wr (ext_wr (ext_wr (ext_wr (ext_wr (ext_wr (ext_wr ((Ext.refl h).trans E7) W13 le_a1) W19 le_a1) W25 le_a1) W31 le_a1) W37 le_a1) W43 le_a1) W49 le_a1) W55 le_a1) W61 le_a1) W67 le_a1) W73 le_a1) W79 le_a1) W85 le_a1) W91 le_a1) W97 le_a1) W103 le_a1) W109 le_a1) W115 le_a1) W121 le_a1) W127 le_a1) W133 le_a1) W139 le_a1) W145 le_a1) W151 le_a1) W157 le_a1) W163 le_a1) W169 le_a1) W175 le_a1) W181 le_a1) W187 le_a1) W193 le_a1) W199 le_a1) W205 le_a1) W211 le_a1) W217 le_a1) W223 le_a1).trans E231) K239 (fun x hx => by cases List.mem_singleton.mp hx; exact le_a226)).1
  have ne_a226_a243 : a226 ≠ a243 := by rw [ea246]; exact Nat.ne_of_lt S241.lt
  have F251 : Fld Z h245 a243 "com/example/sitesd/sitesd/model/User" "id" "Ljava/lang/String;" (.null) := D250 (Or.inr (hw _ (List.mem_of_getElem? (i := 57) rfl))) (ty := (.object "java/lang/String")) (by rfl)
  have F252 : Fld Z h245 a243 "com/example/sitesd/sitesd/model/User" "name" "Ljava/lang/String;" (.null) := D250 (Or.inr (hw _ (List.mem_of_getElem? (i := 59) rfl))) (ty := (.object "java/lang/String")) (by rfl)
  have F253 : Fld Z h245 a243 "com/example/sitesd/sitesd/model/User" "displayName" "Ljava/lang/String;" (.null) := D250 (Or.inr (hw _ (List.mem_of_getElem? (i := 61) rfl))) (ty := (.object "java/lang/String")) (by rfl)
  have F254 : Fld Z h245 a243 "com/example/sitesd/sitesd/model/User" "token" "Ljava/lang/String;" (.null) := D250 (Or.inr (hw _ (List.mem_of_getElem? (i := 63) rfl))) (ty := (.object "java/lang/String")) (by rfl)
  refine g_dup X247 at_287 rfl 288 rfl ?_
  refine g_iloadN X247 at_288 rfl 289 rfl ?_
  refine g_callSv X247 (hw _ (List.mem_of_getElem? (i := 33) rfl)) (hw _ (List.mem_of_getElem? (i := 34) rfl)) (hw _ (List.mem_of_getElem? (i := 35) rfl)) (hw _ (List.mem_of_getElem? (i := 36) rfl)) (by decide) (c_two l Z a0 G k0 ([a243]) h245) (fun _ q => q) (argsL := [.int k0]) (rest := [.ref a243, .ref a243]) pd_0 rfl rfl rfl rfl 2 (Nat.le_of_eq rfl) (by decide) (by decide) (ck := 7) rfl (cs := 88) rfl (by decide) (by decide) at_289 292 rfl ?_
  intro w257 T255 h259 X256 hq258
  obtain ⟨s260, rfl, E261, S262⟩ := hq258
  refine g_iloadN X256 at_292 rfl 293 rfl ?_
  refine g_callSv X256 (hw _ (List.mem_of_getElem? (i := 33) rfl)) (hw _ (List.mem_of_getElem? (i := 34) rfl)) (hw _ (List.mem_of_getElem? (i := 35) rfl)) (hw _ (List.mem_of_getElem? (i := 36) rfl)) (by decide) (c_two l Z a0 G k1 ([a243]) h259) (fun _ q => q) (argsL := [.int k1]) (rest := [.ref s260, .ref a243, .ref a243]) pd_0 rfl rfl rfl rfl 3 (Nat.le_of_eq rfl) (by decide) (by decide) (ck := 10) rfl (cs := 96) rfl (by decide) (by decide) at_293 296 rfl ?_
  intro w265 T263 h267 X264 hq266
  obtain ⟨s268, rfl, E269, S270⟩ := hq266
  refine g_iloadN X264 at_296 rfl 297 rfl ?_
  refine g_callSv X264 (hw _ (List.mem_of_getElem? (i := 33) rfl)) (hw _ (List.mem_of_getElem? (i := 34) rfl)) (hw _ (List.mem_of_getElem? (i := 35) rfl)) (hw _ (List.mem_of_getElem? (i := 36) rfl)) (by decide) (c_two l Z a0 G k2 ([a243]) h267) (fun _ q => q) (argsL := [.int k2]) (rest := [.ref s268, .ref s260, .ref a243, .ref a243]) pd_0 rfl rfl rfl rfl 4 (Nat.le_of_eq rfl) (by decide) (by decide) (ck := 13) rfl (cs := 104) rfl (by decide) (by decide) at_297 300 rfl ?_
  intro w273 T271 h275 X272 hq274
  obtain ⟨s276, rfl, E277, S278⟩ := hq274
  refine g_iloadN X272 at_300 rfl 301 rfl ?_
  refine g_callSv X272 (hw _ (List.mem_of_getElem? (i := 33) rfl)) (hw _ (List.mem_of_getElem? (i := 34) rfl)) (hw _ (List.mem_of_getElem? (i := 35) rfl)) (hw _ (List.mem_of_getElem? (i := 36) rfl)) (by decide) (c_two l Z a0 G k3 ([a243]) h275) (fun _ q => q) (argsL := [.int k3]) (rest := [.ref s276, .ref s268, .ref s260, .ref a243, .ref a243]) pd_0 rfl rfl rfl rfl 5 (Nat.le_of_eq rfl) (by decide) (by decide) (ck := 16) rfl (cs := 112) rfl (by decide) (by decide) at_301 304 rfl ?_
  intro w281 T279 h283 X280 hq282
  obtain ⟨s284, rfl, E285, S286⟩ := hq282
  refine g_callIn X280 rfl (hw _ (List.mem_of_getElem? (i := 37) rfl)) (hw _ (List.mem_of_getElem? (i := 38) rfl)) (hw _ (List.mem_of_getElem? (i := 32) rfl)) (hw _ (List.mem_of_getElem? (i := 39) rfl)) (by decide) (c_uinit l Z a0 G a243 s260 s268 s276 s284 h283 ((((A249.ext E261).ext E269).ext E277).ext E285) ((((F251.ext E261).ext E269).ext E277).ext E285) ((((F252.ext E261).ext E269).ext E277).ext E285) ((((F253.ext E261).ext E269).ext E277).ext E285) ((((F254.ext E261).ext E269).ext E277).ext E285)) (by simp) (argsL := [.ref s260, .ref s268, .ref s276, .ref s284]) (rest := [.ref a243]) pd_1 rfl rfl rfl rfl 1 (Nat.le_of_eq rfl) (by decide) (by decide) (ck := 24) rfl (cs := 216) rfl (by decide) (by decide) at_304 307 rfl ?_
  intro T287 h290 X288 hq289
  obtain ⟨K291, E292, F293, F294, F295, F296⟩ := hq289
  have X297 := X288.sub (us' := []) (by simp)
  refine g_astore X297 at_307 rfl (Ls' := #[.val (.int k0), .val (.int k1), .val (.int k2), .val (.int k3), .val (.int (k0 &&& (255 : Int32))), .val (.int ((XT.ushr k0 (8 : Int32)) &&& (255 : Int32))), .val (.int (k1 &&& (255 : Int32))), .val (.int ((XT.ushr k1 (8 : Int32)) &&& (255 : Int32))), .val (.int (k2 &&& (255 : Int32))), .val (.int ((XT.ushr k2 (8 : Int32)) &&& (255 : Int32))), .val (.ref a1), .val (.ref a226), .val (.ref a243), .unset]) rfl 309 rfl ?_
  refine g_aload X297 at_309 rfl rfl 311 rfl ?_
  refine g_callVv X297 (hw _ (List.mem_of_getElem? (i := 64) rfl)) (hw _ (List.mem_of_getElem? (i := 65) rfl)) (hw _ (List.mem_of_getElem? (i := 67) rfl)) (hw _ (List.mem_of_getElem? (i := 66) rfl)) (hw _ (List.mem_of_getElem? (i := 32) rfl)) (hw _ (List.mem_of_getElem? (i := 68) rfl)) (nfSel (hw _ (List.mem_of_getElem? (i := 67) rfl))) (by decide) E292 (c_uts l Z a0 G a243 s260 s268 s276 ([]) _ _ _ _ _ _ h290 E292 F293 F294 F295 (((((S262.ext E269).ext E277).ext E285).keep K291 (by simp)).sub (us' := []) (by simp)) ((((S270.ext E277).ext E285).keep K291 (by simp)).sub (us' := []) (by simp)) (((S278.ext E285).keep K291 (by simp)).sub (us' := []) (by simp))) (fun _ q => q) (argsL := []) (rest := []) pd_19 rfl rfl rfl rfl 0 (Nat.le_of_eq rfl) (by decide) (by decide) (ck := 38) rfl (cs := 552) rfl (by decide) (by decide) at_311 314 rfl ?_
  intro w300 T298 h302 X299 hq301
  obtain ⟨r303, rfl, E304, SN305⟩ := hq301
  have S306 : Str Z h302 ([]) r303 (((((((([] : List Int32) ++ [(85 : Int32), (115 : Int32), (101 : Int32), (114 : Int32), (91 : Int32), (105 : Int32), (100 : Int32), (61 : Int32)]) ++ [k0 &&& (255 : Int32), XT.ushr k0 (8 : Int32) &&& (255 : Int32)]) ++ [(44 : Int32), (32 : Int32), (110 : Int32), (97 : Int32), (109 : Int32), (101 : Int32), (61 : Int32)]) ++ [k1 &&& (255 : Int32), XT.ushr k1 (8 : Int32) &&& (255 : Int32)]) ++ [(44 : Int32), (32 : Int32), (100 : Int32), (105 : Int32), (115 : Int32), (112 : Int32), (108 : Int32), (97 : Int32), (121 : Int32), (78 : Int32), (97 : Int32), (109 : Int32), (101 : Int32), (61 : Int32)]) ++ [k2 &&& (255 : Int32), XT.ushr k2 (8 : Int32) &&& (255 : Int32)]) ++ [(93 : Int32)]) := SN305.str X297.news
  refine g_astore X299 at_314 rfl (Ls' := #[.val (.int k0), .val (.int k1), .val (.int k2), .val (.int k3), .val (.int (k0 &&& (255 : Int32))), .val (.int ((XT.ushr k0 (8 : Int32)) &&& (255 : Int32))), .val (.int (k1 &&& (255 : Int32))), .val (.int ((XT.ushr k1 (8 : Int32)) &&& (255 : Int32))), .val (.int (k2 &&& (255 : Int32))), .val (.int ((XT.ushr k2 (8 : Int32)) &&& (255 : Int32))), .val (.ref a1), .val (.ref a226), .val (.ref a243), .val (.ref r303)]) rfl 316 rfl ?_
  refine g_aload X299 at_316 rfl rfl 318 rfl ?_
  refine g_aload X299 at_318 rfl rfl 320 rfl ?_
  obtain ⟨t307, kb308, e309, f310, f311, k312, b313, l314, n315⟩ := id S306
  obtain ⟨t316, kb317, e318, f319, f320, k321, b322, l323, n324⟩ := id ((((((((S241.grow E248 ea246).ext E261).ext E269).ext E277).ext E285).keep K291 (by simp)).sub (us' := []) (by simp)).ext E304)
  refine g_callVp X299 (hw _ (List.mem_of_getElem? (i := 200) rfl)) (hw _ (List.mem_of_getElem? (i := 201) rfl)) (hw _ (List.mem_of_getElem? (i := 203) rfl)) (hw _ (List.mem_of_getElem? (i := 202) rfl)) (hw _ (List.mem_of_getElem? (i := 3) rfl)) (hw _ (List.mem_of_getElem? (i := 204) rfl)) (nfSel (hw _ (List.mem_of_getElem? (i := 203) rfl))) (by decide) e309 (c_seq l Z a0 G r303 a226 t307 t316 kb308 kb317 (((((((([] : List Int32) ++ [(85 : Int32), (115 : Int32), (101 : Int32), (114 : Int32), (91 : Int32), (105 : Int32), (100 : Int32), (61 : Int32)]) ++ [k0 &&& (255 : Int32), XT.ushr k0 (8 : Int32) &&& (255 : Int32)]) ++ [(44 : Int32), (32 : Int32), (110 : Int32), (97 : Int32), (109 : Int32), (101 : Int32), (61 : Int32)]) ++ [k1 &&& (255 : Int32), XT.ushr k1 (8 : Int32) &&& (255 : Int32)]) ++ [(44 : Int32), (32 : Int32), (100 : Int32), (105 : Int32), (115 : Int32), (112 : Int32), (108 : Int32), (97 : Int32), (121 : Int32), (78 : Int32), (97 : Int32), (109 : Int32), (101 : Int32), (61 : Int32)]) ++ [k2 &&& (255 : Int32), XT.ushr k2 (8 : Int32) &&& (255 : Int32)]) ++ [(93 : Int32)]) ([(85 : Int32), (115 : Int32), (101 : Int32), (114 : Int32), (91 : Int32), (105 : Int32), (100 : Int32), (61 : Int32), k0 &&& (255 : Int32), (XT.ushr k0 (8 : Int32)) &&& (255 : Int32), (44 : Int32), (32 : Int32), (110 : Int32), (97 : Int32), (109 : Int32), (101 : Int32), (61 : Int32), k1 &&& (255 : Int32), (XT.ushr k1 (8 : Int32)) &&& (255 : Int32), (44 : Int32), (32 : Int32), (100 : Int32), (105 : Int32), (115 : Int32), (112 : Int32), (108 : Int32), (97 : Int32), (121 : Int32), (78 : Int32), (97 : Int32), (109 : Int32), (101 : Int32), (61 : Int32), k2 &&& (255 : Int32), (XT.ushr k2 (8 : Int32)) &&& (255 : Int32), (93 : Int32)]) (str_inj S306 ((((((((S241.grow E248 ea246).ext E261).ext E269).ext E277).ext E285).keep K291 (by simp)).sub (us' := []) (by simp)).ext E304)) h302 e309 f310 f311 k312 b313 l314 e318 f319 f320 k321 b322 l323) (by simp) (argsL := [.ref a226]) (rest := []) pd_3 rfl rfl rfl rfl 0 (Nat.le_of_eq rfl) (by decide) (by decide) (ck := 38) rfl (cs := 552) rfl (by decide) (by decide) at_320 323 rfl ?_
  intro w327 T325 X326 hq328
  obtain rfl : w327 = .int (1 : Int32) := by rw [hq328]; exact congrArg Value.int (if_pos rfl)
  exact g_retN X326 (t := .boolean) rfl (by simp) at_323 _ rfl (by decide) (by decide) rfl
set_option maxRecDepth 65536 in
set_option maxHeartbeats 40000000 in
theorem comes_1 {Post : Tables → Env → Array Value → State → Outcome → State → Prop} (hpost : ∀ tb e args s v u, (limb_1_1.after args s (.returned v) u = true ∧ limb_1_2.after args s (.returned v) u = true) → FramedW s (.returned v) u (Jvm.fieldLocs frame_1_writes args s ++ Jvm.arrayLocs frame_1_arrays args s ++ Jvm.staticLocs frame_1_statics s) 72 8896 → Post tb e args s (.returned v) u) :
    ArmFor flags0 classFile x code maxLocals ret World_1 tables_1 room_1 Calls_1 rest_1 Pre_1 Post := by
  intro l hfl _ _ p e ha hc hk s m args below hf hA hF happ hP
  obtain ⟨hcalls, hrest, hpre⟩ := hP
  obtain ⟨-, -, -, hnamed, -, -, -, hat⟩ := (Spec.applies_iff hf).mp happ
  obtain ⟨hg, hn⟩ := and_e (Cond.before_iff.mp (show (Jvm.Cond.and given_1 narrow_1).before args s = true from hpre))
  obtain ⟨h1, hg⟩ := and_e hg
  obtain ⟨w0, w1, w2, w3, rfl⟩ : ∃ w0 w1 w2 w3 : Value, args = #[w0, w1, w2, w3] := by
    have hs : args.size = 4 := by simpa [Cond.value, given_1] using h1
    obtain ⟨L⟩ := args
    match L, hs with
    | [w0, w1, w2, w3], _ => exact ⟨w0, w1, w2, w3, rfl⟩
  have hw := fun d (hd : d ∈ tables_1) => atoms_spec (ws := Jvm.Cond.code x code maxLocals ret :: tables_1) hat d (List.mem_cons_of_mem _ hd)
  obtain ⟨g0, hg⟩ := and_e hg
  obtain ⟨g1, hg⟩ := and_e hg
  obtain ⟨g2, hg⟩ := and_e hg
  have g3 := hg
  obtain ⟨i0, e0⟩ := is_v g0
  obtain rfl : w0 = (.int i0) := Option.some.inj e0
  obtain ⟨i1, e1⟩ := is_v g1
  obtain rfl : w1 = (.int i1) := Option.some.inj e1
  obtain ⟨i2, e2⟩ := is_v g2
  obtain rfl : w2 = (.int i2) := Option.some.inj e2
  obtain ⟨i3, e3⟩ := is_v g3
  obtain rfl : w3 = (.int i3) := Option.some.inj e3
  have q0 := hn
  obtain ⟨hsets, hown0⟩ := atoms_of _ (rest_1_c_eq ▸ (show rest_1_c.before _ s = true from hrest))
  obtain ⟨zc, ezc⟩ := is_v (Cond.before_iff.mp (hsets _ (List.mem_of_getElem? (i := 1) rfl)))
  have SC : Sta s s.heap "java/lang/String" "COMPACT_STRINGS" "Z" (.int zc) := Sta.start ezc (Or.inl (hsets _ (List.mem_of_getElem? (i := 0) rfl)))
  have hz : ¬ zc = 0 := fun q => by
    have n5 := not_v (Cond.before_iff.mp (hsets _ (List.mem_of_getElem? (i := 2) rfl)))
    exact absurd q (gotF (Cond.eq_ints ezc (Term.int_eval 0)) n5)
  obtain ⟨fm, efm, hfm⟩ := isR_v (Cond.before_iff.mp (hsets _ (List.mem_of_getElem? (i := 8) rfl)))
  have SF : Sta s s.heap "jdk/internal/util/Preconditions" "SIOOBE_FORMATTER" "Ljava/util/function/BiFunction;" fm := Sta.start efm (Or.inl (hsets _ (List.mem_of_getElem? (i := 7) rfl)))
  have hSA : ∀ a ∈ Bundle.stringAtoms, a.before _ s = true := fun d hd => hw d ((by decide +kernel : ∀ d ∈ Bundle.stringAtoms, d ∈ tables_1) d hd)
  have hEW : EW s _ EL := (EW.cons (hw _ (List.mem_of_getElem? (i := 46) rfl)) (by decide) (EW.cons (hw _ (List.mem_of_getElem? (i := 53) rfl)) (by decide) (EW.cons (hw _ (List.mem_of_getElem? (i := 54) rfl)) (by decide) (EW.cons (hw _ (List.mem_of_getElem? (i := 55) rfl)) (by decide) (EW.cons (hw _ (List.mem_of_getElem? (i := 87) rfl)) (by decide) (EW.cons (hw _ (List.mem_of_getElem? (i := 135) rfl)) (by decide) (EW.cons (hw _ (List.mem_of_getElem? (i := 159) rfl)) (by decide) (EW.cons (hw _ (List.mem_of_getElem? (i := 160) rfl)) (by decide) EW.nil))))))))
  have G : Gl s #[.int i0, .int i1, .int i2, .int i3] := ⟨hw, hEW, hSA, ⟨zc, SC, hz⟩, ⟨fm, SF, hfm⟩⟩
  obtain ⟨n, o, h1, h2, h3, v, L, rfl, hQ, N, -, -, hq, hnw⟩ := c_law l s _ G i0 i1 i2 i3 s.heap tables_1 p e ha hc hk s m _ below hf ((Spec.applies_iff_loose hf).mp happ).1 ⟨rfl, State.Warmed39.refl s, rfl, Ext.refl _, (CHv.start hEW (fun p hp => hcalls.1 p hp) (hsets _ (List.mem_of_getElem? (i := 2) rfl)) (hw _ (List.mem_of_getElem? (i := 19) rfl)) (hw _ (List.mem_of_getElem? (i := 2) rfl))), fun _ q => nomatch q⟩ trivial
  obtain ⟨rfl⟩ : v = some (.int 1) := hQ
  exact ⟨n, _, h1, h2, h3, hpost _ _ _ _ _ _ ⟨Cond.after_iff.mpr rfl, Cond.after_iff.mpr (eq_i res_at (Term.int_eval (1)) rfl)⟩ ⟨hq.1, hq.2.1, hq.2.2.1, (hq.2.2.2.sift fun y hy => Or.inr (N y hy)).mono (by decide) (by decide)⟩⟩
theorem main_1_1 : Claimed_1_1 := comes_1 fun _ _ _ _ _ _ h hF => ⟨h.1, hF⟩
theorem main_1_2 : Claimed_1_2 := comes_1 fun _ _ _ _ _ _ h hF => ⟨h.2, hF⟩
end Jvm.Pilot.@@N@@
namespace Jvm.Pilot.@@N@@
open Jvm Jvm.ClassFile Sem Op Lib Jvm.Free Jvm.Stand Jvm.Pilot.@@N@@.Jvm.D
/-! MADE BY PROGRAM (witnessworld.py) out of the Statement's table words and the real class files: 28 classes; the members and pool entries that the words name. The judged class is class 1, her method 2. -/
namespace start1
open Jvm.ClassFile
def u (s : String) : CpInfo := .utf8 (stringToUtf16 s)
/-- a pool by its gaps: so many unusable entries, then the entry; so many at the end -/
def gap : Nat → List CpInfo → List CpInfo
  | 0, r => r
  | n + 1, r => .unusable :: gap n r
def poolList (es : List (Nat × CpInfo)) (last : Nat) : List CpInfo := es.foldr (fun e r => gap e.1 (e.2 :: r)) (gap last [])
def pool (es : List (Nat × CpInfo)) (last : Nat) : Array CpInfo := ⟨poolList es last⟩
def fileOf (pool : Array CpInfo) (this : Nat) (attrs : Array Attribute := #[]) (ms : Array MethodInfo := #[]) (fl : Nat := 33) (sup : Nat := 0) (ifs : Array Nat := #[]) (fds : Array FieldInfo := #[]) : ClassFile where
  minorVersion := 0
  majorVersion := 65
  constantPool := pool
  accessFlags := fl
  thisClass := this
  superClass := sup
  interfaces := ifs
  fields := fds
  methods := ms
  attributes := attrs
def plain (name : String) (sup : Option ClassId) : Class where
  name := name
  kind := .ordinary
  loader := none
  accessFlags := 33
  super := sup
  interfaces := #[]
  cf := none
  fields := #[]
  methods := #[]
  instanceTypes := #[]
  staticTypes := #[]
  resolved := #[]
  callSites := []
  init := .initialized
  statics := none
  mirror := none

def pool0 : Array CpInfo := pool [(5, u "<init>"), (0, u "()V"), (1, .class_ 10), (1, u "java/lang/Object")] 113

def k0c0 : Code := { maxStack := 0, maxLocals := 1, code := object_method_1_code, exceptionTable := #[], attributes := #[] }
def k0m0 : Method := { name := "<init>", desc := "()V", sig := { parameters := [], returnType := none }, accessFlags := 1, code := some k0c0 }
/-- java/lang/Object -/
def k0 : Class := { plain "java/lang/Object" none with
  accessFlags := 33
  interfaces := #[]
  cf := some (fileOf pool0 8 #[] #[{ accessFlags := 1, nameIndex := 5, descriptorIndex := 6, attributes := #[] }] 33 0 #[] #[])
  fields := #[]
  methods := #[k0m0]
  instanceTypes := #[]
  staticTypes := #[]
  resolved := Array.replicate 124 none
  statics := none }

def pool1 : Array CpInfo := pool [(2, .class_ 4), (1, u "java/lang/Object"), (0, u "<init>"), (0, u "()V"), (0, .class_ 8), (0, u "java/lang/String"), (0, .methodref 7 10), (0, .nameAndType 5 11), (0, u "([C)V"), (0, .class_ 13), (0, u "com/example/sitesd/sitesd/model/User"), (0, .methodref 15 16), (0, .class_ 17), (0, .nameAndType 18 19), (0, u "com/example/sitesd/sitesd/model/UserToStringPinLaw"), (0, u "two"), (0, u "(I)Ljava/lang/String;"), (0, .methodref 12 21), (0, .nameAndType 5 22), (0, u "(Ljava/lang/String;Ljava/lang/String;Ljava/lang/String;Ljava/lang/String;)V"), (0, .methodref 12 24), (0, .nameAndType 25 26), (0, u "toString"), (0, u "()Ljava/lang/String;"), (0, .methodref 7 28), (0, .nameAndType 29 30), (0, u "equals"), (0, u "(Ljava/lang/Object;)Z"), (2, u "law"), (0, u "(IIII)Z")] 2

def k1m0 : Method := { name := "<init>", desc := "()V", sig := { parameters := [], returnType := none }, accessFlags := 1, code := none }
def k1c1 : Code := { maxStack := 5, maxLocals := 2, code := method_2_code, exceptionTable := #[], attributes := #[] }
def k1m1 : Method := { name := "two", desc := "(I)Ljava/lang/String;", sig := { parameters := [.int], returnType := some (.object "java/lang/String") }, accessFlags := 10, code := some k1c1 }
def k1c2 : Code := { maxStack := 6, maxLocals := 14, code := code, exceptionTable := #[], attributes := #[] }
def k1m2 : Method := { name := "law", desc := "(IIII)Z", sig := { parameters := [.int, .int, .int, .int], returnType := some .boolean }, accessFlags := 9, code := some k1c2 }
/-- com/example/sitesd/sitesd/model/UserToStringPinLaw -/
def k1 : Class := { plain "com/example/sitesd/sitesd/model/UserToStringPinLaw" (some 0) with
  accessFlags := 49
  interfaces := #[]
  cf := some (fileOf pool1 15 #[] #[{ accessFlags := 1, nameIndex := 5, descriptorIndex := 6, attributes := #[] }, { accessFlags := 10, nameIndex := 18, descriptorIndex := 19, attributes := #[] }, { accessFlags := 9, nameIndex := 33, descriptorIndex := 34, attributes := #[] }] 49 2 #[] #[])
  fields := #[]
  methods := #[k1m0, k1m1, k1m2]
  instanceTypes := #[]
  staticTypes := #[]
  resolved := Array.replicate 37 none
  statics := none }

def pool2 : Array CpInfo := pool [(1, .class_ 2), (0, u "java/io/Serializable"), (0, .class_ 4), (0, u "java/lang/Object")] 2

/-- java/io/Serializable -/
def k2 : Class := { plain "java/io/Serializable" (some 0) with
  accessFlags := 1537
  interfaces := #[]
  cf := some (fileOf pool2 1 #[] #[] 1537 3 #[] #[])
  fields := #[]
  methods := #[]
  instanceTypes := #[]
  staticTypes := #[]
  resolved := Array.replicate 7 none
  statics := none }

def pool3 : Array CpInfo := pool [(1, .class_ 2), (0, u "java/lang/Comparable"), (0, .class_ 4), (0, u "java/lang/Object")] 7

/-- java/lang/Comparable -/
def k3 : Class := { plain "java/lang/Comparable" (some 0) with
  accessFlags := 1537
  interfaces := #[]
  cf := some (fileOf pool3 1 #[] #[] 1537 3 #[] #[])
  fields := #[]
  methods := #[]
  instanceTypes := #[]
  staticTypes := #[]
  resolved := Array.replicate 12 none
  statics := none }

def pool4 : Array CpInfo := pool [(2, .class_ 4), (1, u "java/lang/CharSequence"), (42, .class_ 48), (0, u "java/lang/CharSequence$1CodePointIterator"), (10, .class_ 60), (0, u "java/lang/CharSequence$1CharIterator"), (5, .class_ 67), (0, u "java/lang/Object")] 63

/-- java/lang/CharSequence -/
def k4 : Class := { plain "java/lang/CharSequence" (some 0) with
  accessFlags := 1537
  interfaces := #[]
  cf := some (fileOf pool4 2 #[.nestMembers #[47, 59]] #[] 1537 66 #[] #[])
  fields := #[]
  methods := #[]
  instanceTypes := #[]
  staticTypes := #[]
  resolved := Array.replicate 131 none
  statics := none }

def pool5 : Array CpInfo := pool [(1, .class_ 2), (0, u "java/lang/constant/Constable"), (0, .class_ 4), (0, u "java/lang/Object")] 6

/-- java/lang/constant/Constable -/
def k5 : Class := { plain "java/lang/constant/Constable" (some 0) with
  accessFlags := 1537
  interfaces := #[]
  cf := some (fileOf pool5 1 #[] #[] 1537 3 #[] #[])
  fields := #[]
  methods := #[]
  instanceTypes := #[]
  staticTypes := #[]
  resolved := Array.replicate 11 none
  statics := none }

def pool6 : Array CpInfo := pool [(1, .class_ 2), (0, u "java/lang/constant/ConstantDesc"), (0, .class_ 4), (0, u "java/lang/Object")] 32

/-- java/lang/constant/ConstantDesc -/
def k6 : Class := { plain "java/lang/constant/ConstantDesc" (some 0) with
  accessFlags := 1537
  interfaces := #[]
  cf := some (fileOf pool6 1 #[] #[] 1537 3 #[] #[])
  fields := #[]
  methods := #[]
  instanceTypes := #[]
  staticTypes := #[]
  resolved := Array.replicate 37 none
  statics := none }

def pool7 : Array CpInfo := pool [(1, .methodref 2 3), (0, .class_ 4), (0, .nameAndType 5 6), (0, u "java/lang/Object"), (0, u "<init>"), (0, u "()V"), (2, .fieldref 10 11), (0, .class_ 12), (0, .nameAndType 13 14), (0, u "java/lang/String"), (0, u "value"), (0, u "[B"), (0, .fieldref 10 16), (0, .nameAndType 17 18), (0, u "coder"), (0, u "B"), (2, u "hash"), (0, u "I"), (2, u "hashIsZero"), (0, u "Z"), (0, .methodref 10 28), (0, .nameAndType 5 29), (0, u "([CIILjava/lang/Void;)V"), (8, .fieldref 10 39), (0, .nameAndType 40 26), (0, u "COMPACT_STRINGS"), (1, .class_ 44), (1, u "java/lang/StringUTF16"), (0, u "compress"), (1, .methodref 42 48), (0, .nameAndType 49 50), (0, u "coderFromArrayLen"), (0, u "([BI)B"), (3, .methodref 55 56), (0, .class_ 57), (0, .nameAndType 58 59), (0, u "java/util/Arrays"), (0, u "copyOfRange"), (0, u "([BII)[B"), (47, .class_ 109), (1, u "java/lang/StringLatin1"), (32, u "()Z"), (34, .methodref 42 178), (0, .nameAndType 45 179), (0, u "([CII)[B"), (13, .class_ 195), (1, u "java/lang/System"), (16, .methodref 193 213), (0, .nameAndType 214 215), (0, u "arraycopy"), (0, u "(Ljava/lang/Object;ILjava/lang/Object;II)V"), (118, u "()I"), (0, .methodref 10 336), (0, .nameAndType 17 337), (0, u "()B"), (2, u "()[B"), (148, .methodref 10 490), (0, .nameAndType 5 491), (0, u "(Ljava/lang/AbstractStringBuilder;Ljava/lang/Void;)V"), (1, .nameAndType 494 142), (0, u "isLatin1"), (11, .nameAndType 507 334), (0, u "length"), (24, u "getBytes"), (8, .methodref 107 542), (0, .nameAndType 543 544), (0, u "equals"), (0, u "([B[B)Z"), (4, .methodref 550 506), (0, .class_ 551), (0, u "java/lang/AbstractStringBuilder"), (0, .methodref 550 553), (0, .nameAndType 554 340), (0, u "getValue"), (18, u "(Ljava/lang/Object;)Z"), (1, .class_ 576), (0, u "java/lang/CharSequence"), (22, u "CASE_INSENSITIVE_ORDER"), (0, u "Ljava/util/Comparator;"), (220, u "([BIB)V"), (188, u "([C)V"), (36, .methodref 550 493), (53, u "serialPersistentFields"), (0, u "[Ljava/io/ObjectStreamField;"), (0, .class_ 1104), (0, u "java/lang/String$CaseInsensitiveComparator"), (1, .class_ 1107), (0, u "java/io/Serializable"), (0, .class_ 1109), (0, u "java/lang/Comparable"), (0, .class_ 1111), (0, u "java/lang/constant/Constable"), (0, .class_ 1113), (0, u "java/lang/constant/ConstantDesc"), (2, u "serialVersionUID"), (0, u "J"), (3, u "REPL"), (0, u "C"), (2, u "LATIN1"), (1, u "UTF16"), (105, u "(Ljava/lang/StringBuilder;)V")] 217

def k7m0 : Method := { name := "<init>", desc := "()V", sig := { parameters := [], returnType := none }, accessFlags := 1, code := none }
def k7c1 : Code := { maxStack := 5, maxLocals := 2, code := jdk_42_method_3_code, exceptionTable := #[], attributes := #[] }
def k7m1 : Method := { name := "<init>", desc := "([C)V", sig := { parameters := [(.array .char)], returnType := none }, accessFlags := 1, code := some k7c1 }
def k7c2 : Code := { maxStack := 3, maxLocals := 2, code := jdk_42_method_53_code, exceptionTable := #[], attributes := #[] }
def k7m2 : Method := { name := "<init>", desc := "(Ljava/lang/StringBuilder;)V", sig := { parameters := [(.object "java/lang/StringBuilder")], returnType := none }, accessFlags := 1, code := some k7c2 }
def k7c3 : Code := { maxStack := 2, maxLocals := 1, code := jdk_42_method_54_code, exceptionTable := #[], attributes := #[] }
def k7m3 : Method := { name := "length", desc := "()I", sig := { parameters := [], returnType := some .int }, accessFlags := 1, code := some k7c3 }
def k7c4 : Code := { maxStack := 2, maxLocals := 3, code := jdk_42_method_66_code, exceptionTable := #[], attributes := #[] }
def k7m4 : Method := { name := "equals", desc := "(Ljava/lang/Object;)Z", sig := { parameters := [(.object "java/lang/Object")], returnType := some .boolean }, accessFlags := 1, code := some k7c4 }
def k7c5 : Code := { maxStack := 5, maxLocals := 4, code := jdk_42_method_147_code, exceptionTable := #[], attributes := #[] }
def k7m5 : Method := { name := "getBytes", desc := "([BIB)V", sig := { parameters := [(.array .byte), .int, .byte], returnType := none }, accessFlags := 0, code := some k7c5 }
def k7c6 : Code := { maxStack := 4, maxLocals := 6, code := jdk_42_method_149_code, exceptionTable := #[], attributes := #[] }
def k7m6 : Method := { name := "<init>", desc := "([CIILjava/lang/Void;)V", sig := { parameters := [(.array .char), .int, .int, (.object "java/lang/Void")], returnType := none }, accessFlags := 2, code := some k7c6 }
def k7c7 : Code := { maxStack := 5, maxLocals := 5, code := jdk_42_method_150_code, exceptionTable := #[], attributes := #[] }
def k7m7 : Method := { name := "<init>", desc := "(Ljava/lang/AbstractStringBuilder;Ljava/lang/Void;)V", sig := { parameters := [(.object "java/lang/AbstractStringBuilder"), (.object "java/lang/Void")], returnType := none }, accessFlags := 0, code := some k7c7 }
def k7c8 : Code := { maxStack := 1, maxLocals := 1, code := jdk_42_method_152_code, exceptionTable := #[], attributes := #[] }
def k7m8 : Method := { name := "coder", desc := "()B", sig := { parameters := [], returnType := some .byte }, accessFlags := 0, code := some k7c8 }
/-- java/lang/String -/
def k7 : Class := { plain "java/lang/String" (some 0) with
  accessFlags := 49
  interfaces := #[2, 3, 4, 5, 6]
  cf := some (fileOf pool7 10 #[.nestMembers #[1103]] #[{ accessFlags := 1, nameIndex := 5, descriptorIndex := 6, attributes := #[] }, { accessFlags := 1, nameIndex := 5, descriptorIndex := 1010, attributes := #[] }, { accessFlags := 1, nameIndex := 5, descriptorIndex := 1233, attributes := #[] }, { accessFlags := 1, nameIndex := 507, descriptorIndex := 334, attributes := #[] }, { accessFlags := 1, nameIndex := 543, descriptorIndex := 573, attributes := #[] }, { accessFlags := 0, nameIndex := 532, descriptorIndex := 821, attributes := #[] }, { accessFlags := 2, nameIndex := 5, descriptorIndex := 29, attributes := #[] }, { accessFlags := 0, nameIndex := 5, descriptorIndex := 491, attributes := #[] }, { accessFlags := 0, nameIndex := 17, descriptorIndex := 337, attributes := #[] }] 49 2 #[1106, 1108, 575, 1110, 1112] #[{ accessFlags := 18, nameIndex := 13, descriptorIndex := 14, attributes := #[] }, { accessFlags := 18, nameIndex := 17, descriptorIndex := 18, attributes := #[] }, { accessFlags := 2, nameIndex := 21, descriptorIndex := 22, attributes := #[] }, { accessFlags := 2, nameIndex := 25, descriptorIndex := 26, attributes := #[] }, { accessFlags := 26, nameIndex := 1116, descriptorIndex := 1117, attributes := #[] }, { accessFlags := 24, nameIndex := 40, descriptorIndex := 26, attributes := #[] }, { accessFlags := 26, nameIndex := 1101, descriptorIndex := 1102, attributes := #[] }, { accessFlags := 26, nameIndex := 1121, descriptorIndex := 1122, attributes := #[] }, { accessFlags := 25, nameIndex := 599, descriptorIndex := 600, attributes := #[] }, { accessFlags := 24, nameIndex := 1125, descriptorIndex := 18, attributes := #[] }, { accessFlags := 24, nameIndex := 1127, descriptorIndex := 18, attributes := #[] }])
  fields := #[{ name := "value", type := (.array .byte), accessFlags := 18, slot := 0, constantValue := 0 }, { name := "coder", type := .byte, accessFlags := 18, slot := 1, constantValue := 0 }, { name := "hash", type := .int, accessFlags := 2, slot := 2, constantValue := 0 }, { name := "hashIsZero", type := .boolean, accessFlags := 2, slot := 3, constantValue := 0 }, { name := "serialVersionUID", type := .long, accessFlags := 26, slot := 0, constantValue := 0 }, { name := "COMPACT_STRINGS", type := .boolean, accessFlags := 24, slot := 1, constantValue := 0 }, { name := "serialPersistentFields", type := (.array (.object "java/io/ObjectStreamField")), accessFlags := 26, slot := 2, constantValue := 0 }, { name := "REPL", type := .char, accessFlags := 26, slot := 3, constantValue := 0 }, { name := "CASE_INSENSITIVE_ORDER", type := (.object "java/util/Comparator"), accessFlags := 25, slot := 4, constantValue := 0 }, { name := "LATIN1", type := .byte, accessFlags := 24, slot := 5, constantValue := 0 }, { name := "UTF16", type := .byte, accessFlags := 24, slot := 6, constantValue := 0 }]
  methods := #[k7m0, k7m1, k7m2, k7m3, k7m4, k7m5, k7m6, k7m7, k7m8]
  instanceTypes := #[(.array .byte), .byte, .int, .boolean]
  staticTypes := #[.long, .boolean, (.array (.object "java/io/ObjectStreamField")), .char, (.object "java/util/Comparator"), .byte, .byte]
  resolved := Array.replicate 1451 none
  statics := some 0 }

def pool8 : Array CpInfo := pool [(6, .class_ 8), (1, u "java/lang/Object"), (0, u "<init>"), (0, u "()V"), (1, .class_ 14), (1, u "java/lang/StringUTF16"), (31, u "$assertionsDisabled"), (0, u "Z"), (13, u "HI_BYTE_SHIFT"), (0, u "I"), (2, u "LO_BYTE_SHIFT"), (49, .methodref 12 116), (0, .nameAndType 117 118), (0, u "compress"), (0, u "([CI[BII)I"), (3, u "([CII)[B"), (138, u "coderFromArrayLen"), (0, u "([BI)B"), (106, .class_ 371), (1, u "java/lang/StringUTF16$LinesSpliterator"), (58, u "MAX_LENGTH"), (196, .class_ 628), (0, u "java/lang/StringUTF16$CodePointsSpliterator"), (0, .class_ 630), (0, u "java/lang/StringUTF16$CharsSpliterator")] 4

def k8m0 : Method := { name := "<init>", desc := "()V", sig := { parameters := [], returnType := none }, accessFlags := 0, code := none }
def k8c1 : Code := { maxStack := 2, maxLocals := 2, code := jdk_52_method_15_code, exceptionTable := #[], attributes := #[] }
def k8m1 : Method := { name := "coderFromArrayLen", desc := "([BI)B", sig := { parameters := [(.array .byte), .int], returnType := some .byte }, accessFlags := 8, code := some k8c1 }
def k8c2 : Code := { maxStack := 5, maxLocals := 6, code := jdk_52_method_16_code, exceptionTable := #[], attributes := #[] }
def k8m2 : Method := { name := "compress", desc := "([CII)[B", sig := { parameters := [(.array .char), .int, .int], returnType := some (.array .byte) }, accessFlags := 9, code := some k8c2 }
def k8c3 : Code := { maxStack := 3, maxLocals := 7, code := jdk_52_method_21_code, exceptionTable := #[], attributes := #[] }
def k8m3 : Method := { name := "compress", desc := "([CI[BII)I", sig := { parameters := [(.array .char), .int, (.array .byte), .int, .int], returnType := some .int }, accessFlags := 9, code := some k8c3 }
/-- java/lang/StringUTF16 -/
def k8 : Class := { plain "java/lang/StringUTF16" (some 0) with
  accessFlags := 48
  interfaces := #[]
  cf := some (fileOf pool8 12 #[.nestMembers #[627, 629, 369]] #[{ accessFlags := 0, nameIndex := 9, descriptorIndex := 10, attributes := #[] }, { accessFlags := 8, nameIndex := 261, descriptorIndex := 262, attributes := #[] }, { accessFlags := 9, nameIndex := 117, descriptorIndex := 122, attributes := #[] }, { accessFlags := 9, nameIndex := 117, descriptorIndex := 118, attributes := #[] }] 48 6 #[] #[{ accessFlags := 26, nameIndex := 61, descriptorIndex := 62, attributes := #[] }, { accessFlags := 26, nameIndex := 65, descriptorIndex := 62, attributes := #[] }, { accessFlags := 24, nameIndex := 430, descriptorIndex := 62, attributes := #[] }, { accessFlags := 4120, nameIndex := 46, descriptorIndex := 47, attributes := #[] }])
  fields := #[{ name := "HI_BYTE_SHIFT", type := .int, accessFlags := 26, slot := 0, constantValue := 0 }, { name := "LO_BYTE_SHIFT", type := .int, accessFlags := 26, slot := 1, constantValue := 0 }, { name := "MAX_LENGTH", type := .int, accessFlags := 24, slot := 2, constantValue := 0 }, { name := "$assertionsDisabled", type := .boolean, accessFlags := 4120, slot := 3, constantValue := 0 }]
  methods := #[k8m0, k8m1, k8m2, k8m3]
  instanceTypes := #[]
  staticTypes := #[.int, .int, .int, .boolean]
  resolved := Array.replicate 635 none
  statics := none }

def pool9 : Array CpInfo := pool [(1, .methodref 2 3), (0, .class_ 4), (0, .nameAndType 5 6), (0, u "java/lang/Object"), (0, u "<init>"), (0, u "()V"), (0, .class_ 8), (0, u "java/lang/Record")] 13

def k9c0 : Code := { maxStack := 1, maxLocals := 1, code := jdk_30_method_1_code, exceptionTable := #[], attributes := #[] }
def k9m0 : Method := { name := "<init>", desc := "()V", sig := { parameters := [], returnType := none }, accessFlags := 4, code := some k9c0 }
/-- java/lang/Record -/
def k9 : Class := { plain "java/lang/Record" (some 0) with
  accessFlags := 1057
  interfaces := #[]
  cf := some (fileOf pool9 7 #[] #[{ accessFlags := 4, nameIndex := 5, descriptorIndex := 6, attributes := #[] }] 1057 2 #[] #[])
  fields := #[]
  methods := #[k9m0]
  instanceTypes := #[]
  staticTypes := #[]
  resolved := Array.replicate 22 none
  statics := none }

def pool10 : Array CpInfo := pool [(1, .methodref 2 3), (0, .class_ 4), (0, .nameAndType 5 6), (0, u "java/lang/Record"), (0, u "<init>"), (0, u "()V"), (0, .string 8), (0, u "id"), (0, .methodref 10 11), (0, .class_ 12), (0, .nameAndType 13 14), (0, u "java/util/Objects"), (0, u "requireNonNull"), (0, u "(Ljava/lang/Object;Ljava/lang/String;)Ljava/lang/Object;"), (0, .string 16), (0, u "name"), (0, .string 18), (0, u "displayName"), (0, .string 20), (0, u "token"), (0, .fieldref 22 23), (0, .class_ 24), (0, .nameAndType 8 25), (0, u "com/example/sitesd/sitesd/model/User"), (0, u "Ljava/lang/String;"), (0, .fieldref 22 27), (0, .nameAndType 16 25), (0, .fieldref 22 29), (0, .nameAndType 18 25), (0, .fieldref 22 31), (0, .nameAndType 20 25), (0, .class_ 33), (0, u "java/lang/StringBuilder"), (0, .methodref 32 3), (0, .string 36), (0, u "User[id="), (0, .methodref 32 38), (0, .nameAndType 39 40), (0, u "append"), (0, u "(Ljava/lang/String;)Ljava/lang/StringBuilder;"), (0, .string 42), (0, u ", name="), (0, .string 44), (0, u ", displayName="), (0, .string 46), (0, u "]"), (0, .methodref 32 48), (0, .nameAndType 49 50), (0, u "toString"), (0, u "()Ljava/lang/String;"), (8, u "(Ljava/lang/String;Ljava/lang/String;Ljava/lang/String;Ljava/lang/String;)V")] 28

def k10c0 : Code := { maxStack := 2, maxLocals := 5, code := prog_19_method_1_code, exceptionTable := #[], attributes := #[] }
def k10m0 : Method := { name := "<init>", desc := "(Ljava/lang/String;Ljava/lang/String;Ljava/lang/String;Ljava/lang/String;)V", sig := { parameters := [(.object "java/lang/String"), (.object "java/lang/String"), (.object "java/lang/String"), (.object "java/lang/String")], returnType := none }, accessFlags := 1, code := some k10c0 }
def k10c1 : Code := { maxStack := 2, maxLocals := 1, code := prog_19_method_2_code, exceptionTable := #[], attributes := #[] }
def k10m1 : Method := { name := "toString", desc := "()Ljava/lang/String;", sig := { parameters := [], returnType := some (.object "java/lang/String") }, accessFlags := 1, code := some k10c1 }
/-- com/example/sitesd/sitesd/model/User -/
def k10 : Class := { plain "com/example/sitesd/sitesd/model/User" (some 9) with
  accessFlags := 49
  interfaces := #[]
  cf := some (fileOf pool10 22 #[] #[{ accessFlags := 1, nameIndex := 5, descriptorIndex := 59, attributes := #[] }, { accessFlags := 1, nameIndex := 49, descriptorIndex := 50, attributes := #[] }] 49 2 #[] #[{ accessFlags := 18, nameIndex := 8, descriptorIndex := 25, attributes := #[] }, { accessFlags := 18, nameIndex := 16, descriptorIndex := 25, attributes := #[] }, { accessFlags := 18, nameIndex := 18, descriptorIndex := 25, attributes := #[] }, { accessFlags := 18, nameIndex := 20, descriptorIndex := 25, attributes := #[] }])
  fields := #[{ name := "id", type := (.object "java/lang/String"), accessFlags := 18, slot := 0, constantValue := 0 }, { name := "name", type := (.object "java/lang/String"), accessFlags := 18, slot := 1, constantValue := 0 }, { name := "displayName", type := (.object "java/lang/String"), accessFlags := 18, slot := 2, constantValue := 0 }, { name := "token", type := (.object "java/lang/String"), accessFlags := 18, slot := 3, constantValue := 0 }]
  methods := #[k10m0, k10m1]
  instanceTypes := #[(.object "java/lang/String"), (.object "java/lang/String"), (.object "java/lang/String"), (.object "java/lang/String")]
  staticTypes := #[]
  resolved := Array.replicate 88 none
  statics := none }

def pool11 : Array CpInfo := pool [(2, .class_ 4), (1, u "java/lang/Object"), (0, u "<init>"), (0, u "()V"), (35, .class_ 44), (1, u "java/util/Objects"), (0, u "requireNonNull"), (48, u "(Ljava/lang/Object;Ljava/lang/String;)Ljava/lang/Object;")] 89

def k11m0 : Method := { name := "<init>", desc := "()V", sig := { parameters := [], returnType := none }, accessFlags := 2, code := none }
def k11c1 : Code := { maxStack := 3, maxLocals := 2, code := jdk_31_method_11_code, exceptionTable := #[], attributes := #[] }
def k11m1 : Method := { name := "requireNonNull", desc := "(Ljava/lang/Object;Ljava/lang/String;)Ljava/lang/Object;", sig := { parameters := [(.object "java/lang/Object"), (.object "java/lang/String")], returnType := some (.object "java/lang/Object") }, accessFlags := 9, code := some k11c1 }
/-- java/util/Objects -/
def k11 : Class := { plain "java/util/Objects" (some 0) with
  accessFlags := 49
  interfaces := #[]
  cf := some (fileOf pool11 42 #[] #[{ accessFlags := 2, nameIndex := 5, descriptorIndex := 6, attributes := #[] }, { accessFlags := 9, nameIndex := 45, descriptorIndex := 94, attributes := #[] }] 49 2 #[] #[])
  fields := #[]
  methods := #[k11m0, k11m1]
  instanceTypes := #[]
  staticTypes := #[]
  resolved := Array.replicate 184 none
  statics := none }

def pool12 : Array CpInfo := pool [(1, .class_ 2), (0, u "java/lang/Appendable"), (0, .class_ 4), (0, u "java/lang/Object")] 9

/-- java/lang/Appendable -/
def k12 : Class := { plain "java/lang/Appendable" (some 0) with
  accessFlags := 1537
  interfaces := #[]
  cf := some (fileOf pool12 1 #[] #[] 1537 3 #[] #[])
  fields := #[]
  methods := #[]
  instanceTypes := #[]
  staticTypes := #[]
  resolved := Array.replicate 14 none
  statics := none }

def pool13 : Array CpInfo := pool [(1, .class_ 2), (0, u "java/lang/String"), (0, .methodref 4 5), (0, .class_ 6), (0, .nameAndType 7 8), (0, u "java/lang/Object"), (0, u "<init>"), (0, u "()V"), (1, .class_ 12), (1, u "java/lang/AbstractStringBuilder"), (0, u "EMPTYVALUE"), (0, u "[B"), (0, .fieldref 10 16), (0, .nameAndType 17 14), (0, u "value"), (0, .fieldref 1 19), (0, .nameAndType 20 21), (0, u "COMPACT_STRINGS"), (0, u "Z"), (0, .fieldref 10 23), (0, .nameAndType 24 25), (0, u "coder"), (0, u "B"), (6, .methodref 1 33), (0, .nameAndType 34 35), (0, u "length"), (0, u "()I"), (3, .integer 2147483647), (0, .methodref 1 41), (0, .nameAndType 24 42), (0, u "()B"), (2, u "append"), (0, u "(Ljava/lang/String;)Ljava/lang/AbstractStringBuilder;"), (1, .class_ 49), (0, u "java/lang/CharSequence"), (19, u "(Ljava/lang/String;)V"), (5, u "maybeLatin1"), (3, .fieldref 10 80), (0, .nameAndType 81 82), (0, u "count"), (0, u "I"), (2, u "isLatin1"), (0, u "()Z"), (13, .methodref 10 101), (0, .nameAndType 102 103), (0, u "ensureCapacityInternal"), (0, u "(I)V"), (0, .methodref 10 105), (0, .nameAndType 106 107), (0, u "newCapacity"), (0, u "(I)I"), (0, .methodref 109 110), (0, .class_ 111), (0, .nameAndType 112 113), (0, u "java/util/Arrays"), (0, u "copyOf"), (0, u "([BI)[B"), (0, .methodref 115 116), (0, .class_ 117), (0, .nameAndType 118 119), (0, u "jdk/internal/util/ArraysSupport"), (0, u "newLength"), (0, u "(III)I"), (88, .methodref 10 209), (0, .nameAndType 210 211), (0, u "putStringAt"), (0, u "(ILjava/lang/String;)V"), (5, u "inflateIfNeededFor"), (2, .nameAndType 221 222), (0, u "getBytes"), (0, u "([BIB)V"), (174, .methodref 10 398), (0, .nameAndType 217 69), (0, .methodref 1 220), (3, u "()[B"), (40, .class_ 445), (0, u "java/lang/Appendable"), (106, u "getValue")] 56

def k13m0 : Method := { name := "<init>", desc := "()V", sig := { parameters := [], returnType := none }, accessFlags := 0, code := none }
def k13c1 : Code := { maxStack := 2, maxLocals := 2, code := jdk_68_method_2_code, exceptionTable := #[], attributes := #[] }
def k13m1 : Method := { name := "<init>", desc := "(I)V", sig := { parameters := [.int], returnType := none }, accessFlags := 0, code := some k13c1 }
def k13c2 : Code := { maxStack := 1, maxLocals := 1, code := jdk_68_method_6_code, exceptionTable := #[], attributes := #[] }
def k13m2 : Method := { name := "length", desc := "()I", sig := { parameters := [], returnType := some .int }, accessFlags := 1, code := some k13c2 }
def k13c3 : Code := { maxStack := 4, maxLocals := 3, code := jdk_68_method_9_code, exceptionTable := #[], attributes := #[] }
def k13m3 : Method := { name := "ensureCapacityInternal", desc := "(I)V", sig := { parameters := [.int], returnType := none }, accessFlags := 2, code := some k13c3 }
def k13c4 : Code := { maxStack := 5, maxLocals := 6, code := jdk_68_method_10_code, exceptionTable := #[], attributes := #[] }
def k13m4 : Method := { name := "newCapacity", desc := "(I)I", sig := { parameters := [.int], returnType := some .int }, accessFlags := 2, code := some k13c4 }
def k13c5 : Code := { maxStack := 3, maxLocals := 3, code := jdk_68_method_22_code, exceptionTable := #[], attributes := #[] }
def k13m5 : Method := { name := "append", desc := "(Ljava/lang/String;)Ljava/lang/AbstractStringBuilder;", sig := { parameters := [(.object "java/lang/String")], returnType := some (.object "java/lang/AbstractStringBuilder") }, accessFlags := 1, code := some k13c5 }
def k13c6 : Code := { maxStack := 1, maxLocals := 1, code := jdk_68_method_64_code, exceptionTable := #[], attributes := #[] }
def k13m6 : Method := { name := "getValue", desc := "()[B", sig := { parameters := [], returnType := some (.array .byte) }, accessFlags := 16, code := some k13c6 }
def k13c7 : Code := { maxStack := 1, maxLocals := 1, code := jdk_68_method_68_code, exceptionTable := #[], attributes := #[] }
def k13m7 : Method := { name := "isLatin1", desc := "()Z", sig := { parameters := [], returnType := some .boolean }, accessFlags := 16, code := some k13c7 }
def k13c8 : Code := { maxStack := 2, maxLocals := 2, code := jdk_68_method_71_code, exceptionTable := #[], attributes := #[] }
def k13m8 : Method := { name := "inflateIfNeededFor", desc := "(Ljava/lang/String;)V", sig := { parameters := [(.object "java/lang/String")], returnType := none }, accessFlags := 2, code := some k13c8 }
def k13c9 : Code := { maxStack := 4, maxLocals := 3, code := jdk_68_method_73_code, exceptionTable := #[], attributes := #[] }
def k13m9 : Method := { name := "putStringAt", desc := "(ILjava/lang/String;)V", sig := { parameters := [.int, (.object "java/lang/String")], returnType := none }, accessFlags := 2, code := some k13c9 }
/-- java/lang/AbstractStringBuilder -/
def k13 : Class := { plain "java/lang/AbstractStringBuilder" (some 0) with
  accessFlags := 1056
  interfaces := #[12, 4]
  cf := some (fileOf pool13 10 #[] #[{ accessFlags := 0, nameIndex := 7, descriptorIndex := 8, attributes := #[] }, { accessFlags := 0, nameIndex := 7, descriptorIndex := 103, attributes := #[] }, { accessFlags := 1, nameIndex := 34, descriptorIndex := 35, attributes := #[] }, { accessFlags := 2, nameIndex := 102, descriptorIndex := 103, attributes := #[] }, { accessFlags := 2, nameIndex := 106, descriptorIndex := 107, attributes := #[] }, { accessFlags := 1, nameIndex := 45, descriptorIndex := 46, attributes := #[] }, { accessFlags := 16, nameIndex := 552, descriptorIndex := 403, attributes := #[] }, { accessFlags := 16, nameIndex := 85, descriptorIndex := 86, attributes := #[] }, { accessFlags := 2, nameIndex := 217, descriptorIndex := 69, attributes := #[] }, { accessFlags := 2, nameIndex := 210, descriptorIndex := 211, attributes := #[] }] 1056 4 #[444, 48] #[{ accessFlags := 0, nameIndex := 17, descriptorIndex := 14, attributes := #[] }, { accessFlags := 0, nameIndex := 24, descriptorIndex := 25, attributes := #[] }, { accessFlags := 0, nameIndex := 75, descriptorIndex := 21, attributes := #[] }, { accessFlags := 0, nameIndex := 81, descriptorIndex := 82, attributes := #[] }, { accessFlags := 26, nameIndex := 13, descriptorIndex := 14, attributes := #[] }])
  fields := #[{ name := "value", type := (.array .byte), accessFlags := 0, slot := 0, constantValue := 0 }, { name := "coder", type := .byte, accessFlags := 0, slot := 1, constantValue := 0 }, { name := "maybeLatin1", type := .boolean, accessFlags := 0, slot := 2, constantValue := 0 }, { name := "count", type := .int, accessFlags := 0, slot := 3, constantValue := 0 }, { name := "EMPTYVALUE", type := (.array .byte), accessFlags := 26, slot := 0, constantValue := 0 }]
  methods := #[k13m0, k13m1, k13m2, k13m3, k13m4, k13m5, k13m6, k13m7, k13m8, k13m9]
  instanceTypes := #[(.array .byte), .byte, .boolean, .int]
  staticTypes := #[(.array .byte)]
  resolved := Array.replicate 609 none
  statics := none }

def pool14 : Array CpInfo := pool [(1, .methodref 2 3), (0, .class_ 4), (0, .nameAndType 5 6), (0, u "java/lang/AbstractStringBuilder"), (0, u "<init>"), (0, u "(I)V"), (11, .class_ 20), (1, u "java/lang/String"), (3, .class_ 26), (1, u "java/lang/StringBuilder"), (0, u "append"), (0, u "(Ljava/lang/String;)Ljava/lang/StringBuilder;"), (0, .methodref 2 30), (0, .nameAndType 27 31), (0, u "(Ljava/lang/String;)Ljava/lang/AbstractStringBuilder;"), (105, .methodref 18 138), (0, .nameAndType 5 139), (0, u "(Ljava/lang/StringBuilder;)V"), (5, u "()V"), (10, u "()I"), (186, .methodref 2 344), (0, .nameAndType 345 156), (0, u "length"), (3, .class_ 350), (0, u "java/lang/Appendable"), (0, .class_ 352), (0, u "java/io/Serializable"), (0, .class_ 354), (0, u "java/lang/Comparable"), (0, .class_ 356), (0, u "java/lang/CharSequence"), (0, u "serialVersionUID"), (0, u "J"), (40, u "toString"), (0, u "()Ljava/lang/String;")] 21

def k14c0 : Code := { maxStack := 2, maxLocals := 1, code := jdk_67_method_1_code, exceptionTable := #[], attributes := #[] }
def k14m0 : Method := { name := "<init>", desc := "()V", sig := { parameters := [], returnType := none }, accessFlags := 1, code := some k14c0 }
def k14c1 : Code := { maxStack := 2, maxLocals := 2, code := jdk_67_method_7_code, exceptionTable := #[], attributes := #[] }
def k14m1 : Method := { name := "append", desc := "(Ljava/lang/String;)Ljava/lang/StringBuilder;", sig := { parameters := [(.object "java/lang/String")], returnType := some (.object "java/lang/StringBuilder") }, accessFlags := 1, code := some k14c1 }
def k14c2 : Code := { maxStack := 3, maxLocals := 1, code := jdk_67_method_42_code, exceptionTable := #[], attributes := #[] }
def k14m2 : Method := { name := "toString", desc := "()Ljava/lang/String;", sig := { parameters := [], returnType := some (.object "java/lang/String") }, accessFlags := 1, code := some k14c2 }
def k14c3 : Code := { maxStack := 1, maxLocals := 1, code := jdk_67_method_93_code, exceptionTable := #[], attributes := #[] }
def k14m3 : Method := { name := "length", desc := "()I", sig := { parameters := [], returnType := some .int }, accessFlags := 4161, code := some k14c3 }
/-- java/lang/StringBuilder -/
def k14 : Class := { plain "java/lang/StringBuilder" (some 13) with
  accessFlags := 49
  interfaces := #[12, 2, 3, 4]
  cf := some (fileOf pool14 24 #[] #[{ accessFlags := 1, nameIndex := 5, descriptorIndex := 145, attributes := #[] }, { accessFlags := 1, nameIndex := 27, descriptorIndex := 28, attributes := #[] }, { accessFlags := 1, nameIndex := 399, descriptorIndex := 400, attributes := #[] }, { accessFlags := 4161, nameIndex := 345, descriptorIndex := 156, attributes := #[] }] 49 2 #[349, 351, 353, 355] #[{ accessFlags := 24, nameIndex := 357, descriptorIndex := 358, attributes := #[] }])
  fields := #[{ name := "serialVersionUID", type := .long, accessFlags := 24, slot := 0, constantValue := 0 }]
  methods := #[k14m0, k14m1, k14m2, k14m3]
  instanceTypes := #[(.array .byte), .byte, .boolean, .int]
  staticTypes := #[.long]
  resolved := Array.replicate 422 none
  statics := none }

def pool15 : Array CpInfo := pool [(2, .class_ 4), (1, u "java/lang/Object"), (0, u "<init>"), (0, u "()V"), (1, .class_ 10), (1, u "java/lang/System"), (0, u "allowSecurityManager"), (0, u "I"), (16, u "cons"), (0, u "Ljava/io/Console;"), (77, .class_ 110), (1, u "java/lang/System$CallersHolder"), (43, u "initialErrStream"), (0, u "Ljava/io/PrintStream;"), (19, u "security"), (0, u "Ljava/lang/SecurityManager;"), (31, .class_ 209), (0, u "java/lang/System$1"), (7, u "props"), (0, u "Ljava/util/Properties;"), (2, u "lineSeparator"), (0, u "Ljava/lang/String;"), (96, .class_ 321), (1, u "java/lang/System$LoggerFinder"), (5, .class_ 328), (0, u "java/lang/System$Logger"), (67, u "err"), (2, u "out"), (91, u "notSupportedJnuEncoding"), (15, u "in"), (17, u "initialIn"), (0, u "Ljava/io/InputStream;"), (35, u "bootLayer"), (0, u "Ljava/lang/ModuleLayer;"), (99, .class_ 664), (0, u "java/lang/System$2"), (9, u "NEVER"), (2, u "MAYBE"), (49, u "arraycopy"), (0, u "(Ljava/lang/Object;ILjava/lang/Object;II)V"), (72, .class_ 802), (0, u "java/lang/System$Logger$Level")] 31

def k15m0 : Method := { name := "<init>", desc := "()V", sig := { parameters := [], returnType := none }, accessFlags := 2, code := none }
def k15m1 : Method := { name := "arraycopy", desc := "(Ljava/lang/Object;ILjava/lang/Object;II)V", sig := { parameters := [(.object "java/lang/Object"), .int, (.object "java/lang/Object"), .int, .int], returnType := none }, accessFlags := 265, code := none }
/-- java/lang/System -/
def k15 : Class := { plain "java/lang/System" (some 0) with
  accessFlags := 49
  interfaces := #[]
  cf := some (fileOf pool15 8 #[.nestMembers #[319, 327, 801, 108, 663, 208]] #[{ accessFlags := 2, nameIndex := 5, descriptorIndex := 6, attributes := #[] }, { accessFlags := 265, nameIndex := 727, descriptorIndex := 728, attributes := #[] }] 49 2 #[] #[{ accessFlags := 25, nameIndex := 507, descriptorIndex := 526, attributes := #[] }, { accessFlags := 25, nameIndex := 399, descriptorIndex := 155, attributes := #[] }, { accessFlags := 25, nameIndex := 396, descriptorIndex := 155, attributes := #[] }, { accessFlags := 10, nameIndex := 525, descriptorIndex := 526, attributes := #[] }, { accessFlags := 26, nameIndex := 674, descriptorIndex := 12, attributes := #[] }, { accessFlags := 26, nameIndex := 677, descriptorIndex := 12, attributes := #[] }, { accessFlags := 10, nameIndex := 11, descriptorIndex := 12, attributes := #[] }, { accessFlags := 74, nameIndex := 175, descriptorIndex := 176, attributes := #[] }, { accessFlags := 10, nameIndex := 491, descriptorIndex := 222, attributes := #[] }, { accessFlags := 74, nameIndex := 29, descriptorIndex := 30, attributes := #[] }, { accessFlags := 74, nameIndex := 154, descriptorIndex := 155, attributes := #[] }, { accessFlags := 10, nameIndex := 217, descriptorIndex := 218, attributes := #[] }, { accessFlags := 10, nameIndex := 221, descriptorIndex := 222, attributes := #[] }, { accessFlags := 8, nameIndex := 562, descriptorIndex := 563, attributes := #[] }])
  fields := #[{ name := "in", type := (.object "java/io/InputStream"), accessFlags := 25, slot := 0, constantValue := 0 }, { name := "out", type := (.object "java/io/PrintStream"), accessFlags := 25, slot := 1, constantValue := 0 }, { name := "err", type := (.object "java/io/PrintStream"), accessFlags := 25, slot := 2, constantValue := 0 }, { name := "initialIn", type := (.object "java/io/InputStream"), accessFlags := 10, slot := 3, constantValue := 0 }, { name := "NEVER", type := .int, accessFlags := 26, slot := 4, constantValue := 0 }, { name := "MAYBE", type := .int, accessFlags := 26, slot := 5, constantValue := 0 }, { name := "allowSecurityManager", type := .int, accessFlags := 10, slot := 6, constantValue := 0 }, { name := "security", type := (.object "java/lang/SecurityManager"), accessFlags := 74, slot := 7, constantValue := 0 }, { name := "notSupportedJnuEncoding", type := (.object "java/lang/String"), accessFlags := 10, slot := 8, constantValue := 0 }, { name := "cons", type := (.object "java/io/Console"), accessFlags := 74, slot := 9, constantValue := 0 }, { name := "initialErrStream", type := (.object "java/io/PrintStream"), accessFlags := 74, slot := 10, constantValue := 0 }, { name := "props", type := (.object "java/util/Properties"), accessFlags := 10, slot := 11, constantValue := 0 }, { name := "lineSeparator", type := (.object "java/lang/String"), accessFlags := 10, slot := 12, constantValue := 0 }, { name := "bootLayer", type := (.object "java/lang/ModuleLayer"), accessFlags := 8, slot := 13, constantValue := 0 }]
  methods := #[k15m0, k15m1]
  instanceTypes := #[]
  staticTypes := #[(.object "java/io/InputStream"), (.object "java/io/PrintStream"), (.object "java/io/PrintStream"), (.object "java/io/InputStream"), .int, .int, .int, (.object "java/lang/SecurityManager"), (.object "java/lang/String"), (.object "java/io/Console"), (.object "java/io/PrintStream"), (.object "java/util/Properties"), (.object "java/lang/String"), (.object "java/lang/ModuleLayer")]
  resolved := Array.replicate 834 none
  statics := none }

def pool16 : Array CpInfo := pool [(9, u "<init>"), (6, .class_ 18), (1, u "java/lang/Object"), (0, u "()V"), (1, .class_ 23), (1, u "jdk/internal/util/ArraysSupport"), (0, u "LOG2_ARRAY_LONG_INDEX_SCALE"), (0, u "I"), (2, u "U"), (0, u "Ljdk/internal/misc/Unsafe;"), (8, u "BIG_ENDIAN"), (0, u "Z"), (8, u "LOG2_BYTE_BIT_SIZE"), (4, u "LOG2_ARRAY_INT_INDEX_SCALE"), (54, u "JLA"), (0, u "Ljdk/internal/access/JavaLangAccess;"), (11, u "LOG2_ARRAY_BOOLEAN_INDEX_SCALE"), (9, u "LOG2_ARRAY_BYTE_INDEX_SCALE"), (5, u "LOG2_ARRAY_CHAR_INDEX_SCALE"), (5, u "LOG2_ARRAY_SHORT_INDEX_SCALE"), (18, u "LOG2_ARRAY_FLOAT_INDEX_SCALE"), (24, u "LOG2_ARRAY_DOUBLE_INDEX_SCALE"), (6, .methodref 195 196), (0, .class_ 197), (0, .nameAndType 198 199), (0, u "java/lang/Math"), (0, u "max"), (0, u "(II)I"), (0, .integer 2147483639), (76, u "T_BOOLEAN"), (2, u "T_CHAR"), (1, u "T_FLOAT"), (1, u "T_DOUBLE"), (1, u "T_BYTE"), (1, u "T_SHORT"), (1, u "T_INT"), (1, u "T_LONG"), (1, u "SOFT_MAX_ARRAY_LENGTH"), (56, u "newLength"), (0, u "(III)I")] 25

def k16m0 : Method := { name := "<init>", desc := "()V", sig := { parameters := [], returnType := none }, accessFlags := 2, code := none }
def k16c1 : Code := { maxStack := 3, maxLocals := 4, code := jdk_48_method_27_code, exceptionTable := #[], attributes := #[] }
def k16m1 : Method := { name := "newLength", desc := "(III)I", sig := { parameters := [.int, .int, .int], returnType := some .int }, accessFlags := 9, code := some k16c1 }
/-- jdk/internal/util/ArraysSupport -/
def k16 : Class := { plain "jdk/internal/util/ArraysSupport" (some 0) with
  accessFlags := 33
  interfaces := #[]
  cf := some (fileOf pool16 21 #[] #[{ accessFlags := 2, nameIndex := 9, descriptorIndex := 19, attributes := #[] }, { accessFlags := 9, nameIndex := 351, descriptorIndex := 352, attributes := #[] }] 33 16 #[] #[{ accessFlags := 24, nameIndex := 28, descriptorIndex := 29, attributes := #[] }, { accessFlags := 26, nameIndex := 38, descriptorIndex := 39, attributes := #[] }, { accessFlags := 25, nameIndex := 121, descriptorIndex := 25, attributes := #[] }, { accessFlags := 25, nameIndex := 131, descriptorIndex := 25, attributes := #[] }, { accessFlags := 25, nameIndex := 137, descriptorIndex := 25, attributes := #[] }, { accessFlags := 25, nameIndex := 143, descriptorIndex := 25, attributes := #[] }, { accessFlags := 25, nameIndex := 53, descriptorIndex := 25, attributes := #[] }, { accessFlags := 25, nameIndex := 24, descriptorIndex := 25, attributes := #[] }, { accessFlags := 25, nameIndex := 162, descriptorIndex := 25, attributes := #[] }, { accessFlags := 25, nameIndex := 187, descriptorIndex := 25, attributes := #[] }, { accessFlags := 26, nameIndex := 48, descriptorIndex := 25, attributes := #[] }, { accessFlags := 25, nameIndex := 277, descriptorIndex := 25, attributes := #[] }, { accessFlags := 25, nameIndex := 280, descriptorIndex := 25, attributes := #[] }, { accessFlags := 25, nameIndex := 282, descriptorIndex := 25, attributes := #[] }, { accessFlags := 25, nameIndex := 284, descriptorIndex := 25, attributes := #[] }, { accessFlags := 25, nameIndex := 286, descriptorIndex := 25, attributes := #[] }, { accessFlags := 25, nameIndex := 288, descriptorIndex := 25, attributes := #[] }, { accessFlags := 25, nameIndex := 290, descriptorIndex := 25, attributes := #[] }, { accessFlags := 25, nameIndex := 292, descriptorIndex := 25, attributes := #[] }, { accessFlags := 26, nameIndex := 108, descriptorIndex := 109, attributes := #[] }, { accessFlags := 25, nameIndex := 294, descriptorIndex := 25, attributes := #[] }])
  fields := #[{ name := "U", type := (.object "jdk/internal/misc/Unsafe"), accessFlags := 24, slot := 0, constantValue := 0 }, { name := "BIG_ENDIAN", type := .boolean, accessFlags := 26, slot := 1, constantValue := 0 }, { name := "LOG2_ARRAY_BOOLEAN_INDEX_SCALE", type := .int, accessFlags := 25, slot := 2, constantValue := 0 }, { name := "LOG2_ARRAY_BYTE_INDEX_SCALE", type := .int, accessFlags := 25, slot := 3, constantValue := 0 }, { name := "LOG2_ARRAY_CHAR_INDEX_SCALE", type := .int, accessFlags := 25, slot := 4, constantValue := 0 }, { name := "LOG2_ARRAY_SHORT_INDEX_SCALE", type := .int, accessFlags := 25, slot := 5, constantValue := 0 }, { name := "LOG2_ARRAY_INT_INDEX_SCALE", type := .int, accessFlags := 25, slot := 6, constantValue := 0 }, { name := "LOG2_ARRAY_LONG_INDEX_SCALE", type := .int, accessFlags := 25, slot := 7, constantValue := 0 }, { name := "LOG2_ARRAY_FLOAT_INDEX_SCALE", type := .int, accessFlags := 25, slot := 8, constantValue := 0 }, { name := "LOG2_ARRAY_DOUBLE_INDEX_SCALE", type := .int, accessFlags := 25, slot := 9, constantValue := 0 }, { name := "LOG2_BYTE_BIT_SIZE", type := .int, accessFlags := 26, slot := 10, constantValue := 0 }, { name := "T_BOOLEAN", type := .int, accessFlags := 25, slot := 11, constantValue := 0 }, { name := "T_CHAR", type := .int, accessFlags := 25, slot := 12, constantValue := 0 }, { name := "T_FLOAT", type := .int, accessFlags := 25, slot := 13, constantValue := 0 }, { name := "T_DOUBLE", type := .int, accessFlags := 25, slot := 14, constantValue := 0 }, { name := "T_BYTE", type := .int, accessFlags := 25, slot := 15, constantValue := 0 }, { name := "T_SHORT", type := .int, accessFlags := 25, slot := 16, constantValue := 0 }, { name := "T_INT", type := .int, accessFlags := 25, slot := 17, constantValue := 0 }, { name := "T_LONG", type := .int, accessFlags := 25, slot := 18, constantValue := 0 }, { name := "JLA", type := (.object "jdk/internal/access/JavaLangAccess"), accessFlags := 26, slot := 19, constantValue := 0 }, { name := "SOFT_MAX_ARRAY_LENGTH", type := .int, accessFlags := 25, slot := 20, constantValue := 0 }]
  methods := #[k16m0, k16m1]
  instanceTypes := #[]
  staticTypes := #[(.object "jdk/internal/misc/Unsafe"), .boolean, .int, .int, .int, .int, .int, .int, .int, .int, .int, .int, .int, .int, .int, .int, .int, .int, .int, (.object "jdk/internal/access/JavaLangAccess"), .int]
  resolved := Array.replicate 378 none
  statics := none }

def pool17 : Array CpInfo := pool [(1, .class_ 2), (0, u "java/lang/Math"), (1, .class_ 6), (1, u "java/lang/Object"), (0, u "<init>"), (0, u "()V"), (89, .class_ 100), (1, u "java/lang/Math$RandomNumberGeneratorHolder"), (71, u "negativeZeroFloatBits"), (0, u "J"), (2, u "negativeZeroDoubleBits"), (21, u "max"), (2, u "min"), (43, u "$assertionsDisabled"), (0, u "Z"), (88, u "(II)I"), (2, u "twoToTheDoubleScaleDown"), (0, u "D"), (4, u "twoToTheDoubleScaleUp"), (9, u "E"), (3, u "PI"), (2, u "TAU"), (2, u "DEGREES_TO_RADIANS"), (0, u "RADIANS_TO_DEGREES")] 94

def k17m0 : Method := { name := "<init>", desc := "()V", sig := { parameters := [], returnType := none }, accessFlags := 2, code := none }
def k17c1 : Code := { maxStack := 2, maxLocals := 2, code := jdk_29_method_65_code, exceptionTable := #[], attributes := #[] }
def k17m1 : Method := { name := "max", desc := "(II)I", sig := { parameters := [.int, .int], returnType := some .int }, accessFlags := 9, code := some k17c1 }
def k17c2 : Code := { maxStack := 2, maxLocals := 2, code := jdk_29_method_69_code, exceptionTable := #[], attributes := #[] }
def k17m2 : Method := { name := "min", desc := "(II)I", sig := { parameters := [.int, .int], returnType := some .int }, accessFlags := 9, code := some k17c2 }
/-- java/lang/Math -/
def k17 : Class := { plain "java/lang/Math" (some 0) with
  accessFlags := 49
  interfaces := #[]
  cf := some (fileOf pool17 1 #[.nestMembers #[98]] #[{ accessFlags := 2, nameIndex := 7, descriptorIndex := 8, attributes := #[] }, { accessFlags := 9, nameIndex := 198, descriptorIndex := 335, attributes := #[] }, { accessFlags := 9, nameIndex := 201, descriptorIndex := 335, attributes := #[] }] 49 4 #[] #[{ accessFlags := 25, nameIndex := 354, descriptorIndex := 339, attributes := #[] }, { accessFlags := 25, nameIndex := 358, descriptorIndex := 339, attributes := #[] }, { accessFlags := 25, nameIndex := 361, descriptorIndex := 339, attributes := #[] }, { accessFlags := 26, nameIndex := 364, descriptorIndex := 339, attributes := #[] }, { accessFlags := 26, nameIndex := 365, descriptorIndex := 339, attributes := #[] }, { accessFlags := 26, nameIndex := 172, descriptorIndex := 173, attributes := #[] }, { accessFlags := 26, nameIndex := 176, descriptorIndex := 173, attributes := #[] }, { accessFlags := 8, nameIndex := 344, descriptorIndex := 339, attributes := #[] }, { accessFlags := 8, nameIndex := 338, descriptorIndex := 339, attributes := #[] }, { accessFlags := 4120, nameIndex := 245, descriptorIndex := 246, attributes := #[] }])
  fields := #[{ name := "E", type := .double, accessFlags := 25, slot := 0, constantValue := 0 }, { name := "PI", type := .double, accessFlags := 25, slot := 1, constantValue := 0 }, { name := "TAU", type := .double, accessFlags := 25, slot := 2, constantValue := 0 }, { name := "DEGREES_TO_RADIANS", type := .double, accessFlags := 26, slot := 3, constantValue := 0 }, { name := "RADIANS_TO_DEGREES", type := .double, accessFlags := 26, slot := 4, constantValue := 0 }, { name := "negativeZeroFloatBits", type := .long, accessFlags := 26, slot := 5, constantValue := 0 }, { name := "negativeZeroDoubleBits", type := .long, accessFlags := 26, slot := 6, constantValue := 0 }, { name := "twoToTheDoubleScaleUp", type := .double, accessFlags := 8, slot := 7, constantValue := 0 }, { name := "twoToTheDoubleScaleDown", type := .double, accessFlags := 8, slot := 8, constantValue := 0 }, { name := "$assertionsDisabled", type := .boolean, accessFlags := 4120, slot := 9, constantValue := 0 }]
  methods := #[k17m0, k17m1, k17m2]
  instanceTypes := #[]
  staticTypes := #[.double, .double, .double, .double, .double, .long, .long, .double, .double, .boolean]
  resolved := Array.replicate 460 none
  statics := none }

def pool18 : Array CpInfo := pool [(2, .class_ 4), (1, u "java/lang/Object"), (0, u "<init>"), (0, u "()V"), (7, .class_ 16), (1, u "java/util/Arrays"), (57, .class_ 76), (1, u "java/util/Arrays$NaturalOrder"), (36, .class_ 115), (1, u "java/util/Arrays$LegacyMergeSort"), (1, u "Z"), (21, u "copyOfRange"), (10, .methodref 151 152), (0, .class_ 153), (0, .nameAndType 154 155), (0, u "java/lang/System"), (0, u "arraycopy"), (0, u "(Ljava/lang/Object;ILjava/lang/Object;II)V"), (146, u "copyOf"), (1, .methodref 305 306), (0, .class_ 307), (0, .nameAndType 308 309), (0, u "java/lang/Math"), (0, u "min"), (0, u "(II)I"), (29, .methodref 14 340), (0, .nameAndType 341 342), (0, u "copyOfRangeByte"), (0, u "([BII)[B"), (0, .methodref 14 344), (0, .nameAndType 345 346), (0, u "checkLength"), (0, u "(II)V"), (28, .class_ 376), (0, u "java/util/Arrays$ArrayList"), (68, u "$assertionsDisabled"), (269, u "MIN_ARRAY_SORT_GRAN"), (0, u "I"), (2, u "INSERTIONSORT_THRESHOLD"), (149, u "([BI)[B"), (105, .class_ 976), (0, u "java/util/Arrays$ArrayItr")] 52

def k18m0 : Method := { name := "<init>", desc := "()V", sig := { parameters := [], returnType := none }, accessFlags := 2, code := none }
def k18c1 : Code := { maxStack := 6, maxLocals := 3, code := jdk_65_method_121_code, exceptionTable := #[], attributes := #[] }
def k18m1 : Method := { name := "copyOf", desc := "([BI)[B", sig := { parameters := [(.array .byte), .int], returnType := some (.array .byte) }, accessFlags := 9, code := some k18c1 }
def k18c2 : Code := { maxStack := 4, maxLocals := 2, code := jdk_65_method_131_code, exceptionTable := #[], attributes := #[] }
def k18m2 : Method := { name := "checkLength", desc := "(II)V", sig := { parameters := [.int, .int], returnType := none }, accessFlags := 10, code := some k18c2 }
def k18c3 : Code := { maxStack := 3, maxLocals := 3, code := jdk_65_method_132_code, exceptionTable := #[], attributes := #[] }
def k18m3 : Method := { name := "copyOfRange", desc := "([BII)[B", sig := { parameters := [(.array .byte), .int, .int], returnType := some (.array .byte) }, accessFlags := 9, code := some k18c3 }
def k18c4 : Code := { maxStack := 6, maxLocals := 5, code := jdk_65_method_133_code, exceptionTable := #[], attributes := #[] }
def k18m4 : Method := { name := "copyOfRangeByte", desc := "([BII)[B", sig := { parameters := [(.array .byte), .int, .int], returnType := some (.array .byte) }, accessFlags := 10, code := some k18c4 }
/-- java/util/Arrays -/
def k18 : Class := { plain "java/util/Arrays" (some 0) with
  accessFlags := 49
  interfaces := #[]
  cf := some (fileOf pool18 14 #[.nestMembers #[975, 375, 113, 74]] #[{ accessFlags := 2, nameIndex := 5, descriptorIndex := 6, attributes := #[] }, { accessFlags := 9, nameIndex := 302, descriptorIndex := 869, attributes := #[] }, { accessFlags := 10, nameIndex := 345, descriptorIndex := 346, attributes := #[] }, { accessFlags := 9, nameIndex := 139, descriptorIndex := 342, attributes := #[] }, { accessFlags := 10, nameIndex := 341, descriptorIndex := 342, attributes := #[] }] 49 2 #[] #[{ accessFlags := 26, nameIndex := 715, descriptorIndex := 716, attributes := #[] }, { accessFlags := 26, nameIndex := 719, descriptorIndex := 716, attributes := #[] }, { accessFlags := 4120, nameIndex := 445, descriptorIndex := 117, attributes := #[] }])
  fields := #[{ name := "MIN_ARRAY_SORT_GRAN", type := .int, accessFlags := 26, slot := 0, constantValue := 0 }, { name := "INSERTIONSORT_THRESHOLD", type := .int, accessFlags := 26, slot := 1, constantValue := 0 }, { name := "$assertionsDisabled", type := .boolean, accessFlags := 4120, slot := 2, constantValue := 0 }]
  methods := #[k18m0, k18m1, k18m2, k18m3, k18m4]
  instanceTypes := #[]
  staticTypes := #[.int, .int, .boolean]
  resolved := Array.replicate 1029 none
  statics := none }

def pool19 : Array CpInfo := pool [(4, .class_ 6), (1, u "java/lang/Object"), (0, u "<init>"), (0, u "()V"), (5, .class_ 16), (1, u "java/lang/StringLatin1"), (104, u "$assertionsDisabled"), (0, u "Z"), (98, .class_ 223), (1, u "java/lang/StringLatin1$LinesSpliterator"), (57, u "equals"), (0, u "([B[B)Z"), (107, .class_ 391), (0, u "java/lang/StringLatin1$CharsSpliterator")] 3

def k19m0 : Method := { name := "<init>", desc := "()V", sig := { parameters := [], returnType := none }, accessFlags := 0, code := none }
def k19c1 : Code := { maxStack := 3, maxLocals := 3, code := jdk_43_method_13_code, exceptionTable := #[], attributes := #[] }
def k19m1 : Method := { name := "equals", desc := "([B[B)Z", sig := { parameters := [(.array .byte), (.array .byte)], returnType := some .boolean }, accessFlags := 9, code := some k19c1 }
/-- java/lang/StringLatin1 -/
def k19 : Class := { plain "java/lang/StringLatin1" (some 0) with
  accessFlags := 48
  interfaces := #[]
  cf := some (fileOf pool19 14 #[.nestMembers #[390, 221]] #[{ accessFlags := 0, nameIndex := 7, descriptorIndex := 8, attributes := #[] }, { accessFlags := 9, nameIndex := 281, descriptorIndex := 282, attributes := #[] }] 48 4 #[] #[{ accessFlags := 4120, nameIndex := 121, descriptorIndex := 122, attributes := #[] }])
  fields := #[{ name := "$assertionsDisabled", type := .boolean, accessFlags := 4120, slot := 0, constantValue := 0 }]
  methods := #[k19m0, k19m1]
  instanceTypes := #[]
  staticTypes := #[.boolean]
  resolved := Array.replicate 395 none
  statics := none }

def pool20 : Array CpInfo := pool [(2, .class_ 4), (1, u "java/lang/Object"), (0, u "<init>"), (0, u "()V"), (17, .class_ 26), (1, u "jdk/internal/util/Preconditions"), (28, .class_ 56), (0, u "jdk/internal/util/Preconditions$4"), (57, .class_ 115), (0, u "jdk/internal/util/Preconditions$1"), (7, u "SIOOBE_FORMATTER"), (0, u "Ljava/util/function/BiFunction;"), (0, .class_ 126), (0, u "jdk/internal/util/Preconditions$2"), (3, u "AIOOBE_FORMATTER"), (0, .class_ 132), (0, u "jdk/internal/util/Preconditions$3"), (3, u "IOOBE_FORMATTER")] 57

def k20m0 : Method := { name := "<init>", desc := "()V", sig := { parameters := [], returnType := none }, accessFlags := 1, code := none }
/-- jdk/internal/util/Preconditions -/
def k20 : Class := { plain "jdk/internal/util/Preconditions" (some 0) with
  accessFlags := 33
  interfaces := #[]
  cf := some (fileOf pool20 24 #[.nestMembers #[55, 131, 125, 114]] #[{ accessFlags := 1, nameIndex := 5, descriptorIndex := 6, attributes := #[] }] 33 2 #[] #[{ accessFlags := 25, nameIndex := 123, descriptorIndex := 124, attributes := #[] }, { accessFlags := 25, nameIndex := 130, descriptorIndex := 124, attributes := #[] }, { accessFlags := 25, nameIndex := 136, descriptorIndex := 124, attributes := #[] }])
  fields := #[{ name := "SIOOBE_FORMATTER", type := (.object "java/util/function/BiFunction"), accessFlags := 25, slot := 0, constantValue := 0 }, { name := "AIOOBE_FORMATTER", type := (.object "java/util/function/BiFunction"), accessFlags := 25, slot := 1, constantValue := 0 }, { name := "IOOBE_FORMATTER", type := (.object "java/util/function/BiFunction"), accessFlags := 25, slot := 2, constantValue := 0 }]
  methods := #[k20m0]
  instanceTypes := #[]
  staticTypes := #[(.object "java/util/function/BiFunction"), (.object "java/util/function/BiFunction"), (.object "java/util/function/BiFunction")]
  resolved := Array.replicate 194 none
  statics := some 1 }

def pool21 : Array CpInfo := pool [(1, u "java/lang/Cloneable"), (0, .class_ 1), (0, u "java/lang/Object"), (0, .class_ 3)] 3

/-- java/lang/Cloneable -/
def k21 : Class := { plain "java/lang/Cloneable" (some 0) with
  accessFlags := 1537
  interfaces := #[]
  cf := some (fileOf pool21 2 #[] #[] 1537 4 #[] #[])
  fields := #[]
  methods := #[]
  instanceTypes := #[]
  staticTypes := #[]
  resolved := Array.replicate 8 none
  statics := none }

/-- the primitive byte -/
def k22 : Class := { plain "byte" none with kind := .primitive 'B', accessFlags := 0x411 }
/-- [B -/
def k23 : Class := { plain "[B" (some 0) with kind := .array 22 .byte, interfaces := #[21, 2], accessFlags := 1041 }

/-- the primitive char -/
def k24 : Class := { plain "char" none with kind := .primitive 'C', accessFlags := 0x411 }
/-- [C -/
def k25 : Class := { plain "[C" (some 0) with kind := .array 24 .char, interfaces := #[21, 2], accessFlags := 1041 }

/-- the primitive int -/
def k26 : Class := { plain "int" none with kind := .primitive 'I', accessFlags := 0x411 }
/-- [I -/
def k27 : Class := { plain "[I" (some 0) with kind := .array 26 .int, interfaces := #[21, 2], accessFlags := 1041 }

def heap : Heap := #[{ cls := 7, slots := #[.long 0, .int 1, .null, .int 0, .null, .int 0, .int 0], vm := .statics 7 },
  { cls := 20, slots := #[.null, .null, .null], vm := .statics 20 }]
def classes : Array Class := #[k0, k1, k2, k3, k4, k5, k6, k7, k8, k9, k10, k11, k12, k13, k14, k15, k16, k17, k18, k19, k20, k21, k22, k23, k24, k25, k26, k27]
def interned : List (Array UInt16 × Addr) := []
def slotsUsed : Nat := 10
def theMethod : MethodId := ⟨1, 2⟩
def args0 : Array Value := #[.int 5, .int 5, .int 5, .int 5]
def aboutOver (below : List Frame) : State where
  vm := { classes := classes, interned := interned.toArray }
  heap := heap
  slotsUsed := slotsUsed
  threads := #[{ frames := .invoking theMethod args0 :: below }]
def below0 : List Frame := [.native { method := ⟨0, 0⟩, args := #[] }]
def about1 : State := aboutOver below0
def p0 : Program := .bare "" "" ""
def e0 : Env := launch0.env 0 0 0
theorem w_frames : about1.frames = Frame.invoking theMethod args0 :: below0 := rfl
set_option maxRecDepth 65536 in
theorem w_args : argsFit about1.vm theMethod args0 = true := by decide +kernel
set_option maxRecDepth 65536 in
theorem w_heap : heapFits about1 = true := by decide +kernel
set_option maxRecDepth 65536 in
theorem w_runnable : about1.curStatus? = some .runnable := by decide +kernel
set_option maxRecDepth 65536 in
theorem w_alone : about1.alone = true := by decide +kernel
set_option maxRecDepth 65536 in
theorem w_named : about1.methodNamed? x = some theMethod := by decide +kernel
set_option maxRecDepth 65536 in
theorem w_hears : about1.hears theMethod below0 = true := by decide +kernel
set_option maxRecDepth 65536 in
theorem w_ripe : about1.ripe theMethod args0 below0 = true := by decide +kernel
theorem w_running : about1.status = .running := rfl
set_option maxRecDepth 65536 in
theorem w_room : about1.hasRoom e0.platform room_1 = true :=
  launch0.hasRoom_least _ room_1 (by decide +kernel) (by decide +kernel) (by decide +kernel) (by decide +kernel) (by decide +kernel) (by decide +kernel)
theorem allAtoms_all (ts : List Jvm.Cond) (a : Array Jvm.Value) (st : Jvm.State) : (allAtoms ts).before a st = ts.all (fun c => c.before a st) := by
  induction ts with
  | nil => rfl
  | cons c t ih =>
    show (Jvm.Cond.and c (allAtoms t)).before a st = _
    rw [Jvm.Cond.before_and, ih, List.all_cons]
def words1 : List Jvm.Cond := Jvm.Cond.code x code maxLocals ret :: tables_1
/-- a 'code' word, met by the world's own term for the bytes: nothing is compared byte by byte -/
theorem code_word {y : MethodName} {bytes : ByteArray} {mx : Nat} {rt : Option FieldType} {a : Array Value} {s : State} {m : MethodId} {meth : Method} {c : Code} (h1 : s.methodNamed? y = some m) (h2 : s.vm.method? m = some meth) (h3 : meth.code = some c) (h4 : c.code = bytes)
    (h5 : (c.maxLocals == mx && c.exceptionTable.isEmpty && decide (c.maxStack ≤ mostOperands) && decide (meth.sig.returnType = rt) && !meth.locks && decide (parseMethodDescriptor y.desc = some meth.sig)) = true) : (Jvm.Cond.code y bytes mx rt).before a s = true := by
  simp only [Bool.and_eq_true, beq_iff_eq, Bool.not_eq_true', decide_eq_true_eq] at h5
  obtain ⟨⟨⟨⟨⟨g1, g2⟩, g3⟩, g4⟩, g5⟩, g6⟩ := h5
  simp [Cond.before, Cond.holds, Cond.value, h1, h2, h3, h4, g1, g2, g3, g4, g5, g6]
def isCode : Jvm.Cond → Bool
  | .code _ _ _ _ => true
  | _ => false
theorem all_split {L : List Jvm.Cond} {P : Jvm.Cond → Bool} (h1 : L.all (fun c => isCode c || P c) = true) (h2 : ∀ c ∈ L.filter isCode, P c = true) : L.all P = true := by
  refine List.all_eq_true.mpr fun c hc => ?_
  have h := List.all_eq_true.mp h1 c hc
  rcases Bool.eq_false_or_eq_true (isCode c) with hi | hi
  · exact h2 c (List.mem_filter.mpr ⟨hc, hi⟩)
  · simpa [hi] using h
set_option maxRecDepth 65536 in
theorem w_c0 : (Jvm.Cond.code x code maxLocals ret).before args0 about1 = true := code_word (m := ⟨1, 2⟩) (meth := k1m2) (c := k1c2) (by decide +kernel) rfl rfl rfl (by decide +kernel)
set_option maxRecDepth 65536 in
theorem w_c1 : (Jvm.Cond.code ({ cls := "java/lang/String", name := "<init>", desc := "([C)V" } : Jvm.MethodName) jdk_42_method_3_code (2 : Nat) (Option.none : Option Jvm.ClassFile.FieldType)).before args0 about1 = true := code_word (m := ⟨7, 1⟩) (meth := k7m1) (c := k7c1) (by decide +kernel) rfl rfl rfl (by decide +kernel)
set_option maxRecDepth 65536 in
theorem w_c2 : (Jvm.Cond.code ({ cls := "java/lang/String", name := "<init>", desc := "([CIILjava/lang/Void;)V" } : Jvm.MethodName) jdk_42_method_149_code (6 : Nat) (Option.none : Option Jvm.ClassFile.FieldType)).before args0 about1 = true := code_word (m := ⟨7, 6⟩) (meth := k7m6) (c := k7c6) (by decide +kernel) rfl rfl rfl (by decide +kernel)
set_option maxRecDepth 65536 in
theorem w_c3 : (Jvm.Cond.code ({ cls := "java/lang/Object", name := "<init>", desc := "()V" } : Jvm.MethodName) object_method_1_code (1 : Nat) (Option.none : Option Jvm.ClassFile.FieldType)).before args0 about1 = true := code_word (m := ⟨0, 0⟩) (meth := k0m0) (c := k0c0) (by decide +kernel) rfl rfl rfl (by decide +kernel)
set_option maxRecDepth 65536 in
theorem w_c4 : (Jvm.Cond.code ({ cls := "java/lang/StringUTF16", name := "compress", desc := "([CII)[B" } : Jvm.MethodName) jdk_52_method_16_code (6 : Nat) (Option.some (Jvm.ClassFile.FieldType.array Jvm.ClassFile.FieldType.byte))).before args0 about1 = true := code_word (m := ⟨8, 2⟩) (meth := k8m2) (c := k8c2) (by decide +kernel) rfl rfl rfl (by decide +kernel)
set_option maxRecDepth 65536 in
theorem w_c5 : (Jvm.Cond.code ({ cls := "java/lang/StringUTF16", name := "compress", desc := "([CI[BII)I" } : Jvm.MethodName) jdk_52_method_21_code (7 : Nat) (Option.some Jvm.ClassFile.FieldType.int)).before args0 about1 = true := code_word (m := ⟨8, 3⟩) (meth := k8m3) (c := k8c3) (by decide +kernel) rfl rfl rfl (by decide +kernel)
set_option maxRecDepth 65536 in
theorem w_c6 : (Jvm.Cond.code ({ cls := "java/lang/StringUTF16", name := "coderFromArrayLen", desc := "([BI)B" } : Jvm.MethodName) jdk_52_method_15_code (2 : Nat) (Option.some Jvm.ClassFile.FieldType.byte)).before args0 about1 = true := code_word (m := ⟨8, 1⟩) (meth := k8m1) (c := k8c1) (by decide +kernel) rfl rfl rfl (by decide +kernel)
set_option maxRecDepth 65536 in
theorem w_c7 : (Jvm.Cond.code ({ cls := "com/example/sitesd/sitesd/model/UserToStringPinLaw", name := "two", desc := "(I)Ljava/lang/String;" } : Jvm.MethodName) method_2_code (2 : Nat) (Option.some (Jvm.ClassFile.FieldType.object "java/lang/String"))).before args0 about1 = true := code_word (m := ⟨1, 1⟩) (meth := k1m1) (c := k1c1) (by decide +kernel) rfl rfl rfl (by decide +kernel)
set_option maxRecDepth 65536 in
theorem w_c8 : (Jvm.Cond.code ({ cls := "com/example/sitesd/sitesd/model/User", name := "<init>", desc := "(Ljava/lang/String;Ljava/lang/String;Ljava/lang/String;Ljava/lang/String;)V" } : Jvm.MethodName) prog_19_method_1_code (5 : Nat) (Option.none : Option Jvm.ClassFile.FieldType)).before args0 about1 = true := code_word (m := ⟨10, 0⟩) (meth := k10m0) (c := k10c0) (by decide +kernel) rfl rfl rfl (by decide +kernel)
set_option maxRecDepth 65536 in
theorem w_c9 : (Jvm.Cond.code ({ cls := "java/lang/Record", name := "<init>", desc := "()V" } : Jvm.MethodName) jdk_30_method_1_code (1 : Nat) (Option.none : Option Jvm.ClassFile.FieldType)).before args0 about1 = true := code_word (m := ⟨9, 0⟩) (meth := k9m0) (c := k9c0) (by decide +kernel) rfl rfl rfl (by decide +kernel)
set_option maxRecDepth 65536 in
theorem w_c10 : (Jvm.Cond.code ({ cls := "java/util/Objects", name := "requireNonNull", desc := "(Ljava/lang/Object;Ljava/lang/String;)Ljava/lang/Object;" } : Jvm.MethodName) jdk_31_method_11_code (2 : Nat) (Option.some (Jvm.ClassFile.FieldType.object "java/lang/Object"))).before args0 about1 = true := code_word (m := ⟨11, 1⟩) (meth := k11m1) (c := k11c1) (by decide +kernel) rfl rfl rfl (by decide +kernel)
set_option maxRecDepth 65536 in
theorem w_c11 : (Jvm.Cond.code ({ cls := "com/example/sitesd/sitesd/model/User", name := "toString", desc := "()Ljava/lang/String;" } : Jvm.MethodName) prog_19_method_2_code (1 : Nat) (Option.some (Jvm.ClassFile.FieldType.object "java/lang/String"))).before args0 about1 = true := code_word (m := ⟨10, 1⟩) (meth := k10m1) (c := k10c1) (by decide +kernel) rfl rfl rfl (by decide +kernel)
set_option maxRecDepth 65536 in
theorem w_c12 : (Jvm.Cond.code ({ cls := "java/lang/StringBuilder", name := "<init>", desc := "()V" } : Jvm.MethodName) jdk_67_method_1_code (1 : Nat) (Option.none : Option Jvm.ClassFile.FieldType)).before args0 about1 = true := code_word (m := ⟨14, 0⟩) (meth := k14m0) (c := k14c0) (by decide +kernel) rfl rfl rfl (by decide +kernel)
set_option maxRecDepth 65536 in
theorem w_c13 : (Jvm.Cond.code ({ cls := "java/lang/AbstractStringBuilder", name := "<init>", desc := "(I)V" } : Jvm.MethodName) jdk_68_method_2_code (2 : Nat) (Option.none : Option Jvm.ClassFile.FieldType)).before args0 about1 = true := code_word (m := ⟨13, 1⟩) (meth := k13m1) (c := k13c1) (by decide +kernel) rfl rfl rfl (by decide +kernel)
set_option maxRecDepth 65536 in
theorem w_c14 : (Jvm.Cond.code ({ cls := "java/lang/StringBuilder", name := "append", desc := "(Ljava/lang/String;)Ljava/lang/StringBuilder;" } : Jvm.MethodName) jdk_67_method_7_code (2 : Nat) (Option.some (Jvm.ClassFile.FieldType.object "java/lang/StringBuilder"))).before args0 about1 = true := code_word (m := ⟨14, 1⟩) (meth := k14m1) (c := k14c1) (by decide +kernel) rfl rfl rfl (by decide +kernel)
set_option maxRecDepth 65536 in
theorem w_c15 : (Jvm.Cond.code ({ cls := "java/lang/AbstractStringBuilder", name := "append", desc := "(Ljava/lang/String;)Ljava/lang/AbstractStringBuilder;" } : Jvm.MethodName) jdk_68_method_22_code (3 : Nat) (Option.some (Jvm.ClassFile.FieldType.object "java/lang/AbstractStringBuilder"))).before args0 about1 = true := code_word (m := ⟨13, 5⟩) (meth := k13m5) (c := k13c5) (by decide +kernel) rfl rfl rfl (by decide +kernel)
set_option maxRecDepth 65536 in
theorem w_c16 : (Jvm.Cond.code ({ cls := "java/lang/String", name := "length", desc := "()I" } : Jvm.MethodName) jdk_42_method_54_code (1 : Nat) (Option.some Jvm.ClassFile.FieldType.int)).before args0 about1 = true := code_word (m := ⟨7, 3⟩) (meth := k7m3) (c := k7c3) (by decide +kernel) rfl rfl rfl (by decide +kernel)
set_option maxRecDepth 65536 in
theorem w_c17 : (Jvm.Cond.code ({ cls := "java/lang/String", name := "coder", desc := "()B" } : Jvm.MethodName) jdk_42_method_152_code (1 : Nat) (Option.some Jvm.ClassFile.FieldType.byte)).before args0 about1 = true := code_word (m := ⟨7, 8⟩) (meth := k7m8) (c := k7c8) (by decide +kernel) rfl rfl rfl (by decide +kernel)
set_option maxRecDepth 65536 in
theorem w_c18 : (Jvm.Cond.code ({ cls := "java/lang/AbstractStringBuilder", name := "ensureCapacityInternal", desc := "(I)V" } : Jvm.MethodName) jdk_68_method_9_code (3 : Nat) (Option.none : Option Jvm.ClassFile.FieldType)).before args0 about1 = true := code_word (m := ⟨13, 3⟩) (meth := k13m3) (c := k13c3) (by decide +kernel) rfl rfl rfl (by decide +kernel)
set_option maxRecDepth 65536 in
theorem w_c19 : (Jvm.Cond.code ({ cls := "java/lang/AbstractStringBuilder", name := "putStringAt", desc := "(ILjava/lang/String;)V" } : Jvm.MethodName) jdk_68_method_73_code (3 : Nat) (Option.none : Option Jvm.ClassFile.FieldType)).before args0 about1 = true := code_word (m := ⟨13, 9⟩) (meth := k13m9) (c := k13c9) (by decide +kernel) rfl rfl rfl (by decide +kernel)
set_option maxRecDepth 65536 in
theorem w_c20 : (Jvm.Cond.code ({ cls := "java/lang/AbstractStringBuilder", name := "inflateIfNeededFor", desc := "(Ljava/lang/String;)V" } : Jvm.MethodName) jdk_68_method_71_code (2 : Nat) (Option.none : Option Jvm.ClassFile.FieldType)).before args0 about1 = true := code_word (m := ⟨13, 8⟩) (meth := k13m8) (c := k13c8) (by decide +kernel) rfl rfl rfl (by decide +kernel)
set_option maxRecDepth 65536 in
theorem w_c21 : (Jvm.Cond.code ({ cls := "java/lang/String", name := "getBytes", desc := "([BIB)V" } : Jvm.MethodName) jdk_42_method_147_code (4 : Nat) (Option.none : Option Jvm.ClassFile.FieldType)).before args0 about1 = true := code_word (m := ⟨7, 5⟩) (meth := k7m5) (c := k7c5) (by decide +kernel) rfl rfl rfl (by decide +kernel)
set_option maxRecDepth 65536 in
theorem w_c22 : (Jvm.Cond.code ({ cls := "java/lang/AbstractStringBuilder", name := "newCapacity", desc := "(I)I" } : Jvm.MethodName) jdk_68_method_10_code (6 : Nat) (Option.some Jvm.ClassFile.FieldType.int)).before args0 about1 = true := code_word (m := ⟨13, 4⟩) (meth := k13m4) (c := k13c4) (by decide +kernel) rfl rfl rfl (by decide +kernel)
set_option maxRecDepth 65536 in
theorem w_c23 : (Jvm.Cond.code ({ cls := "jdk/internal/util/ArraysSupport", name := "newLength", desc := "(III)I" } : Jvm.MethodName) jdk_48_method_27_code (4 : Nat) (Option.some Jvm.ClassFile.FieldType.int)).before args0 about1 = true := code_word (m := ⟨16, 1⟩) (meth := k16m1) (c := k16c1) (by decide +kernel) rfl rfl rfl (by decide +kernel)
set_option maxRecDepth 65536 in
theorem w_c24 : (Jvm.Cond.code ({ cls := "java/lang/Math", name := "max", desc := "(II)I" } : Jvm.MethodName) jdk_29_method_65_code (2 : Nat) (Option.some Jvm.ClassFile.FieldType.int)).before args0 about1 = true := code_word (m := ⟨17, 1⟩) (meth := k17m1) (c := k17c1) (by decide +kernel) rfl rfl rfl (by decide +kernel)
set_option maxRecDepth 65536 in
theorem w_c25 : (Jvm.Cond.code ({ cls := "java/util/Arrays", name := "copyOf", desc := "([BI)[B" } : Jvm.MethodName) jdk_65_method_121_code (3 : Nat) (Option.some (Jvm.ClassFile.FieldType.array Jvm.ClassFile.FieldType.byte))).before args0 about1 = true := code_word (m := ⟨18, 1⟩) (meth := k18m1) (c := k18c1) (by decide +kernel) rfl rfl rfl (by decide +kernel)
set_option maxRecDepth 65536 in
theorem w_c26 : (Jvm.Cond.code ({ cls := "java/lang/Math", name := "min", desc := "(II)I" } : Jvm.MethodName) jdk_29_method_69_code (2 : Nat) (Option.some Jvm.ClassFile.FieldType.int)).before args0 about1 = true := code_word (m := ⟨17, 2⟩) (meth := k17m2) (c := k17c2) (by decide +kernel) rfl rfl rfl (by decide +kernel)
set_option maxRecDepth 65536 in
theorem w_c27 : (Jvm.Cond.code ({ cls := "java/lang/StringBuilder", name := "toString", desc := "()Ljava/lang/String;" } : Jvm.MethodName) jdk_67_method_42_code (1 : Nat) (Option.some (Jvm.ClassFile.FieldType.object "java/lang/String"))).before args0 about1 = true := code_word (m := ⟨14, 2⟩) (meth := k14m2) (c := k14c2) (by decide +kernel) rfl rfl rfl (by decide +kernel)
set_option maxRecDepth 65536 in
theorem w_c28 : (Jvm.Cond.code ({ cls := "java/lang/String", name := "<init>", desc := "(Ljava/lang/StringBuilder;)V" } : Jvm.MethodName) jdk_42_method_53_code (2 : Nat) (Option.none : Option Jvm.ClassFile.FieldType)).before args0 about1 = true := code_word (m := ⟨7, 2⟩) (meth := k7m2) (c := k7c2) (by decide +kernel) rfl rfl rfl (by decide +kernel)
set_option maxRecDepth 65536 in
theorem w_c29 : (Jvm.Cond.code ({ cls := "java/lang/String", name := "<init>", desc := "(Ljava/lang/AbstractStringBuilder;Ljava/lang/Void;)V" } : Jvm.MethodName) jdk_42_method_150_code (5 : Nat) (Option.none : Option Jvm.ClassFile.FieldType)).before args0 about1 = true := code_word (m := ⟨7, 7⟩) (meth := k7m7) (c := k7c7) (by decide +kernel) rfl rfl rfl (by decide +kernel)
set_option maxRecDepth 65536 in
theorem w_c30 : (Jvm.Cond.code ({ cls := "java/lang/AbstractStringBuilder", name := "getValue", desc := "()[B" } : Jvm.MethodName) jdk_68_method_64_code (1 : Nat) (Option.some (Jvm.ClassFile.FieldType.array Jvm.ClassFile.FieldType.byte))).before args0 about1 = true := code_word (m := ⟨13, 6⟩) (meth := k13m6) (c := k13c6) (by decide +kernel) rfl rfl rfl (by decide +kernel)
set_option maxRecDepth 65536 in
theorem w_c31 : (Jvm.Cond.code ({ cls := "java/lang/StringBuilder", name := "length", desc := "()I" } : Jvm.MethodName) jdk_67_method_93_code (1 : Nat) (Option.some Jvm.ClassFile.FieldType.int)).before args0 about1 = true := code_word (m := ⟨14, 3⟩) (meth := k14m3) (c := k14c3) (by decide +kernel) rfl rfl rfl (by decide +kernel)
set_option maxRecDepth 65536 in
theorem w_c32 : (Jvm.Cond.code ({ cls := "java/lang/AbstractStringBuilder", name := "length", desc := "()I" } : Jvm.MethodName) jdk_68_method_6_code (1 : Nat) (Option.some Jvm.ClassFile.FieldType.int)).before args0 about1 = true := code_word (m := ⟨13, 2⟩) (meth := k13m2) (c := k13c2) (by decide +kernel) rfl rfl rfl (by decide +kernel)
set_option maxRecDepth 65536 in
theorem w_c33 : (Jvm.Cond.code ({ cls := "java/lang/AbstractStringBuilder", name := "isLatin1", desc := "()Z" } : Jvm.MethodName) jdk_68_method_68_code (1 : Nat) (Option.some Jvm.ClassFile.FieldType.boolean)).before args0 about1 = true := code_word (m := ⟨13, 7⟩) (meth := k13m7) (c := k13c7) (by decide +kernel) rfl rfl rfl (by decide +kernel)
set_option maxRecDepth 65536 in
theorem w_c34 : (Jvm.Cond.code ({ cls := "java/util/Arrays", name := "copyOfRange", desc := "([BII)[B" } : Jvm.MethodName) jdk_65_method_132_code (3 : Nat) (Option.some (Jvm.ClassFile.FieldType.array Jvm.ClassFile.FieldType.byte))).before args0 about1 = true := code_word (m := ⟨18, 3⟩) (meth := k18m3) (c := k18c3) (by decide +kernel) rfl rfl rfl (by decide +kernel)
set_option maxRecDepth 65536 in
theorem w_c35 : (Jvm.Cond.code ({ cls := "java/util/Arrays", name := "copyOfRangeByte", desc := "([BII)[B" } : Jvm.MethodName) jdk_65_method_133_code (5 : Nat) (Option.some (Jvm.ClassFile.FieldType.array Jvm.ClassFile.FieldType.byte))).before args0 about1 = true := code_word (m := ⟨18, 4⟩) (meth := k18m4) (c := k18c4) (by decide +kernel) rfl rfl rfl (by decide +kernel)
set_option maxRecDepth 65536 in
theorem w_c36 : (Jvm.Cond.code ({ cls := "java/util/Arrays", name := "checkLength", desc := "(II)V" } : Jvm.MethodName) jdk_65_method_131_code (2 : Nat) (Option.none : Option Jvm.ClassFile.FieldType)).before args0 about1 = true := code_word (m := ⟨18, 2⟩) (meth := k18m2) (c := k18c2) (by decide +kernel) rfl rfl rfl (by decide +kernel)
set_option maxRecDepth 65536 in
theorem w_c37 : (Jvm.Cond.code ({ cls := "java/lang/String", name := "equals", desc := "(Ljava/lang/Object;)Z" } : Jvm.MethodName) jdk_42_method_66_code (3 : Nat) (Option.some Jvm.ClassFile.FieldType.boolean)).before args0 about1 = true := code_word (m := ⟨7, 4⟩) (meth := k7m4) (c := k7c4) (by decide +kernel) rfl rfl rfl (by decide +kernel)
set_option maxRecDepth 65536 in
theorem w_c38 : (Jvm.Cond.code ({ cls := "java/lang/StringLatin1", name := "equals", desc := "([B[B)Z" } : Jvm.MethodName) jdk_43_method_13_code (3 : Nat) (Option.some Jvm.ClassFile.FieldType.boolean)).before args0 about1 = true := code_word (m := ⟨19, 1⟩) (meth := k19m1) (c := k19c1) (by decide +kernel) rfl rfl rfl (by decide +kernel)
def codes1 : List Jvm.Cond := [Jvm.Cond.code x code maxLocals ret, Jvm.Cond.code ({ cls := "java/lang/String", name := "<init>", desc := "([C)V" } : Jvm.MethodName) jdk_42_method_3_code (2 : Nat) (Option.none : Option Jvm.ClassFile.FieldType), Jvm.Cond.code ({ cls := "java/lang/String", name := "<init>", desc := "([CIILjava/lang/Void;)V" } : Jvm.MethodName) jdk_42_method_149_code (6 : Nat) (Option.none : Option Jvm.ClassFile.FieldType), Jvm.Cond.code ({ cls := "java/lang/Object", name := "<init>", desc := "()V" } : Jvm.MethodName) object_method_1_code (1 : Nat) (Option.none : Option Jvm.ClassFile.FieldType), Jvm.Cond.code ({ cls := "java/lang/StringUTF16", name := "compress", desc := "([CII)[B" } : Jvm.MethodName) jdk_52_method_16_code (6 : Nat) (Option.some (Jvm.ClassFile.FieldType.array Jvm.ClassFile.FieldType.byte)), Jvm.Cond.code ({ cls := "java/lang/StringUTF16", name := "compress", desc := "([CI[BII)I" } : Jvm.MethodName) jdk_52_method_21_code (7 : Nat) (Option.some Jvm.ClassFile.FieldType.int), Jvm.Cond.code ({ cls := "java/lang/StringUTF16", name := "coderFromArrayLen", desc := "([BI)B" } : Jvm.MethodName) jdk_52_method_15_code (2 : Nat) (Option.some Jvm.ClassFile.FieldType.byte), Jvm.Cond.code ({ cls := "com/example/sitesd/sitesd/model/UserToStringPinLaw", name := "two", desc := "(I)Ljava/lang/String;" } : Jvm.MethodName) method_2_code (2 : Nat) (Option.some (Jvm.ClassFile.FieldType.object "java/lang/String")), Jvm.Cond.code ({ cls := "com/example/sitesd/sitesd/model/User", name := "<init>", desc := "(Ljava/lang/String;Ljava/lang/String;Ljava/lang/String;Ljava/lang/String;)V" } : Jvm.MethodName) prog_19_method_1_code (5 : Nat) (Option.none : Option Jvm.ClassFile.FieldType), Jvm.Cond.code ({ cls := "java/lang/Record", name := "<init>", desc := "()V" } : Jvm.MethodName) jdk_30_method_1_code (1 : Nat) (Option.none : Option Jvm.ClassFile.FieldType), Jvm.Cond.code ({ cls := "java/util/Objects", name := "requireNonNull", desc := "(Ljava/lang/Object;Ljava/lang/String;)Ljava/lang/Object;" } : Jvm.MethodName) jdk_31_method_11_code (2 : Nat) (Option.some (Jvm.ClassFile.FieldType.object "java/lang/Object")), Jvm.Cond.code ({ cls := "com/example/sitesd/sitesd/model/User", name := "toString", desc := "()Ljava/lang/String;" } : Jvm.MethodName) prog_19_method_2_code (1 : Nat) (Option.some (Jvm.ClassFile.FieldType.object "java/lang/String")), Jvm.Cond.code ({ cls := "java/lang/StringBuilder", name := "<init>", desc := "()V" } : Jvm.MethodName) jdk_67_method_1_code (1 : Nat) (Option.none : Option Jvm.ClassFile.FieldType), Jvm.Cond.code ({ cls := "java/lang/AbstractStringBuilder", name := "<init>", desc := "(I)V" } : Jvm.MethodName) jdk_68_method_2_code (2 : Nat) (Option.none : Option Jvm.ClassFile.FieldType), Jvm.Cond.code ({ cls := "java/lang/StringBuilder", name := "append", desc := "(Ljava/lang/String;)Ljava/lang/StringBuilder;" } : Jvm.MethodName) jdk_67_method_7_code (2 : Nat) (Option.some (Jvm.ClassFile.FieldType.object "java/lang/StringBuilder")), Jvm.Cond.code ({ cls := "java/lang/AbstractStringBuilder", name := "append", desc := "(Ljava/lang/String;)Ljava/lang/AbstractStringBuilder;" } : Jvm.MethodName) jdk_68_method_22_code (3 : Nat) (Option.some (Jvm.ClassFile.FieldType.object "java/lang/AbstractStringBuilder")), Jvm.Cond.code ({ cls := "java/lang/String", name := "length", desc := "()I" } : Jvm.MethodName) jdk_42_method_54_code (1 : Nat) (Option.some Jvm.ClassFile.FieldType.int), Jvm.Cond.code ({ cls := "java/lang/String", name := "coder", desc := "()B" } : Jvm.MethodName) jdk_42_method_152_code (1 : Nat) (Option.some Jvm.ClassFile.FieldType.byte), Jvm.Cond.code ({ cls := "java/lang/AbstractStringBuilder", name := "ensureCapacityInternal", desc := "(I)V" } : Jvm.MethodName) jdk_68_method_9_code (3 : Nat) (Option.none : Option Jvm.ClassFile.FieldType), Jvm.Cond.code ({ cls := "java/lang/AbstractStringBuilder", name := "putStringAt", desc := "(ILjava/lang/String;)V" } : Jvm.MethodName) jdk_68_method_73_code (3 : Nat) (Option.none : Option Jvm.ClassFile.FieldType), Jvm.Cond.code ({ cls := "java/lang/AbstractStringBuilder", name := "inflateIfNeededFor", desc := "(Ljava/lang/String;)V" } : Jvm.MethodName) jdk_68_method_71_code (2 : Nat) (Option.none : Option Jvm.ClassFile.FieldType), Jvm.Cond.code ({ cls := "java/lang/String", name := "getBytes", desc := "([BIB)V" } : Jvm.MethodName) jdk_42_method_147_code (4 : Nat) (Option.none : Option Jvm.ClassFile.FieldType), Jvm.Cond.code ({ cls := "java/lang/AbstractStringBuilder", name := "newCapacity", desc := "(I)I" } : Jvm.MethodName) jdk_68_method_10_code (6 : Nat) (Option.some Jvm.ClassFile.FieldType.int), Jvm.Cond.code ({ cls := "jdk/internal/util/ArraysSupport", name := "newLength", desc := "(III)I" } : Jvm.MethodName) jdk_48_method_27_code (4 : Nat) (Option.some Jvm.ClassFile.FieldType.int), Jvm.Cond.code ({ cls := "java/lang/Math", name := "max", desc := "(II)I" } : Jvm.MethodName) jdk_29_method_65_code (2 : Nat) (Option.some Jvm.ClassFile.FieldType.int), Jvm.Cond.code ({ cls := "java/util/Arrays", name := "copyOf", desc := "([BI)[B" } : Jvm.MethodName) jdk_65_method_121_code (3 : Nat) (Option.some (Jvm.ClassFile.FieldType.array Jvm.ClassFile.FieldType.byte)), Jvm.Cond.code ({ cls := "java/lang/Math", name := "min", desc := "(II)I" } : Jvm.MethodName) jdk_29_method_69_code (2 : Nat) (Option.some Jvm.ClassFile.FieldType.int), Jvm.Cond.code ({ cls := "java/lang/StringBuilder", name := "toString", desc := "()Ljava/lang/String;" } : Jvm.MethodName) jdk_67_method_42_code (1 : Nat) (Option.some (Jvm.ClassFile.FieldType.object "java/lang/String")), Jvm.Cond.code ({ cls := "java/lang/String", name := "<init>", desc := "(Ljava/lang/StringBuilder;)V" } : Jvm.MethodName) jdk_42_method_53_code (2 : Nat) (Option.none : Option Jvm.ClassFile.FieldType), Jvm.Cond.code ({ cls := "java/lang/String", name := "<init>", desc := "(Ljava/lang/AbstractStringBuilder;Ljava/lang/Void;)V" } : Jvm.MethodName) jdk_42_method_150_code (5 : Nat) (Option.none : Option Jvm.ClassFile.FieldType), Jvm.Cond.code ({ cls := "java/lang/AbstractStringBuilder", name := "getValue", desc := "()[B" } : Jvm.MethodName) jdk_68_method_64_code (1 : Nat) (Option.some (Jvm.ClassFile.FieldType.array Jvm.ClassFile.FieldType.byte)), Jvm.Cond.code ({ cls := "java/lang/StringBuilder", name := "length", desc := "()I" } : Jvm.MethodName) jdk_67_method_93_code (1 : Nat) (Option.some Jvm.ClassFile.FieldType.int), Jvm.Cond.code ({ cls := "java/lang/AbstractStringBuilder", name := "length", desc := "()I" } : Jvm.MethodName) jdk_68_method_6_code (1 : Nat) (Option.some Jvm.ClassFile.FieldType.int), Jvm.Cond.code ({ cls := "java/lang/AbstractStringBuilder", name := "isLatin1", desc := "()Z" } : Jvm.MethodName) jdk_68_method_68_code (1 : Nat) (Option.some Jvm.ClassFile.FieldType.boolean), Jvm.Cond.code ({ cls := "java/util/Arrays", name := "copyOfRange", desc := "([BII)[B" } : Jvm.MethodName) jdk_65_method_132_code (3 : Nat) (Option.some (Jvm.ClassFile.FieldType.array Jvm.ClassFile.FieldType.byte)), Jvm.Cond.code ({ cls := "java/util/Arrays", name := "copyOfRangeByte", desc := "([BII)[B" } : Jvm.MethodName) jdk_65_method_133_code (5 : Nat) (Option.some (Jvm.ClassFile.FieldType.array Jvm.ClassFile.FieldType.byte)), Jvm.Cond.code ({ cls := "java/util/Arrays", name := "checkLength", desc := "(II)V" } : Jvm.MethodName) jdk_65_method_131_code (2 : Nat) (Option.none : Option Jvm.ClassFile.FieldType), Jvm.Cond.code ({ cls := "java/lang/String", name := "equals", desc := "(Ljava/lang/Object;)Z" } : Jvm.MethodName) jdk_42_method_66_code (3 : Nat) (Option.some Jvm.ClassFile.FieldType.boolean), Jvm.Cond.code ({ cls := "java/lang/StringLatin1", name := "equals", desc := "([B[B)Z" } : Jvm.MethodName) jdk_43_method_13_code (3 : Nat) (Option.some Jvm.ClassFile.FieldType.boolean)]
set_option maxRecDepth 65536 in
theorem codes_eq : words1.filter isCode = codes1 := rfl
theorem w_codes : ∀ c ∈ words1.filter isCode, c.before args0 about1 = true := by
  rw [codes_eq]
  intro c hc
  simp only [codes1, List.mem_cons, List.not_mem_nil, or_false] at hc
  rcases hc with rfl | rfl | rfl | rfl | rfl | rfl | rfl | rfl | rfl | rfl | rfl | rfl | rfl | rfl | rfl | rfl | rfl | rfl | rfl | rfl | rfl | rfl | rfl | rfl | rfl | rfl | rfl | rfl | rfl | rfl | rfl | rfl | rfl | rfl | rfl | rfl | rfl | rfl | rfl
  · exact w_c0
  · exact w_c1
  · exact w_c2
  · exact w_c3
  · exact w_c4
  · exact w_c5
  · exact w_c6
  · exact w_c7
  · exact w_c8
  · exact w_c9
  · exact w_c10
  · exact w_c11
  · exact w_c12
  · exact w_c13
  · exact w_c14
  · exact w_c15
  · exact w_c16
  · exact w_c17
  · exact w_c18
  · exact w_c19
  · exact w_c20
  · exact w_c21
  · exact w_c22
  · exact w_c23
  · exact w_c24
  · exact w_c25
  · exact w_c26
  · exact w_c27
  · exact w_c28
  · exact w_c29
  · exact w_c30
  · exact w_c31
  · exact w_c32
  · exact w_c33
  · exact w_c34
  · exact w_c35
  · exact w_c36
  · exact w_c37
  · exact w_c38
set_option maxRecDepth 65536 in
theorem w_t1 : (words1.take 24).all (fun c => isCode c || c.before args0 about1) = true := by decide +kernel
set_option maxRecDepth 65536 in
theorem w_t2 : ((words1.drop 24).take 24).all (fun c => isCode c || c.before args0 about1) = true := by decide +kernel
set_option maxRecDepth 65536 in
theorem w_t3 : (((words1.drop 24).drop 24).take 24).all (fun c => isCode c || c.before args0 about1) = true := by decide +kernel
set_option maxRecDepth 65536 in
theorem w_t4 : ((((words1.drop 24).drop 24).drop 24).take 24).all (fun c => isCode c || c.before args0 about1) = true := by decide +kernel
set_option maxRecDepth 65536 in
theorem w_t5 : (((((words1.drop 24).drop 24).drop 24).drop 24).take 24).all (fun c => isCode c || c.before args0 about1) = true := by decide +kernel
set_option maxRecDepth 65536 in
theorem w_t6 : ((((((words1.drop 24).drop 24).drop 24).drop 24).drop 24).take 24).all (fun c => isCode c || c.before args0 about1) = true := by decide +kernel
set_option maxRecDepth 65536 in
theorem w_t7 : (((((((words1.drop 24).drop 24).drop 24).drop 24).drop 24).drop 24).take 24).all (fun c => isCode c || c.before args0 about1) = true := by decide +kernel
set_option maxRecDepth 65536 in
theorem w_t8 : ((((((((words1.drop 24).drop 24).drop 24).drop 24).drop 24).drop 24).drop 24).take 24).all (fun c => isCode c || c.before args0 about1) = true := by decide +kernel
set_option maxRecDepth 65536 in
theorem w_t9 : ((((((((words1.drop 24).drop 24).drop 24).drop 24).drop 24).drop 24).drop 24).drop 24).all (fun c => isCode c || c.before args0 about1) = true := by decide +kernel
theorem w_tables : (allAtoms (Jvm.Cond.code x code maxLocals ret :: tables_1)).before args0 about1 = true := by
  rw [allAtoms_all]
  show words1.all (fun c => c.before args0 about1) = true
  refine all_split ?_ w_codes
  rw [← List.take_append_drop 24 words1, List.all_append, w_t1, ← List.take_append_drop 24 (words1.drop 24), List.all_append, w_t2, ← List.take_append_drop 24 ((words1.drop 24).drop 24), List.all_append, w_t3, ← List.take_append_drop 24 (((words1.drop 24).drop 24).drop 24), List.all_append, w_t4, ← List.take_append_drop 24 ((((words1.drop 24).drop 24).drop 24).drop 24), List.all_append, w_t5, ← List.take_append_drop 24 (((((words1.drop 24).drop 24).drop 24).drop 24).drop 24), List.all_append, w_t6, ← List.take_append_drop 24 ((((((words1.drop 24).drop 24).drop 24).drop 24).drop 24).drop 24), List.all_append, w_t7, ← List.take_append_drop 24 (((((((words1.drop 24).drop 24).drop 24).drop 24).drop 24).drop 24).drop 24), List.all_append, w_t8, w_t9]
  rfl
set_option maxRecDepth 65536 in
theorem w_rest : rest_1_c.before args0 about1 = true := by decide +kernel
set_option maxRecDepth 65536 in
theorem w_case : (Jvm.Cond.and given_1 narrow_1).before args0 about1 = true := by decide +kernel
set_option maxRecDepth 65536 in
theorem w_consts : constsHeld consts_1 about1 := Jvm.Lit.constsHeldB_iff.mp (by decide +kernel)
theorem w_applies : (headSpec (Jvm.Cond.code x code maxLocals ret :: tables_1) room_1).applies x e0.platform about1 = true :=
  (Spec.applies_iff w_frames).mpr ⟨w_running, w_runnable, w_alone, w_named, w_hears, w_ripe, w_room, w_tables⟩
theorem atStart : AtStart classFile x code maxLocals ret World_1 tables_1 room_1 Calls_1 rest_1 Pre_1 launch0 p0 e0 about1 theMethod args0 below0 :=
  ⟨lists_1, trivial, launch0.admits_env _ _ _, launch0.least_env, fairChoices_fair.cas, fairChoices_fair.clock, w_frames, w_args, w_heap, w_applies, ⟨w_consts, trivial⟩, w_rest, w_case⟩
end start1
theorem witness_1 : WitnessClaimed_1 := ⟨start1.p0, start1.e0, start1.about1, start1.theMethod, start1.args0, start1.below0, start1.atStart⟩
end Jvm.Pilot.@@N@@
