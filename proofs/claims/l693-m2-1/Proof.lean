import JvmDerived
import JvmDerived.Pilot.@@N@@Statement
import JvmDerived.Pilot.@@N@@Code
set_option linter.unusedVariables false
set_option linter.unusedSimpArgs false
namespace Jvm.RoadKit
theorem Ext.refl (h : Heap) : Ext h h := ⟨Nat.le_refl _, fun _ _ q => q⟩
theorem Ext.trans {h h1 h2 : Heap} (A : Ext h h1) (B : Ext h1 h2) : Ext h h2 := ⟨Nat.le_trans A.1 B.1, fun a c q => B.2 a c (A.2 a c q)⟩
end Jvm.RoadKit
namespace Jvm.OwnKit
open Sem ClassFile Op Lib Jvm.Stand Jvm.Free Jvm.LawKit Jvm.RoadKit

/-- where the walk stands: the tables so far, nothing old written, the String constants held, the objects under construction -/
def St (p : Program) (l : Launch) (e : Env) (R : Room) (s : State) (m : MethodId) (args : Array Value) (below : List Frame) (meth : Method) (c : Code)
    (own : String) (bytes : ByteArray) (maxL : Nat) (ret : Option FieldType) (nm : String) (Z : State) (EL : List (String × Nat)) (nw : Bool) (us : List Addr) (bs : List (String × Nat × Addr))
    (T : State) (h : Heap) (cells slots : Nat) : Prop :=
  (p.tables.exec = Jvm.exec ∧ c.code = bytes ∧ c.maxLocals = maxL ∧ meth.sig.returnType = ret ∧ meth.name = nm ∧ meth.locks = false ∧ ∃ a0, EW Z a0 EL) ∧
  ∃ (vm0 : Vm) (locs : List Loc), Stand p l e R (s.setVm vm0) m args below meth c T locs cells slots ∧ Fr Z.heap.size locs ∧ T.heap = h ∧ s.Since vm0 h.size ∧
    Z.Warmed39 vm0 ∧ vm0.findClass own = some m.cls ∧ Ext Z.heap h ∧ CHr Z EL s.vm s.heap vm0 h ∧
    (∀ x ∈ us, Z.heap.size ≤ x ∧ x < h.size ∧ Safe Z EL vm0 h x) ∧ (nw = true → s.WarmedH vm0) ∧ ∀ q ∈ bs, Lit (s.setVm vm0) q.1 q.2.1 q.2.2

/-- from here the method returns, with Q of what it returns and of the heap it leaves -/
def Goes (p : Program) (e : Env) (below : List Frame) (s Z : State) (EL : List (String × Nat)) (nw : Bool) (Q : Option Value → Heap → Prop) (kk nn : Nat) (S : State) : Prop :=
  ∃ U o, Steps p.tables e below S U ∧ U.status = .running ∧ Ended U below o ∧ ∃ v L, o = .returned v ∧ Q v U.heap ∧ Fr Z.heap.size L ∧ Ext Z.heap U.heap ∧
    CHr Z EL s.vm s.heap U.vm U.heap ∧ ReturnedEndW s o U L kk nn ∧ (nw = true → s.WarmedH U.vm)

/-- the contract of a method for the arguments as' at the heap h -/
def Ctr (l : Launch) (Z : State) (EL : List (String × Nat)) (nw : Bool) (y : MethodName) (bytes : ByteArray) (maxL : Nat) (ret : Option FieldType) (rm : Room) (as' : Array Value) (h : Heap) (us : List Addr)
    (Q : Option Value → Heap → Prop) : Prop :=
  ∀ ws : List Jvm.Cond, MetFree l y (head1 (Jvm.Cond.code y bytes maxL ret :: ws) rm)
    (fun a U => a = as' ∧ Z.Warmed39 U.vm ∧ U.heap = h ∧ Ext Z.heap h ∧ CHv Z EL U.vm h ∧ ∀ x ∈ us, Z.heap.size ≤ x ∧ x < h.size ∧ Safe Z EL U.vm h x)
    (fun _ _ _ _ _ => True)
    (fun _ U o U' => ∃ v L, o = .returned v ∧ Q v U'.heap ∧ Fr Z.heap.size L ∧ Ext Z.heap U'.heap ∧ CHr Z EL U.vm U.heap U'.vm U'.heap ∧ ReturnedEndW U o U' L rm.cells rm.slots ∧ (nw = true → U.WarmedH U'.vm))

def PureQ (h : Heap) (Qv : Value → Prop) : Option Value → Heap → Prop := fun v h' => h' = h ∧ ∃ w, v = some w ∧ Qv w
def ValQ (Qv : Value → Heap → Prop) : Option Value → Heap → Prop := fun v h' => ∃ w, v = some w ∧ Qv w h'
def VoidQ (Qn : Heap → Prop) : Option Value → Heap → Prop := fun v h' => v = none ∧ Qn h'
section Base
variable {p : Program} {l : Launch} {e : Env} {R : Room} {s : State} {m : MethodId} {args : Array Value} {below : List Frame} {meth : Method} {c : Code}
  {own : String} {bytes : ByteArray} {maxL : Nat} {ret : Option FieldType} {nm : String} {Z : State} {EL : List (String × Nat)} {nw : Bool} {us : List Addr} {bs : List (String × Nat × Addr)}
  {T : State} {h : Heap} {cells slots : Nat} {Q : Option Value → Heap → Prop} {kk nn : Nat} {a0 : Array Value}

theorem ext_keep {h h1 h2 : Heap} {ws : List Addr} (A : Ext h h1) (K : Keep h1 h2 ws) (q : ∀ x ∈ ws, h.size ≤ x) : Ext h h2 :=
  ⟨Nat.le_trans A.1 K.1, fun a c r => K.2.1 a c (A.2 a c r) fun z => absurd (Array.getElem?_eq_some_iff.mp r).1 (Nat.not_lt.mpr (q a z))⟩
theorem ext_wr {h h1 h2 : Heap} {a : Addr} {sl : Nat} {v : Value} (A : Ext h h1) (W : Wr h1 h2 a sl v) (q : h.size ≤ a) : Ext h h2 :=
  ext_keep A (Keep.of_wr W) (fun x hx => by cases List.mem_singleton.mp hx; exact q)
theorem nar_mask (x : Int32) : nar .char (x &&& 255) = x &&& 255 := i2c_mask x
theorem ref_nar {v : Value} {t : FieldType} (h : v.isRef = true) (ht : t.isReference = true) : narrow t v = v := by
  rcases ref_cases h with rfl | ⟨a, rfl⟩ <;> cases t <;> first | rfl | simp [FieldType.isReference] at ht
theorem ref_fit {v : Value} {t : FieldType} (h : v.isRef = true) (ht : t.isReference = true) : fits t v = true := by
  rcases ref_cases h with rfl | ⟨a, rfl⟩ <;> cases t <;> first | rfl | simp [FieldType.isReference] at ht
theorem Sta.keepN {h1 h2 : Heap} {C n d : String} {v : Value} {ws : List Addr} (F : Sta Z Z.heap C n d v) (E : Ext Z.heap h2) : Sta Z h2 C n d v := Sta.ext E F

theorem St.at (X : St p l e R s m args below meth c own bytes maxL ret nm Z EL nw us bs T h cells slots) : At T m c below := by obtain ⟨-, _, _, Y, -⟩ := X; exact Y.here
theorem St.std (X : St p l e R s m args below meth c own bytes maxL ret nm Z EL nw us bs T h cells slots) : ∃ vm0 locs, Stand p l e R (s.setVm vm0) m args below meth c T locs cells slots := by obtain ⟨-, vm0, locs, Y, -⟩ := X; exact ⟨vm0, locs, Y⟩
theorem St.hx (X : St p l e R s m args below meth c own bytes maxL ret nm Z EL nw us bs T h cells slots) : p.tables.exec = Jvm.exec := X.1.1
theorem St.by (X : St p l e R s m args below meth c own bytes maxL ret nm Z EL nw us bs T h cells slots) : c.code = bytes := X.1.2.1
theorem St.old (X : St p l e R s m args below meth c own bytes maxL ret nm Z EL nw us bs T h cells slots) : Ext Z.heap h := by obtain ⟨-, _, _, -, -, -, -, -, -, q, -⟩ := X; exact q
theorem St.new (X : St p l e R s m args below meth c own bytes maxL ret nm Z EL nw us bs T h cells slots) {x : Addr} (hx : x ∈ us) : Z.heap.size ≤ x ∧ x < h.size := by
  obtain ⟨-, _, _, -, -, -, -, -, -, -, -, q, -⟩ := X; exact ⟨(q x hx).1, (q x hx).2.1⟩
theorem St.mono (X : St p l e R s m args below meth c own bytes maxL ret nm Z EL nw us bs T h cells slots) {cells' slots' : Nat} (hc : cells ≤ cells') (hs : slots ≤ slots') : St p l e R s m args below meth c own bytes maxL ret nm Z EL nw us bs T h cells' slots' := by
  obtain ⟨cx, vm0, locs, Y, r⟩ := X
  exact ⟨cx, vm0, locs, Y.mono hc hs, r⟩
theorem St.sub (X : St p l e R s m args below meth c own bytes maxL ret nm Z EL nw us bs T h cells slots) {us' : List Addr} (q : ∀ x ∈ us', x ∈ us) : St p l e R s m args below meth c own bytes maxL ret nm Z EL nw us' bs T h cells slots := by
  obtain ⟨cx, vm0, locs, Y, r1, r2, r3, r4, r5, r6, r7, r8, r9⟩ := X
  exact ⟨cx, vm0, locs, Y, r1, r2, r3, r4, r5, r6, r7, fun x hx => r8 x (q x hx), r9⟩

theorem Goes.step {S S' : State} (f : ∀ t, Steps p.tables e below S' t → Steps p.tables e below S t) (K : Goes p e below s Z EL nw Q kk nn S') : Goes p e below s Z EL nw Q kk nn S := by
  obtain ⟨U, o, hs, r⟩ := K; exact ⟨U, o, f _ hs, r⟩
theorem Goes.imp {Q' : Option Value → Heap → Prop} {S : State} (f : ∀ v h, Q v h → Q' v h) (K : Goes p e below s Z EL nw Q kk nn S) : Goes p e below s Z EL nw Q' kk nn S := by
  obtain ⟨U, o, h1, h2, h3, v, L, h4, h5, r⟩ := K; exact ⟨U, o, h1, h2, h3, v, L, h4, f _ _ h5, r⟩

/-- entering a method -/
theorem Ctr.enter {y : MethodName} {rm : Room} {as' : Array Value} (h1 : y.cls = own) (h2 : y.name = nm) (hEL : EW Z a0 EL) (hn : plainFor y = true) (Ls : Array Slot) (ef : ∀ m, entryFrame m as' maxL = mkF m 0 Ls [])
    (body : ∀ (p : Program) (e : Env) (s : State) (m : MethodId) (below : List Frame) (meth : Method) (c : Code) (T : State),
      St p l e rm s m as' below meth c own bytes maxL ret nm Z EL nw us [] T h 0 0 → Goes p e below s Z EL nw Q rm.cells rm.slots (T.setTop (mkF m 0 Ls []))) :
    Ctr l Z EL nw y bytes maxL ret rm as' h us Q := by
  subst h1 h2
  intro ws
  refine MetFree.of_bodySF hn hisR ?_
  intro p e s m args below meth c s₁ Bd hml0 hP _
  obtain ⟨rfl, hZ, hh, hE, hC, hU⟩ := hP
  have hnm := (name_of_methodNamed Bd.named Bd.method).1
  have hown : s.vm.findClass y.cls = some m.cls := findClass_of_methodNamed Bd.named
  have e0 : s₁.heap = h := by rw [← hh, Bd.state]; rfl
  have X0 : Stand p l e rm (s.setVm s.vm) m args below meth c s₁ [] 0 0 := Stand.of_body Bd
  have X : St p l e rm s m args below meth c y.cls bytes maxL ret y.name Z EL nw us [] s₁ h 0 0 :=
    ⟨⟨Bd.exec, Bd.bytes, hml0, Bd.returns, hnm, Bd.notSynchronized, a0, hEL⟩, s.vm, [], X0, Fr.nil _, e0, (State.WarmedH.refl s).since _, hZ, hown, hE, by rw [hh]; exact CHr.refl hC, hU, fun _ => State.WarmedH.refl s, fun _ q => by cases q⟩
  obtain ⟨U, o, h1, h2, h3, h4⟩ := body p e s m below meth c s₁ X
  refine ⟨U, o, ?_, h2, h3, h4⟩
  rw [ef m]; exact h1

theorem leave0 (X : St p l e R s m args below meth c own bytes maxL ret nm Z EL nw us bs T h cells slots) {v : Option Value} (hv : ret = none → v = none) (hc : cells ≤ kk) (hn : slots ≤ nn) (hQ : Q v h)
    {S : State} (f : ∀ fs, (∀ (f : JFrame) (acts : List Action), f.method = m → f.locked = none → f.entered = [] → (doReturn e (T.setTop f) acts v).1 = T.setFrames fs) → Steps p.tables e below S (T.setFrames fs)) :
    Goes p e below s Z EL nw Q kk nn S := by
  obtain ⟨⟨h1, h2, h3, h4, h5, h6, a0', hEL⟩, vm0, locs, Y, N, eT, hS, hZ, hown, hE, hC, hU, hW⟩ := X
  have Y' := Y.mono hc hn
  obtain ⟨fs, g1, g2, g3, g4⟩ := Y'.leaveW hS (Nat.le_of_eq (by rw [eT])) (v := v) (fun q => hv (h4 ▸ q)) h6
  have hal : CHr Z EL s.vm s.heap (T.setFrames fs).vm (T.setFrames fs).heap := by
    show CHr Z EL s.vm s.heap T.vm T.heap
    rw [eT]
    exact hC.trans (CHv.at Y hZ hEL hC.1)
  exact ⟨_, _, f fs g1, g2, g3, v, locs, rfl, by show Q v T.heap; rw [eT]; exact hQ, N, by show Ext Z.heap T.heap; rw [eT]; exact hE, hal, g4, fun q => State.WarmedH.trans (t := s.setVm vm0) (hW.1 q) Y.warmed⟩
end Base
section Ops
variable {p : Program} {l : Launch} {e : Env} {R : Room} {s : State} {m : MethodId} {args : Array Value} {below : List Frame} {meth : Method} {c : Code}
  {own : String} {bytes : ByteArray} {maxL : Nat} {ret : Option FieldType} {nm : String} {Z : State} {EL : List (String × Nat)} {nw : Bool} {us : List Addr} {bs : List (String × Nat × Addr)}
  {T : State} {h : Heap} {cells slots : Nat} {Q : Option Value → Heap → Prop} {kk nn : Nat} {a0 : Array Value} {pc : Nat} {Ls : Array Slot} {st : List Value}
theorem g_aload (X : St p l e R s m args below meth c own bytes maxL ret nm Z EL nw us bs T h cells slots) {k : Nat} {v : Value} (hd : decode bytes pc = .ok (.aload k, 2)) (hl : Ls[k]? = some (.val v)) (hv : v.isRef = true) (pc' : Nat) (hp : pc + 2 = pc')
    (K : Goes p e below s Z EL nw Q kk nn (T.setTop (mkF m pc' Ls (v :: st)))) : Goes p e below s Z EL nw Q kk nn (T.setTop (mkF m pc Ls (st))) := by
  subst hp
  exact K.step fun t k => XS.aload X.at X.hx rfl (hb X.by hd) hl hv k

theorem g_aloadN (X : St p l e R s m args below meth c own bytes maxL ret nm Z EL nw us bs T h cells slots) {k : Fin 4} {v : Value} (hd : decode bytes pc = .ok (.aload_n k, 1)) (hl : Ls[k.val]? = some (.val v)) (hv : v.isRef = true) (pc' : Nat) (hp : pc + 1 = pc')
    (K : Goes p e below s Z EL nw Q kk nn (T.setTop (mkF m pc' Ls (v :: st)))) : Goes p e below s Z EL nw Q kk nn (T.setTop (mkF m pc Ls (st))) := by
  subst hp
  exact K.step fun t k => XS.aloadN X.at X.hx rfl (hb X.by hd) hl hv k

theorem g_iload (X : St p l e R s m args below meth c own bytes maxL ret nm Z EL nw us bs T h cells slots) {k : Nat} {v : Int32} (hd : decode bytes pc = .ok (.iload k, 2)) (hl : Ls[k]? = some (.val (.int v))) (pc' : Nat) (hp : pc + 2 = pc')
    (K : Goes p e below s Z EL nw Q kk nn (T.setTop (mkF m pc' Ls (.int v :: st)))) : Goes p e below s Z EL nw Q kk nn (T.setTop (mkF m pc Ls (st))) := by
  subst hp
  exact K.step fun t k => XS.iload X.at X.hx rfl (hb X.by hd) hl k

theorem g_iloadN (X : St p l e R s m args below meth c own bytes maxL ret nm Z EL nw us bs T h cells slots) {k : Fin 4} {v : Int32} (hd : decode bytes pc = .ok (.iload_n k, 1)) (hl : Ls[k.val]? = some (.val (.int v))) (pc' : Nat) (hp : pc + 1 = pc')
    (K : Goes p e below s Z EL nw Q kk nn (T.setTop (mkF m pc' Ls (.int v :: st)))) : Goes p e below s Z EL nw Q kk nn (T.setTop (mkF m pc Ls (st))) := by
  subst hp
  exact K.step fun t k => XS.iloadN X.at X.hx rfl (hb X.by hd) hl k

theorem g_istore (X : St p l e R s m args below meth c own bytes maxL ret nm Z EL nw us bs T h cells slots) {k : Nat} {x : Int32} {Ls' : Array Slot} (hd : decode bytes pc = .ok (.istore k, 2)) (hl : storeLocals Ls k (.int x) = some Ls') (pc' : Nat) (hp : pc + 2 = pc')
    (K : Goes p e below s Z EL nw Q kk nn (T.setTop (mkF m pc' Ls' (st)))) : Goes p e below s Z EL nw Q kk nn (T.setTop (mkF m pc Ls (.int x :: st))) := by
  subst hp
  exact K.step fun t k => XS.istore X.at X.hx rfl (hb X.by hd) rfl hl k

theorem g_istoreN (X : St p l e R s m args below meth c own bytes maxL ret nm Z EL nw us bs T h cells slots) {k : Fin 4} {x : Int32} {Ls' : Array Slot} (hd : decode bytes pc = .ok (.istore_n k, 1)) (hl : storeLocals Ls k.val (.int x) = some Ls') (pc' : Nat) (hp : pc + 1 = pc')
    (K : Goes p e below s Z EL nw Q kk nn (T.setTop (mkF m pc' Ls' (st)))) : Goes p e below s Z EL nw Q kk nn (T.setTop (mkF m pc Ls (.int x :: st))) := by
  subst hp
  exact K.step fun t k => XS.istoreN X.at X.hx rfl (hb X.by hd) rfl hl k

theorem g_astore (X : St p l e R s m args below meth c own bytes maxL ret nm Z EL nw us bs T h cells slots) {k : Nat} {x : Value} {Ls' : Array Slot} (hd : decode bytes pc = .ok (.astore k, 2)) (hv : x.isRef = true) (hl : storeLocals Ls k x = some Ls') (pc' : Nat) (hp : pc + 2 = pc')
    (K : Goes p e below s Z EL nw Q kk nn (T.setTop (mkF m pc' Ls' (st)))) : Goes p e below s Z EL nw Q kk nn (T.setTop (mkF m pc Ls (x :: st))) := by
  subst hp
  exact K.step fun t k => XS.astore X.at X.hx rfl (hb X.by hd) rfl hv hl k

theorem g_astoreN (X : St p l e R s m args below meth c own bytes maxL ret nm Z EL nw us bs T h cells slots) {k : Fin 4} {x : Value} {Ls' : Array Slot} (hd : decode bytes pc = .ok (.astore_n k, 1)) (hv : x.isRef = true) (hl : storeLocals Ls k.val x = some Ls') (pc' : Nat) (hp : pc + 1 = pc')
    (K : Goes p e below s Z EL nw Q kk nn (T.setTop (mkF m pc' Ls' (st)))) : Goes p e below s Z EL nw Q kk nn (T.setTop (mkF m pc Ls (x :: st))) := by
  subst hp
  exact K.step fun t k => XS.astoreN X.at X.hx rfl (hb X.by hd) rfl hv hl k

theorem g_iconst (X : St p l e R s m args below meth c own bytes maxL ret nm Z EL nw us bs T h cells slots) {i : Int} (w : Int32) (hd : decode bytes pc = .ok (.iconst i, 1)) (hw : Int32.ofInt i = w) (pc' : Nat) (hp : pc + 1 = pc')
    (K : Goes p e below s Z EL nw Q kk nn (T.setTop (mkF m pc' Ls (.int w :: st)))) : Goes p e below s Z EL nw Q kk nn (T.setTop (mkF m pc Ls (st))) := by
  subst hp
  exact K.step fun t k => XS.iconst X.at X.hx rfl (hb X.by hd) (by rw [hw]; exact k)

theorem g_bipush (X : St p l e R s m args below meth c own bytes maxL ret nm Z EL nw us bs T h cells slots) {i : Int} (w : Int32) (hd : decode bytes pc = .ok (.bipush i, 2)) (hw : (Int8.ofInt i).toInt32 = w) (pc' : Nat) (hp : pc + 2 = pc')
    (K : Goes p e below s Z EL nw Q kk nn (T.setTop (mkF m pc' Ls (.int w :: st)))) : Goes p e below s Z EL nw Q kk nn (T.setTop (mkF m pc Ls (st))) := by
  subst hp
  exact K.step fun t k => XS.bipush X.at X.hx rfl (hb X.by hd) (by rw [hw]; exact k)

theorem g_sipush (X : St p l e R s m args below meth c own bytes maxL ret nm Z EL nw us bs T h cells slots) {i : Int} (w : Int32) (hd : decode bytes pc = .ok (.sipush i, 3)) (hw : (Int16.ofInt i).toInt32 = w) (pc' : Nat) (hp : pc + 3 = pc')
    (K : Goes p e below s Z EL nw Q kk nn (T.setTop (mkF m pc' Ls (.int w :: st)))) : Goes p e below s Z EL nw Q kk nn (T.setTop (mkF m pc Ls (st))) := by
  subst hp
  exact K.step fun t k => XS.sipush X.at X.hx rfl (hb X.by hd) (by rw [hw]; exact k)

theorem g_aconstNull (X : St p l e R s m args below meth c own bytes maxL ret nm Z EL nw us bs T h cells slots)  (hd : decode bytes pc = .ok (.aconst_null, 1))  (pc' : Nat) (hp : pc + 1 = pc')
    (K : Goes p e below s Z EL nw Q kk nn (T.setTop (mkF m pc' Ls (.null :: st)))) : Goes p e below s Z EL nw Q kk nn (T.setTop (mkF m pc Ls (st))) := by
  subst hp
  exact K.step fun t k => XS.aconstNull X.at X.hx rfl (hb X.by hd) k

theorem g_iadd (X : St p l e R s m args below meth c own bytes maxL ret nm Z EL nw us bs T h cells slots) {x y : Int32} (hd : decode bytes pc = .ok (.iadd, 1)) (w : Int32) (hw : x + y = w) (pc' : Nat) (hp : pc + 1 = pc')
    (K : Goes p e below s Z EL nw Q kk nn (T.setTop (mkF m pc' Ls (.int w :: st)))) : Goes p e below s Z EL nw Q kk nn (T.setTop (mkF m pc Ls (.int y :: .int x :: st))) := by
  subst hp
  exact K.step fun t k => XS.iadd X.at X.hx rfl (hb X.by hd) rfl (by rw [hw]; exact k)

theorem g_isub (X : St p l e R s m args below meth c own bytes maxL ret nm Z EL nw us bs T h cells slots) {x y : Int32} (hd : decode bytes pc = .ok (.isub, 1)) (w : Int32) (hw : x - y = w) (pc' : Nat) (hp : pc + 1 = pc')
    (K : Goes p e below s Z EL nw Q kk nn (T.setTop (mkF m pc' Ls (.int w :: st)))) : Goes p e below s Z EL nw Q kk nn (T.setTop (mkF m pc Ls (.int y :: .int x :: st))) := by
  subst hp
  exact K.step fun t k => XS.isub X.at X.hx rfl (hb X.by hd) rfl (by rw [hw]; exact k)

theorem g_iand (X : St p l e R s m args below meth c own bytes maxL ret nm Z EL nw us bs T h cells slots) {x y : Int32} (hd : decode bytes pc = .ok (.iand, 1)) (w : Int32) (hw : x &&& y = w) (pc' : Nat) (hp : pc + 1 = pc')
    (K : Goes p e below s Z EL nw Q kk nn (T.setTop (mkF m pc' Ls (.int w :: st)))) : Goes p e below s Z EL nw Q kk nn (T.setTop (mkF m pc Ls (.int y :: .int x :: st))) := by
  subst hp
  exact K.step fun t k => XS.iand X.at X.hx rfl (hb X.by hd) rfl (by rw [hw]; exact k)

theorem g_imul (X : St p l e R s m args below meth c own bytes maxL ret nm Z EL nw us bs T h cells slots) {x y : Int32} (hd : decode bytes pc = .ok (.imul, 1)) (w : Int32) (hw : x * y = w) (pc' : Nat) (hp : pc + 1 = pc')
    (K : Goes p e below s Z EL nw Q kk nn (T.setTop (mkF m pc' Ls (.int w :: st)))) : Goes p e below s Z EL nw Q kk nn (T.setTop (mkF m pc Ls (.int y :: .int x :: st))) := by
  subst hp
  exact K.step fun t k => XS.imul X.at X.hx rfl (hb X.by hd) rfl (by rw [hw]; exact k)

theorem g_ixor (X : St p l e R s m args below meth c own bytes maxL ret nm Z EL nw us bs T h cells slots) {x y : Int32} (hd : decode bytes pc = .ok (.ixor, 1)) (w : Int32) (hw : x ^^^ y = w) (pc' : Nat) (hp : pc + 1 = pc')
    (K : Goes p e below s Z EL nw Q kk nn (T.setTop (mkF m pc' Ls (.int w :: st)))) : Goes p e below s Z EL nw Q kk nn (T.setTop (mkF m pc Ls (.int y :: .int x :: st))) := by
  subst hp
  exact K.step fun t k => XT.ixor X.at X.hx rfl (hb X.by hd) rfl (by rw [hw]; exact k)

theorem g_ior (X : St p l e R s m args below meth c own bytes maxL ret nm Z EL nw us bs T h cells slots) {x y : Int32} (hd : decode bytes pc = .ok (.ior, 1)) (w : Int32) (hw : x ||| y = w) (pc' : Nat) (hp : pc + 1 = pc')
    (K : Goes p e below s Z EL nw Q kk nn (T.setTop (mkF m pc' Ls (.int w :: st)))) : Goes p e below s Z EL nw Q kk nn (T.setTop (mkF m pc Ls (.int y :: .int x :: st))) := by
  subst hp
  exact K.step fun t k => XT.ior X.at X.hx rfl (hb X.by hd) rfl (by rw [hw]; exact k)

theorem g_irem (X : St p l e R s m args below meth c own bytes maxL ret nm Z EL nw us bs T h cells slots) {x y : Int32} (hd : decode bytes pc = .ok (.irem, 1)) (hy : y ≠ 0) (w : Int32) (hw : x % y = w) (pc' : Nat) (hp : pc + 1 = pc')
    (K : Goes p e below s Z EL nw Q kk nn (T.setTop (mkF m pc' Ls (.int w :: st)))) : Goes p e below s Z EL nw Q kk nn (T.setTop (mkF m pc Ls (.int y :: .int x :: st))) := by
  subst hp hw
  obtain ⟨vm0, locs, Y⟩ := X.std
  exact K.step fun t k => iremM Y X.hx rfl (hb X.by hd) rfl hy k

theorem g_idiv (X : St p l e R s m args below meth c own bytes maxL ret nm Z EL nw us bs T h cells slots) {x y : Int32} (hd : decode bytes pc = .ok (.idiv, 1)) (hy : y ≠ 0) (w : Int32) (hw : x / y = w) (pc' : Nat) (hp : pc + 1 = pc')
    (K : Goes p e below s Z EL nw Q kk nn (T.setTop (mkF m pc' Ls (.int w :: st)))) : Goes p e below s Z EL nw Q kk nn (T.setTop (mkF m pc Ls (.int y :: .int x :: st))) := by
  subst hp
  exact K.step fun t k => XS.idiv X.at X.hx rfl (hb X.by hd) rfl hy (by rw [hw]; exact k)

theorem g_ineg (X : St p l e R s m args below meth c own bytes maxL ret nm Z EL nw us bs T h cells slots) {x : Int32} (hd : decode bytes pc = .ok (.ineg, 1)) (w : Int32) (hw : -x = w) (pc' : Nat) (hp : pc + 1 = pc')
    (K : Goes p e below s Z EL nw Q kk nn (T.setTop (mkF m pc' Ls (.int w :: st)))) : Goes p e below s Z EL nw Q kk nn (T.setTop (mkF m pc Ls (.int x :: st))) := by
  subst hp
  exact K.step fun t k => XS.ineg X.at X.hx rfl (hb X.by hd) rfl (by rw [hw]; exact k)

theorem g_iushr (X : St p l e R s m args below meth c own bytes maxL ret nm Z EL nw us bs T h cells slots) {x y : Int32} (hd : decode bytes pc = .ok (.iushr, 1)) (w : Int32) (hw : XT.ushr x y = w) (pc' : Nat) (hp : pc + 1 = pc')
    (K : Goes p e below s Z EL nw Q kk nn (T.setTop (mkF m pc' Ls (.int w :: st)))) : Goes p e below s Z EL nw Q kk nn (T.setTop (mkF m pc Ls (.int y :: .int x :: st))) := by
  subst hp
  exact K.step fun t k => XT.iushr X.at X.hx rfl (hb X.by hd) rfl (by rw [hw]; exact k)

theorem g_ishr (X : St p l e R s m args below meth c own bytes maxL ret nm Z EL nw us bs T h cells slots) {x y : Int32} (hd : decode bytes pc = .ok (.ishr, 1)) (w : Int32) (hw : x >>> (y &&& 31) = w) (pc' : Nat) (hp : pc + 1 = pc')
    (K : Goes p e below s Z EL nw Q kk nn (T.setTop (mkF m pc' Ls (.int w :: st)))) : Goes p e below s Z EL nw Q kk nn (T.setTop (mkF m pc Ls (.int y :: .int x :: st))) := by
  subst hp
  exact K.step fun t k => XT.ishr X.at X.hx rfl (hb X.by hd) rfl (by rw [hw]; exact k)

theorem g_ishl (X : St p l e R s m args below meth c own bytes maxL ret nm Z EL nw us bs T h cells slots) {x y : Int32} (hd : decode bytes pc = .ok (.ishl, 1)) (w : Int32) (hw : x <<< (y &&& 31) = w) (pc' : Nat) (hp : pc + 1 = pc')
    (K : Goes p e below s Z EL nw Q kk nn (T.setTop (mkF m pc' Ls (.int w :: st)))) : Goes p e below s Z EL nw Q kk nn (T.setTop (mkF m pc Ls (.int y :: .int x :: st))) := by
  subst hp
  exact K.step fun t k => XT.ishl X.at X.hx rfl (hb X.by hd) rfl (by rw [hw]; exact k)

theorem g_i2c (X : St p l e R s m args below meth c own bytes maxL ret nm Z EL nw us bs T h cells slots) {x : Int32} (hd : decode bytes pc = .ok (.i2c, 1)) (w : Int32) (hw : x.toUInt32.toUInt16.toUInt32.toInt32 = w) (pc' : Nat) (hp : pc + 1 = pc')
    (K : Goes p e below s Z EL nw Q kk nn (T.setTop (mkF m pc' Ls (.int w :: st)))) : Goes p e below s Z EL nw Q kk nn (T.setTop (mkF m pc Ls (.int x :: st))) := by
  subst hp
  exact K.step fun t k => XT.i2c X.at X.hx rfl (hb X.by hd) rfl (by rw [hw]; exact k)

theorem g_i2b (X : St p l e R s m args below meth c own bytes maxL ret nm Z EL nw us bs T h cells slots) {x : Int32} (hd : decode bytes pc = .ok (.i2b, 1)) (w : Int32) (hw : x.toInt8.toInt32 = w) (pc' : Nat) (hp : pc + 1 = pc')
    (K : Goes p e below s Z EL nw Q kk nn (T.setTop (mkF m pc' Ls (.int w :: st)))) : Goes p e below s Z EL nw Q kk nn (T.setTop (mkF m pc Ls (.int x :: st))) := by
  subst hp
  exact K.step fun t k => XT.i2b X.at X.hx rfl (hb X.by hd) rfl (by rw [hw]; exact k)

theorem g_i2l (X : St p l e R s m args below meth c own bytes maxL ret nm Z EL nw us bs T h cells slots) {x : Int32} (hd : decode bytes pc = .ok (.i2l, 1)) (w : Int64) (hw : x.toInt64 = w) (pc' : Nat) (hp : pc + 1 = pc')
    (K : Goes p e below s Z EL nw Q kk nn (T.setTop (mkF m pc' Ls (.long w :: st)))) : Goes p e below s Z EL nw Q kk nn (T.setTop (mkF m pc Ls (.int x :: st))) := by
  subst hp
  exact K.step fun t k => XT.i2l X.at X.hx rfl (hb X.by hd) rfl (by rw [hw]; exact k)

theorem g_lsub (X : St p l e R s m args below meth c own bytes maxL ret nm Z EL nw us bs T h cells slots) {x y : Int64} (hd : decode bytes pc = .ok (.lsub, 1)) (w : Int64) (hw : x - y = w) (pc' : Nat) (hp : pc + 1 = pc')
    (K : Goes p e below s Z EL nw Q kk nn (T.setTop (mkF m pc' Ls (.long w :: st)))) : Goes p e below s Z EL nw Q kk nn (T.setTop (mkF m pc Ls (.long y :: .long x :: st))) := by
  subst hp
  exact K.step fun t k => XT.lsub X.at X.hx rfl (hb X.by hd) rfl (by rw [hw]; exact k)

theorem g_lcmp (X : St p l e R s m args below meth c own bytes maxL ret nm Z EL nw us bs T h cells slots) {x y : Int64} (hd : decode bytes pc = .ok (.lcmp, 1)) (w : Int32) (hw : XT.cmpL x y = w) (pc' : Nat) (hp : pc + 1 = pc')
    (K : Goes p e below s Z EL nw Q kk nn (T.setTop (mkF m pc' Ls (.int w :: st)))) : Goes p e below s Z EL nw Q kk nn (T.setTop (mkF m pc Ls (.long y :: .long x :: st))) := by
  subst hp
  exact K.step fun t k => XT.lcmp X.at X.hx rfl (hb X.by hd) rfl (by rw [hw]; exact k)

theorem g_dup (X : St p l e R s m args below meth c own bytes maxL ret nm Z EL nw us bs T h cells slots) {x : Value} (hd : decode bytes pc = .ok (.dup, 1)) (hc : x.category = 1) (pc' : Nat) (hp : pc + 1 = pc')
    (K : Goes p e below s Z EL nw Q kk nn (T.setTop (mkF m pc' Ls (x :: x :: st)))) : Goes p e below s Z EL nw Q kk nn (T.setTop (mkF m pc Ls (x :: st))) := by
  subst hp
  exact K.step fun t k => XS.dup X.at X.hx rfl (hb X.by hd) rfl hc k

theorem g_pop (X : St p l e R s m args below meth c own bytes maxL ret nm Z EL nw us bs T h cells slots) {x : Value} (hd : decode bytes pc = .ok (.pop, 1)) (hc : x.category = 1) (pc' : Nat) (hp : pc + 1 = pc')
    (K : Goes p e below s Z EL nw Q kk nn (T.setTop (mkF m pc' Ls (st)))) : Goes p e below s Z EL nw Q kk nn (T.setTop (mkF m pc Ls (x :: st))) := by
  subst hp
  exact K.step fun t k => XT.pop X.at X.hx rfl (hb X.by hd) rfl hc k

theorem g_iinc (X : St p l e R s m args below meth c own bytes maxL ret nm Z EL nw us bs T h cells slots) {k : Nat} {i : Int} {x : Int32} {Ls' : Array Slot} (hd : decode bytes pc = .ok (.iinc k i, 3)) (hl : Ls[k]? = some (.val (.int x))) (w : Int32) (hw : x + Int32.ofInt i = w) (hl' : storeLocals Ls k (.int w) = some Ls') (pc' : Nat) (hp : pc + 3 = pc')
    (K : Goes p e below s Z EL nw Q kk nn (T.setTop (mkF m pc' Ls' (st)))) : Goes p e below s Z EL nw Q kk nn (T.setTop (mkF m pc Ls (st))) := by
  subst hp
  exact K.step fun t k => XS.iinc X.at X.hx rfl (hb X.by hd) hl (by rw [hw]; exact hl') k

theorem g_ifNo (X : St p l e R s m args below meth c own bytes maxL ret nm Z EL nw us bs T h cells slots) {cd : ClassFile.Cond} {o : Int} {x : Int32} (hd : decode bytes pc = .ok (.ifCond cd o, 3)) (hc : if_icmp.holds cd x 0 = false) (pc' : Nat) (hp : pc + 3 = pc')
    (K : Goes p e below s Z EL nw Q kk nn (T.setTop (mkF m pc' Ls (st)))) : Goes p e below s Z EL nw Q kk nn (T.setTop (mkF m pc Ls (.int x :: st))) := by
  subst hp
  exact K.step fun t k => XS.ifNo X.at X.hx rfl (hb X.by hd) rfl ((if0 cd x).trans hc) k

theorem g_icmpNo (X : St p l e R s m args below meth c own bytes maxL ret nm Z EL nw us bs T h cells slots) {cd : ClassFile.Cond} {o : Int} {x y : Int32} (hd : decode bytes pc = .ok (.if_icmp cd o, 3)) (hc : if_icmp.holds cd x y = false) (pc' : Nat) (hp : pc + 3 = pc')
    (K : Goes p e below s Z EL nw Q kk nn (T.setTop (mkF m pc' Ls (st)))) : Goes p e below s Z EL nw Q kk nn (T.setTop (mkF m pc Ls (.int y :: .int x :: st))) := by
  subst hp
  exact K.step fun t k => XS.icmpNo X.at X.hx rfl (hb X.by hd) rfl hc k

theorem g_ifnullNo (X : St p l e R s m args below meth c own bytes maxL ret nm Z EL nw us bs T h cells slots) {o : Int} {b : Addr} (hd : decode bytes pc = .ok (.ifnull o, 3))  (pc' : Nat) (hp : pc + 3 = pc')
    (K : Goes p e below s Z EL nw Q kk nn (T.setTop (mkF m pc' Ls (st)))) : Goes p e below s Z EL nw Q kk nn (T.setTop (mkF m pc Ls (.ref b :: st))) := by
  subst hp
  exact K.step fun t k => XS.ifnullNo X.at X.hx rfl (hb X.by hd) rfl k

theorem g_ifnonnullNo (X : St p l e R s m args below meth c own bytes maxL ret nm Z EL nw us bs T h cells slots) {o : Int} (hd : decode bytes pc = .ok (.ifnonnull o, 3))  (pc' : Nat) (hp : pc + 3 = pc')
    (K : Goes p e below s Z EL nw Q kk nn (T.setTop (mkF m pc' Ls (st)))) : Goes p e below s Z EL nw Q kk nn (T.setTop (mkF m pc Ls (.null :: st))) := by
  subst hp
  exact K.step fun t k => XT.ifnonnullNo X.at X.hx rfl (hb X.by hd) rfl k

theorem g_acmpNo (X : St p l e R s m args below meth c own bytes maxL ret nm Z EL nw us bs T h cells slots) {cd : ClassFile.ACond} {o : Int} {x y : Value} (hd : decode bytes pc = .ok (.if_acmp cd o, 3)) (hx' : x.isRef = true) (hy' : y.isRef = true) (hc : XT.acmp cd x y = false) (pc' : Nat) (hp : pc + 3 = pc')
    (K : Goes p e below s Z EL nw Q kk nn (T.setTop (mkF m pc' Ls (st)))) : Goes p e below s Z EL nw Q kk nn (T.setTop (mkF m pc Ls (y :: x :: st))) := by
  subst hp
  exact K.step fun t k => XT.acmpNo X.at X.hx rfl (hb X.by hd) rfl hx' hy' hc k

theorem g_goto (X : St p l e R s m args below meth c own bytes maxL ret nm Z EL nw us bs T h cells slots)  {o : Int} (hd : decode bytes pc = .ok (.goto o, 3))  (pc' : Nat) (ho : 0 ≤ (pc : Int) + o) (hp : ((pc : Int) + o).toNat = pc')
    (K : Goes p e below s Z EL nw Q kk nn (T.setTop (mkF m pc' Ls (st)))) : Goes p e below s Z EL nw Q kk nn (T.setTop (mkF m pc Ls (st))) :=
  K.step fun t k => XS.goto X.at X.hx rfl (pc0 := pc) rfl (hb X.by hd) ho hp k

theorem g_ifYes (X : St p l e R s m args below meth c own bytes maxL ret nm Z EL nw us bs T h cells slots) {cd : ClassFile.Cond} {x : Int32} {o : Int} (hd : decode bytes pc = .ok (.ifCond cd o, 3)) (hc : if_icmp.holds cd x 0 = true) (pc' : Nat) (ho : 0 ≤ (pc : Int) + o) (hp : ((pc : Int) + o).toNat = pc')
    (K : Goes p e below s Z EL nw Q kk nn (T.setTop (mkF m pc' Ls (st)))) : Goes p e below s Z EL nw Q kk nn (T.setTop (mkF m pc Ls (.int x :: st))) :=
  K.step fun t k => XS.ifYes X.at X.hx rfl (pc0 := pc) rfl (hb X.by hd) rfl ((if0 cd x).trans hc) ho hp k

theorem g_icmpYes (X : St p l e R s m args below meth c own bytes maxL ret nm Z EL nw us bs T h cells slots) {cd : ClassFile.Cond} {x y : Int32} {o : Int} (hd : decode bytes pc = .ok (.if_icmp cd o, 3)) (hc : if_icmp.holds cd x y = true) (pc' : Nat) (ho : 0 ≤ (pc : Int) + o) (hp : ((pc : Int) + o).toNat = pc')
    (K : Goes p e below s Z EL nw Q kk nn (T.setTop (mkF m pc' Ls (st)))) : Goes p e below s Z EL nw Q kk nn (T.setTop (mkF m pc Ls (.int y :: .int x :: st))) :=
  K.step fun t k => XS.icmpYes X.at X.hx rfl (pc0 := pc) rfl (hb X.by hd) rfl hc ho hp k

theorem g_ifnullYes (X : St p l e R s m args below meth c own bytes maxL ret nm Z EL nw us bs T h cells slots)  {o : Int} (hd : decode bytes pc = .ok (.ifnull o, 3))  (pc' : Nat) (ho : 0 ≤ (pc : Int) + o) (hp : ((pc : Int) + o).toNat = pc')
    (K : Goes p e below s Z EL nw Q kk nn (T.setTop (mkF m pc' Ls (st)))) : Goes p e below s Z EL nw Q kk nn (T.setTop (mkF m pc Ls (.null :: st))) :=
  K.step fun t k => XS.ifnullYes X.at X.hx rfl (pc0 := pc) rfl (hb X.by hd) rfl ho hp k

theorem g_ifnonnullYes (X : St p l e R s m args below meth c own bytes maxL ret nm Z EL nw us bs T h cells slots) {b : Addr} {o : Int} (hd : decode bytes pc = .ok (.ifnonnull o, 3))  (pc' : Nat) (ho : 0 ≤ (pc : Int) + o) (hp : ((pc : Int) + o).toNat = pc')
    (K : Goes p e below s Z EL nw Q kk nn (T.setTop (mkF m pc' Ls (st)))) : Goes p e below s Z EL nw Q kk nn (T.setTop (mkF m pc Ls (.ref b :: st))) :=
  K.step fun t k => XT.ifnonnullYes X.at X.hx rfl (pc0 := pc) rfl (hb X.by hd) rfl ho hp k

theorem g_acmpYes (X : St p l e R s m args below meth c own bytes maxL ret nm Z EL nw us bs T h cells slots) {cd : ClassFile.ACond} {x y : Value} {o : Int} (hd : decode bytes pc = .ok (.if_acmp cd o, 3)) (hx' : x.isRef = true) (hy' : y.isRef = true) (hc : XT.acmp cd x y = true) (pc' : Nat) (ho : 0 ≤ (pc : Int) + o) (hp : ((pc : Int) + o).toNat = pc')
    (K : Goes p e below s Z EL nw Q kk nn (T.setTop (mkF m pc' Ls (st)))) : Goes p e below s Z EL nw Q kk nn (T.setTop (mkF m pc Ls (y :: x :: st))) :=
  K.step fun t k => XT.acmpYes X.at X.hx rfl (pc0 := pc) rfl (hb X.by hd) rfl hx' hy' hc ho hp k
end Ops
section Rets
variable {p : Program} {l : Launch} {e : Env} {R : Room} {s : State} {m : MethodId} {args : Array Value} {below : List Frame} {meth : Method} {c : Code}
  {own : String} {bytes : ByteArray} {maxL : Nat} {ret : Option FieldType} {nm : String} {Z : State} {EL : List (String × Nat)} {nw : Bool} {us : List Addr} {bs : List (String × Nat × Addr)}
  {T : State} {h : Heap} {cells slots : Nat} {Q : Option Value → Heap → Prop} {kk nn : Nat} {a0 : Array Value} {pc : Nat} {Ls : Array Slot} {st : List Value}

theorem g_retN (X : St p l e R s m args below meth c own bytes maxL ret nm Z EL nw us bs T h cells slots) {z : Int32} {t : FieldType} {rest : List Value} (hret : ret = some t) (ht : t = .boolean ∨ t = .byte ∨ t = .char ∨ t = .short) (hd : decode bytes pc = .ok (.ireturn, 1)) (w : Int32) (hw : nar t z = w) (hc : cells ≤ kk) (hn : slots ≤ nn) (hQ : Q (some (.int w)) h) :
    Goes p e below s Z EL nw Q kk nn (T.setTop (mkF m pc Ls (.int z :: rest))) := by
  subst hw
  have h4 := X.1.2.2.2.1
  exact leave0 X (fun q => by rw [hret] at q; cases q) hc hn hQ fun fs g1 => by
    obtain ⟨vm0, locs, Y⟩ := X.std
    exact retN Y X.hx (h4.trans hret) ht (hb X.by hd) g1
theorem g_retI (X : St p l e R s m args below meth c own bytes maxL ret nm Z EL nw us bs T h cells slots) {z : Int32} {rest : List Value} (hret : ret = some .int) (hd : decode bytes pc = .ok (.ireturn, 1)) (hc : cells ≤ kk) (hn : slots ≤ nn) (hQ : Q (some (.int z)) h) :
    Goes p e below s Z EL nw Q kk nn (T.setTop (mkF m pc Ls (.int z :: rest))) := by
  have h4 := X.1.2.2.2.1
  exact leave0 X (fun q => by rw [hret] at q; cases q) hc hn hQ fun fs g1 => by
    obtain ⟨vm0, locs, Y⟩ := X.std
    exact retOut Y X.hx (h4.trans hret) rfl (Or.inl ⟨rfl, Or.inl rfl, z, rfl⟩) (hb X.by hd) g1
theorem g_retA (X : St p l e R s m args below meth c own bytes maxL ret nm Z EL nw us bs T h cells slots) {w : Value} {t : FieldType} {rest : List Value} (hret : ret = some t) (ht : t.isReference = true) (hw : w.isRef = true) (hd : decode bytes pc = .ok (.areturn, 1)) (hc : cells ≤ kk) (hn : slots ≤ nn) (hQ : Q (some w) h) :
    Goes p e below s Z EL nw Q kk nn (T.setTop (mkF m pc Ls (w :: rest))) := by
  have h4 := X.1.2.2.2.1
  have hnar : narrow t w = w := by
    rcases ref_cases hw with rfl | ⟨a, rfl⟩ <;> cases t <;> first | rfl | simp [FieldType.isReference] at ht
  exact leave0 X (fun q => by rw [hret] at q; cases q) hc hn hQ fun fs g1 => by
    obtain ⟨vm0, locs, Y⟩ := X.std
    exact retOut Y X.hx (h4.trans hret) hnar (Or.inr (Or.inr (Or.inr (Or.inr ⟨rfl, ht, hw⟩)))) (hb X.by hd) g1
theorem g_ret (X : St p l e R s m args below meth c own bytes maxL ret nm Z EL nw us bs T h cells slots) (hret : ret = none) (hd : decode bytes pc = .ok (.return_, 1)) (hc : cells ≤ kk) (hn : slots ≤ nn) (hQ : Q none h) :
    Goes p e below s Z EL nw Q kk nn (T.setTop (mkF m pc Ls [])) := by
  have h4 := X.1.2.2.2.1
  exact leave0 X (fun _ => rfl) hc hn hQ fun fs g1 => by
    obtain ⟨vm0, locs, Y⟩ := X.std
    exact Y.returnOut X.hx (h4.trans hret) (hb X.by hd) g1
end Rets
section HeapOps
variable {p : Program} {l : Launch} {e : Env} {R : Room} {s : State} {m : MethodId} {args : Array Value} {below : List Frame} {meth : Method} {c : Code}
  {own : String} {bytes : ByteArray} {maxL : Nat} {ret : Option FieldType} {nm : String} {Z : State} {EL : List (String × Nat)} {nw : Bool} {us : List Addr} {bs : List (String × Nat × Addr)}
  {T : State} {h : Heap} {cells slots : Nat} {Q : Option Value → Heap → Prop} {kk nn : Nat} {a0 : Array Value} {pc : Nat} {Ls : Array Slot} {st : List Value}

theorem g_ldcI (X : St p l e R s m args below meth c own bytes maxL ret nm Z EL nw us bs T h cells slots) {ix : Nat} {v : Int32} (w : (Jvm.Cond.constant own ix v).before a0 Z = true) (hd : decode bytes pc = .ok (.ldc ix, 2)) (pc' : Nat) (hp : pc + 2 = pc')
    (K : Goes p e below s Z EL nw Q kk nn (T.setTop (mkF m pc' Ls (.int v :: st)))) : Goes p e below s Z EL nw Q kk nn (T.setTop (mkF m pc Ls st)) := by
  subst hp
  obtain ⟨cx, vm0, locs, Y, N, eT, hS, hZ, hown, r⟩ := X
  exact K.step fun t k => Y.ldcI cx.1 hown (mv (s := s.setVm vm0) hZ w) rfl (hb cx.2.1 hd) k
theorem g_getF (X : St p l e R s m args below meth c own bytes maxL ret nm Z EL nw us bs T h cells slots) {R0 O n d host : String} {ix : Nat} {a : Addr} {v : Value} (w : (Jvm.Cond.fieldLink own ix R0 n d).before a0 Z = true ∨ (Jvm.Cond.fieldLinkNest own ix R0 n d host).before a0 Z = true) (via : Via Z R0 O n d) (F : Fld Z h a O n d v)
    (hd : decode bytes pc = .ok (.getfield ix, 3)) (pc' : Nat) (hp : pc + 3 = pc')
    (K : ∀ T', St p l e R s m args below meth c own bytes maxL ret nm Z EL nw us bs T' h cells slots → Goes p e below s Z EL nw Q kk nn (T'.setTop (mkF m pc' Ls (v :: st)))) : Goes p e below s Z EL nw Q kk nn (T.setTop (mkF m pc Ls (.ref a :: st))) := by
  subst hp
  obtain ⟨cx, vm0, locs, Y, N, eT, hS, hZ, hown, r⟩ := X
  obtain ⟨T', Y', e', stp⟩ := getF Y cx.1 hZ hown w via eT F (g := mkF m pc Ls (.ref a :: st)) rfl rfl (hb cx.2.1 hd)
  exact (K T' ⟨cx, vm0, locs, Y', N, e', hS, hZ, hown, r⟩).step stp
theorem g_getS (X : St p l e R s m args below meth c own bytes maxL ret nm Z EL nw us bs T h cells slots) {R0 O n d host : String} {ix : Nat} {v : Value} (w : (Jvm.Cond.fieldLink own ix R0 n d).before a0 Z = true ∨ (Jvm.Cond.fieldLinkNest own ix R0 n d host).before a0 Z = true) (via : Via Z R0 O n d) (F : Sta Z h O n d v)
    (hd : decode bytes pc = .ok (.getstatic ix, 3)) (pc' : Nat) (hp : pc + 3 = pc')
    (K : ∀ T', St p l e R s m args below meth c own bytes maxL ret nm Z EL nw us bs T' h cells slots → Goes p e below s Z EL nw Q kk nn (T'.setTop (mkF m pc' Ls (v :: st)))) : Goes p e below s Z EL nw Q kk nn (T.setTop (mkF m pc Ls st)) := by
  subst hp
  obtain ⟨cx, vm0, locs, Y, N, eT, hS, hZ, hown, r⟩ := X
  obtain ⟨T', Y', e', stp⟩ := getS2 Y cx.1 hZ hown w via eT F (g := mkF m pc Ls st) rfl (hb cx.2.1 hd)
  exact (K T' ⟨cx, vm0, locs, Y', N, e', hS, hZ, hown, r⟩).step stp
theorem own_noassign {C S D : String} {n : Nat} (w : (Jvm.Cond.superclass C S).before a0 Z = true) (w0 : (Jvm.Cond.noSuperclass S).before a0 Z = true) (wi : (Jvm.Cond.instantiable D n).before a0 Z = true) (hn : C ≠ D) (hs : S ≠ D) : ∃ c t, Z.vm.findClass C = some c ∧ Z.vm.findClass D = some t ∧ Z.vm.assignable c t = false := by
  obtain ⟨t, k', g0, g2, g5, gr⟩ := Jvm.Cond.instantiable_spec wi
  obtain ⟨cs, ks, s1, s2, s3, -, -⟩ := Jvm.Cond.noSuperclass_spec w0
  obtain ⟨c, h0⟩ := found_sup w
  obtain ⟨p, k, kp, h1, h2, h3, h4, h5, -, h7⟩ := Jvm.Cond.superclass_spec h0 w
  cases s1.symm.trans h1
  have ne := ids_ne h0 g0 hn
  have ne2 := ids_ne s1 g0 hs
  have gi : k'.isInterface = false := (Bool.or_eq_false_iff.mp gr.1).1
  have n3 : ∀ fuel, Z.vm.isSubclassAux fuel c t = false := by
    intro fuel
    cases fuel with
    | zero => rfl
    | succ f =>
      cases f with
      | zero => simp [Vm.isSubclassAux, ne, h2, h4]
      | succ f => simp [Vm.isSubclassAux, ne, h2, h4, ne2, s2, s3]
  refine ⟨c, t, h0, g0, ?_⟩
  show Z.vm.assignableAux (255 + 1) c t = false
  simp [Vm.assignableAux, ne, h2, g2, h5, g5, Vm.isSubclass, n3, gi]
theorem g_instNull (X : St p l e R s m args below meth c own bytes maxL ret nm Z EL nw us bs T h cells slots) {ix : Nat} (hd : decode bytes pc = .ok (.instanceof ix, 3)) (pc' : Nat) (hp : pc + 3 = pc')
    (K : Goes p e below s Z EL nw Q kk nn (T.setTop (mkF m pc' Ls (.int 0 :: st)))) : Goes p e below s Z EL nw Q kk nn (T.setTop (mkF m pc Ls (.null :: st))) := by
  subst hp
  obtain ⟨vm0, locs, Y⟩ := X.std
  exact K.step fun t k => Y.instanceofNull X.hx (g := mkF m pc Ls (.null :: st)) rfl rfl (hb X.by hd) t k
theorem g_cast (X : St p l e R s m args below meth c own bytes maxL ret nm Z EL nw us bs T h cells slots) {C : String} {ix : Nat} {a : Addr} (w : (Jvm.Cond.classLink own ix C).before a0 Z = true) (F : Ins Z h a C true) (hd : decode bytes pc = .ok (.checkcast ix, 3)) (pc' : Nat) (hp : pc + 3 = pc')
    (K : ∀ T', St p l e R s m args below meth c own bytes maxL ret nm Z EL nw us bs T' h cells slots → Goes p e below s Z EL nw Q kk nn (T'.setTop (mkF m pc' Ls (.ref a :: st)))) : Goes p e below s Z EL nw Q kk nn (T.setTop (mkF m pc Ls (.ref a :: st))) := by
  subst hp
  obtain ⟨cx, vm0, locs, Y, N, eT, hS, hZ, hown, r⟩ := X
  obtain ⟨T', Y', e', stp⟩ := castY Y cx.1 hZ hown w eT F (g := mkF m pc Ls (.ref a :: st)) rfl rfl (hb cx.2.1 hd)
  exact (K T' ⟨cx, vm0, locs, Y', N, e', hS, hZ, hown, r⟩).step stp
theorem g_instY (X : St p l e R s m args below meth c own bytes maxL ret nm Z EL nw us bs T h cells slots) {C : String} {ix : Nat} {a : Addr} (w : (Jvm.Cond.classLink own ix C).before a0 Z = true) (F : Ins Z h a C true) (hd : decode bytes pc = .ok (.instanceof ix, 3)) (pc' : Nat) (hp : pc + 3 = pc')
    (K : ∀ T', St p l e R s m args below meth c own bytes maxL ret nm Z EL nw us bs T' h cells slots → Goes p e below s Z EL nw Q kk nn (T'.setTop (mkF m pc' Ls (.int 1 :: st)))) : Goes p e below s Z EL nw Q kk nn (T.setTop (mkF m pc Ls (.ref a :: st))) := by
  subst hp
  obtain ⟨cx, vm0, locs, Y, N, eT, hS, hZ, hown, r⟩ := X
  obtain ⟨T', Y', e', stp⟩ := instY Y cx.1 hZ hown w eT F (g := mkF m pc Ls (.ref a :: st)) rfl rfl (hb cx.2.1 hd)
  exact (K T' ⟨cx, vm0, locs, Y', N, e', hS, hZ, hown, r⟩).step stp
theorem g_instNo (X : St p l e R s m args below meth c own bytes maxL ret nm Z EL nw us bs T h cells slots) {C D : String} {ix : Nat} {a : Addr} (w : (Jvm.Cond.classLink own ix D).before a0 Z = true) (E : Exa Z h a C) (F : ∃ c t, Z.vm.findClass C = some c ∧ Z.vm.findClass D = some t ∧ Z.vm.assignable c t = false) (hd : decode bytes pc = .ok (.instanceof ix, 3)) (pc' : Nat) (hp : pc + 3 = pc')
    (K : ∀ T', St p l e R s m args below meth c own bytes maxL ret nm Z EL nw us bs T' h cells slots → Goes p e below s Z EL nw Q kk nn (T'.setTop (mkF m pc' Ls (.int 0 :: st)))) : Goes p e below s Z EL nw Q kk nn (T.setTop (mkF m pc Ls (.ref a :: st))) := by
  subst hp
  obtain ⟨cx, vm0, locs, Y, N, eT, hS, hZ, hown, r⟩ := X
  obtain ⟨T', Y', e', stp⟩ := instNo Y cx.1 hZ hown w eT E F (g := mkF m pc Ls (.ref a :: st)) rfl rfl (hb cx.2.1 hd)
  exact (K T' ⟨cx, vm0, locs, Y', N, e', hS, hZ, hown, r⟩).step stp
/-- 'new': the new object is under construction -/
theorem g_new (X : St p l e R s m args below meth c own bytes maxL ret nm Z EL nw us bs T h cells slots) {C : String} {ix k : Nat} (w : (Jvm.Cond.classLink own ix C).before a0 Z = true) (wi : (Jvm.Cond.instantiable C k).before a0 Z = true) (wz : (Jvm.Cond.initialized C).before a0 Z = true)
    (hd : decode bytes pc = .ok (.new ix, 3)) {ck cs : Nat} (hck : cells + 1 = ck) (hcs : slots + k = cs) (hc : ck ≤ R.cells) (hl : cs ≤ R.slots) (pc' : Nat) (hp : pc + 3 = pc')
    (K : ∀ a T' h', a = h.size → St p l e R s m args below meth c own bytes maxL ret nm Z EL nw (a :: us) bs T' h' ck cs → Ext h h' → Exa Z h' a C →
      (∀ {O n d : String} {ty : FieldType}, Laid Z a0 C O n d → parseFieldDescriptor d = some ty → Fld Z h' a O n d (defaultValue ty)) → Goes p e below s Z EL nw Q kk nn (T'.setTop (mkF m pc' Ls (.ref a :: st)))) : Goes p e below s Z EL nw Q kk nn (T.setTop (mkF m pc Ls st)) := by
  subst hp hck hcs
  obtain ⟨cx, vm0, locs, Y, N, eT, hS, hZ, hown, hE, hC, hU, hW⟩ := X
  obtain ⟨T', h', Y', e', E, A, D, -, stp⟩ := newO Y cx.1 hZ hown w wi wz eT (g := mkF m pc Ls st) rfl (hb cx.2.1 hd) hc hl
  refine (K h.size T' h' rfl ⟨cx, vm0, locs, Y', N, e', ⟨hS.1, hS.2.mono E.1⟩, hZ, hown, hE.trans E, hC.trans (CHr.ext E hC.1), ?_, hW⟩ E A (fun L q => D L q)).step stp
  intro x hx
  rcases List.mem_cons.mp hx with rfl | hx
  · exact ⟨hE.1, A.lt, Safe.ext E hC.1 (Safe.new (Nat.le_refl _))⟩
  · obtain ⟨q1, q2, q3⟩ := hU x hx
    exact ⟨q1, Nat.lt_of_lt_of_le q2 E.1, Safe.ext E hC.1 q3⟩
/-- an array of a primitive kind, new -/
theorem g_newP (X : St p l e R s m args below meth c own bytes maxL ret nm Z EL nw us bs T h cells slots) {aty : ArrayType} {z : Int32} (w : (Jvm.Cond.arrayClass (newarray.typeOf aty)).before a0 Z = true) (hd : decode bytes pc = .ok (.newarray aty, 2)) (hn : ¬ z < 0) (cap : Nat) (hcap : z.toNatClampNeg ≤ cap) (hb' : cap * 8 ≤ 536870912)
    {ck cs : Nat} (hck : cells + 1 = ck) (hcs : slots + cap = cs) (hc : ck ≤ R.cells) (hl : cs ≤ R.slots) (pc' : Nat) (hp : pc + 2 = pc')
    (K : ∀ a T' h' k, a = h.size → St p l e R s m args below meth c own bytes maxL ret nm Z EL nw (a :: us) bs T' h' ck cs → Ext h h' → Arv Z h' a k (newarray.typeOf aty) z [] (defaultValue (newarray.typeOf aty)) →
      Goes p e below s Z EL nw Q kk nn (T'.setTop (mkF m pc' Ls (.ref a :: st)))) : Goes p e below s Z EL nw Q kk nn (T.setTop (mkF m pc Ls (.int z :: st))) := by
  subst hp hck hcs
  obtain ⟨cx, vm0, locs, Y, N, eT, hS, hZ, hown, hE, hC, hU, hW⟩ := X
  obtain ⟨T', h', cA, Y', e', E, A, stp⟩ := newP Y cx.1 hZ w eT (g := mkF m pc Ls (.int z :: st)) rfl (hb cx.2.1 hd) rfl hn hcap hb' hc hl
  refine (K h.size T' h' cA rfl ⟨cx, vm0, locs, Y', N, e', ⟨hS.1, hS.2.mono E.1⟩, hZ, hown, hE.trans E, hC.trans (CHr.ext E hC.1), ?_, hW⟩ E (Arv.new A hn)).step stp
  intro x hx
  rcases List.mem_cons.mp hx with rfl | hx
  · exact ⟨hE.1, A.lt, Safe.ext E hC.1 (Safe.new (Nat.le_refl _))⟩
  · obtain ⟨q1, q2, q3⟩ := hU x hx
    exact ⟨q1, Nat.lt_of_lt_of_le q2 E.1, Safe.ext E hC.1 q3⟩
/-- a store's part that is common -/
theorem St.wrote {vm0 : Vm} {locs : List Loc} {T' : State} {h' : Heap} {a : Addr} {sl : Nat} {v : Value}
    (cx : p.tables.exec = Jvm.exec ∧ c.code = bytes ∧ c.maxLocals = maxL ∧ meth.sig.returnType = ret ∧ meth.name = nm ∧ meth.locks = false ∧ ∃ a0, EW Z a0 EL)
    (Y : Stand p l e R (s.setVm vm0) m args below meth c T' (locs ++ [⟨a, sl⟩]) cells slots) (N : Fr Z.heap.size locs) (eT : T'.heap = h') (hS : s.Since vm0 h.size) (hZ : Z.Warmed39 vm0) (hown : vm0.findClass own = some m.cls) (hE : Ext Z.heap h) (hC : CHr Z EL s.vm s.heap vm0 h)
    (hU : ∀ x ∈ us, Z.heap.size ≤ x ∧ x < h.size ∧ Safe Z EL vm0 h x) (hW : (nw = true → s.WarmedH vm0) ∧ ∀ q ∈ bs, Lit (s.setVm vm0) q.1 q.2.1 q.2.2) (W : Wr h h' a sl v) (ha : a ∈ us) : St p l e R s m args below meth c own bytes maxL ret nm Z EL nw us bs T' h' cells slots := by
  obtain ⟨q1, q2, q3⟩ := hU a ha
  refine ⟨cx, vm0, locs ++ [⟨a, sl⟩], Y, Fr.snoc Y N q1, eT, ⟨hS.1, hS.2.mono (Nat.le_of_eq W.size.symm)⟩, hZ, hown, ext_wr hE W q1, hC.trans (CHr.wr W q3 hC.1), fun x hx => ?_, hW⟩
  obtain ⟨r1, r2, r3⟩ := hU x hx
  exact ⟨r1, by rw [W.size]; exact r2, Safe.wr W q3 hC.1 r3⟩
theorem g_putF (X : St p l e R s m args below meth c own bytes maxL ret nm Z EL nw us bs T h cells slots) {R0 O n d host C : String} {ix k : Nat} {ty : FieldType} {a : Addr} {v old : Value} (w : (Jvm.Cond.fieldLink own ix R0 n d).before a0 Z = true ∨ (Jvm.Cond.fieldLinkNest own ix R0 n d host).before a0 Z = true) (via : Via Z R0 O n d) (F : Fld Z h a O n d old) (E : Exa Z h a C)
    (L : (Jvm.Cond.lays C O n d).before a0 Z = true ∨ ((Jvm.Cond.laysFinal C O n d).before a0 Z = true ∧ own = O ∧ nm = "<init>")) (wi : (Jvm.Cond.instantiable C k).before a0 Z = true) (hty : parseFieldDescriptor d = some ty) (hn : narrow ty v = v) (hf : fits ty v = true) (ha : a ∈ us)
    (hd : decode bytes pc = .ok (.putfield ix, 3)) (pc' : Nat) (hp : pc + 3 = pc')
    (K : ∀ T' h', St p l e R s m args below meth c own bytes maxL ret nm Z EL nw us bs T' h' cells slots → Wr h h' a (Jvm.RoadKit.slotOf Z O n d) v → Fld Z h' a O n d v → Exa Z h' a C → Goes p e below s Z EL nw Q kk nn (T'.setTop (mkF m pc' Ls st))) : Goes p e below s Z EL nw Q kk nn (T.setTop (mkF m pc Ls (v :: .ref a :: st))) := by
  subst hp
  obtain ⟨cx, vm0, locs, Y, N, eT, hS, hZ, hown, hE, hC, hU, hW⟩ := X
  have L' : (Jvm.Cond.lays C O n d).before a0 Z = true ∨ ((Jvm.Cond.laysFinal C O n d).before a0 Z = true ∧ own = O ∧ meth.name = "<init>") := by
    rcases L with L | ⟨L1, L2, L3⟩
    · exact Or.inl L
    · exact Or.inr ⟨L1, L2, by rw [cx.2.2.2.2.1]; exact L3⟩
  obtain ⟨T', h', Y', e', W, stp⟩ := putF Y cx.1 hZ hown w via eT F E L' wi hty hn hf (g := mkF m pc Ls (v :: .ref a :: st)) rfl rfl (hb cx.2.1 hd)
  exact (K T' h' (St.wrote cx Y' N e' hS hZ hown hE hC hU hW W ha) W (F.same W) (E.wr W)).step stp
theorem g_castore (X : St p l e R s m args below meth c own bytes maxL ret nm Z EL nw us bs T h cells slots) {a : Addr} {k : ClassId} {z j x : Int32} {vs : List Value} {dv : Value} (A : Arv Z h a k .char z vs dv) (i : Nat) (hj : j.toNatClampNeg = i) (hj0 : ¬ j < 0) (hz : j < z) (hi : i < vs.length) (w : Int32) (hw : nar .char x = w) (ha : a ∈ us)
    (hd : decode bytes pc = .ok (.castore, 1)) (pc' : Nat) (hp : pc + 1 = pc')
    (K : ∀ T' h', St p l e R s m args below meth c own bytes maxL ret nm Z EL nw us bs T' h' cells slots → Wr h h' a i (.int w) → Arv Z h' a k .char z (vs.set i (.int w)) dv → Goes p e below s Z EL nw Q kk nn (T'.setTop (mkF m pc' Ls st))) : Goes p e below s Z EL nw Q kk nn (T.setTop (mkF m pc Ls (.int x :: .int j :: .ref a :: st))) := by
  subst hp hj hw
  obtain ⟨cx, vm0, locs, Y, N, eT, hS, hZ, hown, hE, hC, hU, hW⟩ := X
  obtain ⟨cl, Ar, q1, Sz, q3, H, Gt⟩ := A
  obtain ⟨T', h', Y', e', W, stp⟩ := stC Y cx.1 hZ eT Ar (inb_of Sz ⟨hj0, hz⟩) (g := mkF m pc Ls (.int x :: .int j :: .ref a :: st)) rfl rfl (hb cx.2.1 hd)
  exact (K T' h' (St.wrote cx Y' N e' hS hZ hown hE hC hU hW W ha) W (Arv.set Ar q1 Sz q3 H Gt (fits_nar_char x) W _ rfl hi)).step stp
theorem g_bastore (X : St p l e R s m args below meth c own bytes maxL ret nm Z EL nw us bs T h cells slots) {a : Addr} {k : ClassId} {z j x : Int32} {vs : List Value} {dv : Value} (A : Arv Z h a k .byte z vs dv) (i : Nat) (hj : j.toNatClampNeg = i) (hj0 : ¬ j < 0) (hz : j < z) (hi : i < vs.length) (w : Int32) (hw : nar .byte x = w) (ha : a ∈ us)
    (hd : decode bytes pc = .ok (.bastore, 1)) (pc' : Nat) (hp : pc + 1 = pc')
    (K : ∀ T' h', St p l e R s m args below meth c own bytes maxL ret nm Z EL nw us bs T' h' cells slots → Wr h h' a i (.int w) → Arv Z h' a k .byte z (vs.set i (.int w)) dv → Goes p e below s Z EL nw Q kk nn (T'.setTop (mkF m pc' Ls st))) : Goes p e below s Z EL nw Q kk nn (T.setTop (mkF m pc Ls (.int x :: .int j :: .ref a :: st))) := by
  subst hp hj hw
  obtain ⟨cx, vm0, locs, Y, N, eT, hS, hZ, hown, hE, hC, hU, hW⟩ := X
  obtain ⟨cl, Ar, q1, Sz, q3, H, Gt⟩ := A
  obtain ⟨T', h', Y', e', W, stp⟩ := stB Y cx.1 hZ eT Ar (inb_of Sz ⟨hj0, hz⟩) (g := mkF m pc Ls (.int x :: .int j :: .ref a :: st)) rfl rfl (hb cx.2.1 hd)
  exact (K T' h' (St.wrote cx Y' N e' hS hZ hown hE hC hU hW W ha) W (Arv.set Ar q1 Sz q3 H Gt (fits_nar_byte x) W _ rfl hi)).step stp
theorem arrOf {vm0 : Vm} {cl : Cell} {ty : FieldType} (hZ : Z.Warmed39 vm0) (q : Z.isArrayOf cl ty) : (s.setVm vm0).isArrayOf cl ty := State.isArrayOf_alike (show Z.vm.Alike (s.setVm vm0).vm from hZ.alike) q
theorem g_arrlen (X : St p l e R s m args below meth c own bytes maxL ret nm Z EL nw us bs T h cells slots) {a : Addr} {k : ClassId} {ty : FieldType} {z : Int32} {vs : List Value} {dv : Value} (A : Arv Z h a k ty z vs dv) (hd : decode bytes pc = .ok (.arraylength, 1)) (pc' : Nat) (hp : pc + 1 = pc')
    (K : Goes p e below s Z EL nw Q kk nn (T.setTop (mkF m pc' Ls (.int z :: st)))) : Goes p e below s Z EL nw Q kk nn (T.setTop (mkF m pc Ls (.ref a :: st))) := by
  subst hp
  obtain ⟨cx, vm0, locs, Y, N, eT, hS, hZ, r⟩ := X
  obtain ⟨cl, Ar, q1, Sz, q3, H, Gt⟩ := A
  refine K.step fun t k => Y.arraylength cx.1 (cell := cl) (by rw [eT]; exact Ar.1) (arrOf hZ Ar.2.1) (g := mkF m pc Ls (.ref a :: st)) rfl rfl (hb cx.2.1 hd) t ?_
  rw [len_of Sz q3]; exact k
theorem g_caload (X : St p l e R s m args below meth c own bytes maxL ret nm Z EL nw us bs T h cells slots) {a : Addr} {k : ClassId} {z j : Int32} {vs : List Value} {dv : Value} (A : Arv Z h a k .char z vs dv) (hj0 : ¬ j < 0) (hz : j < z) (v : Value) (hv : vs.getD j.toNatClampNeg dv = v) (hd : decode bytes pc = .ok (.caload, 1)) (pc' : Nat) (hp : pc + 1 = pc')
    (K : Goes p e below s Z EL nw Q kk nn (T.setTop (mkF m pc' Ls (v :: st)))) : Goes p e below s Z EL nw Q kk nn (T.setTop (mkF m pc Ls (.int j :: .ref a :: st))) := by
  subst hp
  obtain ⟨cx, vm0, locs, Y, N, eT, hS, hZ, r⟩ := X
  obtain ⟨cl, Ar, q1, Sz, q3, H, Gt⟩ := A
  have hin := inb_of Sz ⟨hj0, hz⟩
  exact K.step fun t k => Y.caload cx.1 (cell := cl) (by rw [eT]; exact Ar.1) (arrOf hZ Ar.2.1) Ar.2.2 hin (H.at hin hv) (g := mkF m pc Ls (.int j :: .ref a :: st)) rfl rfl (hb cx.2.1 hd) t k
theorem g_baload (X : St p l e R s m args below meth c own bytes maxL ret nm Z EL nw us bs T h cells slots) {a : Addr} {k : ClassId} {z j : Int32} {vs : List Value} {dv : Value} (A : Arv Z h a k .byte z vs dv) (hj0 : ¬ j < 0) (hz : j < z) (v : Value) (hv : vs.getD j.toNatClampNeg dv = v) (hd : decode bytes pc = .ok (.baload, 1)) (pc' : Nat) (hp : pc + 1 = pc')
    (K : Goes p e below s Z EL nw Q kk nn (T.setTop (mkF m pc' Ls (v :: st)))) : Goes p e below s Z EL nw Q kk nn (T.setTop (mkF m pc Ls (.int j :: .ref a :: st))) := by
  subst hp
  obtain ⟨cx, vm0, locs, Y, N, eT, hS, hZ, r⟩ := X
  obtain ⟨cl, Ar, q1, Sz, q3, H, Gt⟩ := A
  have hin := inb_of Sz ⟨hj0, hz⟩
  exact K.step fun t k => Y.baloadBytes cx.1 (cell := cl) (by rw [eT]; exact Ar.1) (arrOf hZ Ar.2.1) Ar.2.2 hin (H.at hin hv) (g := mkF m pc Ls (.int j :: .ref a :: st)) rfl rfl (hb cx.2.1 hd) t k
theorem g_aaload (X : St p l e R s m args below meth c own bytes maxL ret nm Z EL nw us bs T h cells slots) {a : Addr} {k : ClassId} {ty : FieldType} {z j : Int32} {vs : List Value} {dv : Value} (A : Arv Z h a k ty z vs dv) (hty : ty.isReference = true) (hj0 : ¬ j < 0) (hz : j < z) (v : Value) (hv : vs.getD j.toNatClampNeg dv = v) (hd : decode bytes pc = .ok (.aaload, 1)) (pc' : Nat) (hp : pc + 1 = pc')
    (K : Goes p e below s Z EL nw Q kk nn (T.setTop (mkF m pc' Ls (v :: st)))) : Goes p e below s Z EL nw Q kk nn (T.setTop (mkF m pc Ls (.int j :: .ref a :: st))) := by
  subst hp
  obtain ⟨cx, vm0, locs, Y, N, eT, hS, hZ, r⟩ := X
  obtain ⟨cl, Ar, q1, Sz, q3, H, Gt⟩ := A
  have hin := inb_of Sz ⟨hj0, hz⟩
  exact K.step fun t k => Y.aaload cx.1 (cell := cl) (by rw [eT]; exact Ar.1) (arrOf hZ Ar.2.1) hty Ar.2.2 hin (H.at hin hv) (g := mkF m pc Ls (.int j :: .ref a :: st)) rfl rfl (hb cx.2.1 hd) t k
theorem g_aaloadA (X : St p l e R s m args below meth c own bytes maxL ret nm Z EL nw us bs T h cells slots) {a : Addr} {cl : Cell} {ty : FieldType} {j : Int32} (A : Arr Z h a cl ty) (hty : ty.isReference = true) (hin : ¬ (j < 0 ∨ cl.slots.size ≤ j.toNatClampNeg)) {v : Value} (hv : cl.slots[j.toNatClampNeg]? = some v) (hd : decode bytes pc = .ok (.aaload, 1)) (pc' : Nat) (hp : pc + 1 = pc')
    (K : Goes p e below s Z EL nw Q kk nn (T.setTop (mkF m pc' Ls (v :: st)))) : Goes p e below s Z EL nw Q kk nn (T.setTop (mkF m pc Ls (.int j :: .ref a :: st))) := by
  subst hp
  obtain ⟨cx, vm0, locs, Y, N, eT, hS, hZ, r⟩ := X
  exact K.step fun t k => Y.aaload cx.1 (cell := cl) (by rw [eT]; exact A.1) (arrOf hZ A.2.1) hty A.2.2 hin hv (g := mkF m pc Ls (.int j :: .ref a :: st)) rfl rfl (hb cx.2.1 hd) t k
/-- System.arraycopy between two arrays of one primitive kind -/
theorem g_arrcopy (X : St p l e R s m args below meth c own bytes maxL ret nm Z EL nw us bs T h cells slots) {ix : Nat} {a b : Addr} {k k' : ClassId} {ty : FieldType} {z z' sp dp nn0 : Int32} {vs vd : List Value} {dv dd : Value} (w1 : (Jvm.Cond.methodLink own ix Jvm.Stand.acN).before a0 Z = true) (w2 : (Jvm.Cond.native Jvm.Stand.acN).before a0 Z = true) (w3 : (Jvm.Cond.static Jvm.Stand.acN).before a0 Z = true) (w4 : (Jvm.Cond.initialized "java/lang/System").before a0 Z = true)
    (A : Arv Z h a k ty z vs dv) (B : Arv Z h b k' ty z' vd dd) (hty : refKind ty = false) (h1 : ¬ sp < 0) (h2 : ¬ dp < 0) (h3 : ¬ nn0 < 0) (h4 : sp.toNatClampNeg + nn0.toNatClampNeg ≤ z.toNatClampNeg) (h5 : dp.toNatClampNeg + nn0.toNatClampNeg ≤ z'.toNatClampNeg) (hl : dp.toNatClampNeg + nn0.toNatClampNeg ≤ vd.length)
    (vr : List Value) (hvr : vd.take dp.toNatClampNeg ++ ((List.range nn0.toNatClampNeg).map fun i => vs.getD (sp.toNatClampNeg + i) dv) ++ vd.drop (dp.toNatClampNeg + nn0.toNatClampNeg) = vr) (hb' : b ∈ us) (hsize : Ls.size = maxL) (hd : decode bytes pc = .ok (.invokestatic ix, 3))
    (hf : 1 ≤ R.frames) (W : Nat) (hW : (st.map fun v => v.category).sum ≤ W) (hlo : W + (nativeFrameWords "java/lang/System" "arraycopy" 5 + 11) ≤ R.locals) (pc' : Nat) (hp : pc + 3 = pc')
    (K : ∀ T' h', St p l e R s m args below meth c own bytes maxL ret nm Z EL nw us bs T' h' cells slots → Keep h h' [b] → Arv Z h' b k' ty z' vr dd → Goes p e below s Z EL nw Q kk nn (T'.setTop (mkF m pc' Ls st))) : Goes p e below s Z EL nw Q kk nn (T.setTop (mkF m pc Ls (.int nn0 :: .int dp :: .ref b :: .int sp :: .ref a :: st))) := by
  subst hp hvr
  obtain ⟨cx, vm0, locs, Y, N, eT, hS, hZ, hown, hE, hC, hU, hWn⟩ := X
  obtain ⟨u1, u2, u3⟩ := hU b hb'
  obtain ⟨T', h', L, Y', e', N', K', A', stp⟩ := cpA Y cx.1 hZ hown w1 w2 w3 w4 eT A B (Or.inl ⟨rfl, hty⟩) h1 h2 h3 h4 h5 rfl hl N u1 (g := mkF m pc Ls (.int nn0 :: .int dp :: .ref b :: .int sp :: .ref a :: st)) rfl (by rw [cx.2.2.1]; exact hsize) rfl (hb cx.2.1 hd) hf (W := W) (by show 2 * 0 + _ ≤ _; omega) hlo
  have hsf : ∀ x ∈ [b], Safe Z EL vm0 h x := fun x hx => by cases List.mem_singleton.mp hx; exact u3
  exact (K T' h' ⟨cx, vm0, L, Y', N', e', ⟨hS.1, hS.2.mono K'.1⟩, hZ, hown, ext_keep hE K' (fun x hx => by cases List.mem_singleton.mp hx; exact u1), hC.trans (CHr.keep K' hsf hC.1), fun x hx => ⟨(hU x hx).1, Nat.lt_of_lt_of_le (hU x hx).2.1 K'.1, Safe.keep K' hsf hC.1 (hU x hx).2.2⟩, hWn⟩ K' A').step stp
/-- Object's constructor -/
theorem g_initO (X : St p l e R s m args below meth c own bytes maxL ret nm Z EL nw us bs T h cells slots) {ix : Nat} {a : Addr} (w1 : (Jvm.Cond.methodLink own ix Lib.objectInit).before a0 Z = true) (w2 : (Jvm.Cond.instanceMethod Lib.objectInit).before a0 Z = true) (w3 : (Jvm.Cond.code Lib.objectInit ⟨#[0xb1]⟩ 1 none).before a0 Z = true) (hsize : Ls.size = maxL)
    (hd : decode bytes pc = .ok (.invokespecial ix, 3)) (hf : 1 ≤ R.frames) (W : Nat) (hW : (st.map fun v => v.category).sum ≤ W) (hl : W + 12 ≤ R.locals) (pc' : Nat) (hp : pc + 3 = pc')
    (K : ∀ T', St p l e R s m args below meth c own bytes maxL ret nm Z EL nw us bs T' h cells slots → Goes p e below s Z EL nw Q kk nn (T'.setTop (mkF m pc' Ls st))) : Goes p e below s Z EL nw Q kk nn (T.setTop (mkF m pc Ls (.ref a :: st))) := by
  subst hp
  obtain ⟨cx, vm0, locs, Y, N, eT, hS, hZ, hown, r⟩ := X
  obtain ⟨T', Y', e', stp⟩ := initO Y cx.1 hZ hown w1 w2 w3 eT (g := mkF m pc Ls (.ref a :: st)) rfl (by rw [cx.2.2.1]; exact hsize) rfl (hb cx.2.1 hd) hf (W := W) (by show 2 * 0 + _ ≤ _; omega) hl
  exact (K T' ⟨cx, vm0, locs, Y', N, e', hS, hZ, hown, r⟩).step stp
/-- an array's clone -/
theorem g_clone (X : St p l e R s m args below meth c own bytes maxL ret nm Z EL nw us bs T h cells slots) {ad : String} {ix : Nat} {a : Addr} {k : ClassId} {ty : FieldType} {z : Int32} {vs : List Value} {dv : Value}
    (w1 : (Jvm.Cond.methodLink own ix ⟨ad, "clone", "()Ljava/lang/Object;"⟩).before a0 Z = true) (w2 : (Jvm.Cond.sameMethod ad "java/lang/Object" "clone" "()Ljava/lang/Object;").before a0 Z = true) (w3 : (Jvm.Cond.native ⟨"java/lang/Object", "clone", "()Ljava/lang/Object;"⟩).before a0 Z = true)
    (w4 : (Jvm.Cond.instanceMethod ⟨"java/lang/Object", "clone", "()Ljava/lang/Object;"⟩).before a0 Z = true) (w5 : (Jvm.Cond.selects ad ⟨ad, "clone", "()Ljava/lang/Object;"⟩ ⟨"java/lang/Object", "clone", "()Ljava/lang/Object;"⟩).before a0 Z = true) (w6 : (Jvm.Cond.castable ad "java/lang/Cloneable").before a0 Z = true)
    (A : Arv Z h a k ty z vs dv) (E : Exa Z h a ad) (hsize : Ls.size = maxL) (hd : decode bytes pc = .ok (.invokevirtual ix, 3)) (hf : 1 ≤ R.frames) (W : Nat) (hW : (st.map fun v => v.category).sum ≤ W) (hl : W + 14 ≤ R.locals) (cap : Nat) (hcap : z.toNatClampNeg ≤ cap)
    {ck cs : Nat} (hck : cells + 1 = ck) (hcs : slots + cap = cs) (hc : ck ≤ R.cells) (hs : cs ≤ R.slots) (pc' : Nat) (hp : pc + 3 = pc')
    (K : ∀ a' T' h', a' = h.size → St p l e R s m args below meth c own bytes maxL ret nm Z EL nw (a' :: us) bs T' h' ck cs → Ext h h' → Arv Z h' a' k ty z vs dv → Exa Z h' a' ad → Goes p e below s Z EL nw Q kk nn (T'.setTop (mkF m pc' Ls (.ref a' :: st)))) : Goes p e below s Z EL nw Q kk nn (T.setTop (mkF m pc Ls (.ref a :: st))) := by
  subst hp hck hcs
  obtain ⟨cx, vm0, locs, Y, N, eT, hS, hZ, hown, hE, hC, hU, hWn⟩ := X
  obtain ⟨T', h', Y', e', Ex, A', E', stp⟩ := cloneH Y cx.1 hZ hown w1 w2 w3 w4 w5 w6 eT A.arh E (g := mkF m pc Ls (.ref a :: st)) rfl (by rw [cx.2.2.1]; exact hsize) rfl (hb cx.2.1 hd) hf (W := W) (by show 2 * 0 + _ ≤ _; omega) hl hcap hc hs
  obtain ⟨cl, q1, q2, q3, q4, q5, q6⟩ := A'
  refine (K h.size T' h' rfl ⟨cx, vm0, locs, Y', N, e', ⟨hS.1, hS.2.mono Ex.1⟩, hZ, hown, hE.trans Ex, hC.trans (CHr.ext Ex hC.1), ?_, hWn⟩ Ex ⟨cl, q1, q2, q3, q4, fun i hi => q5 i hi, fun i hi => q6 i hi⟩ E').step stp
  intro x hx
  rcases List.mem_cons.mp hx with rfl | hx
  · exact ⟨hE.1, E'.lt, Safe.ext Ex hC.1 (Safe.new (Nat.le_refl _))⟩
  · obtain ⟨q1, q2, q3⟩ := hU x hx
    exact ⟨q1, Nat.lt_of_lt_of_le q2 Ex.1, Safe.ext Ex hC.1 q3⟩
end HeapOps
section CallOps
variable {p : Program} {l : Launch} {e : Env} {R : Room} {s : State} {m : MethodId} {args : Array Value} {below : List Frame} {meth : Method} {c : Code}
  {own : String} {bytes : ByteArray} {maxL : Nat} {ret : Option FieldType} {nm : String} {Z : State} {EL : List (String × Nat)} {nw : Bool} {us : List Addr} {bs : List (String × Nat × Addr)}
  {T : State} {h : Heap} {cells slots : Nat} {Q : Option Value → Heap → Prop} {kk nn : Nat} {a0 : Array Value} {pc : Nat} {Ls : Array Slot} {st : List Value}

/-- who pays a call: the callee's contract -/
theorem backC {y : MethodName} {cb : ByteArray} {cm : Nat} {cr : Option FieldType} {rm : Room} {len W : Nat} {as' : Array Value} {us' : List Addr} {Qc : Option Value → Heap → Prop} {vm0 : Vm}
    (hM : Ctr l Z EL nw y cb cm cr rm as' h us' Qc) (hZ : Z.Warmed39 vm0) (wc : (Jvm.Cond.code y cb cm cr).before a0 Z = true) (wz : (Jvm.Cond.initialized y.cls).before a0 Z = true) (hf : rm.frames + 1 ≤ R.frames) (hl : W + (cm + 11) + rm.locals ≤ R.locals)
    {a1 : Array Value} (hEL : EW Z a1 EL) (hE : Ext Z.heap h) (H : CHv Z EL vm0 h) (hU : ∀ x ∈ us', Z.heap.size ≤ x ∧ x < h.size ∧ Safe Z EL vm0 h x) :
    BackS l R p e below (s.setVm vm0) args y len W (fun A a => a = as' ∧ A.U.heap = h ∧ A.cells + rm.cells ≤ R.cells ∧ A.slots + rm.slots ≤ R.slots)
      (fun A _ v B => ∃ L, Qc v B.U.heap ∧ Fr Z.heap.size L ∧ Ext Z.heap B.U.heap ∧ B.locs = A.locs ++ L ∧ B.cells = A.cells + rm.cells ∧ B.slots = A.slots + rm.slots ∧ CHr Z EL vm0 h B.U.vm B.U.heap ∧ (nw = true → (s.setVm vm0).WarmedH B.U.vm)) :=
  BackS.of_freeW (bytes := cb) (maxL := cm) (ret := cr)
    (E := fun _ first o t L k n => k = rm.cells ∧ n = rm.slots ∧ (∃ v, o = .returned v ∧ Qc v t.heap) ∧ Fr Z.heap.size L ∧ Ext Z.heap t.heap ∧ CHr Z EL first.vm first.heap t.vm t.heap ∧ (nw = true → first.WarmedH t.vm)) (hM []) hf hl
    (fun m meth c A a Y hp => have hU : Z.Warmed39 A.U.vm := wtrans (s := s.setVm vm0) hZ Y.warmed
      ⟨by show (Jvm.Cond.and _ .tt).before a A.U = true; rw [Jvm.Cond.before_and, mv hU wc]; rfl, mv hU wc, mv hU wz, hp.2.2.1, hp.2.2.2⟩)
    (fun m meth c A a g mk Y hp => ⟨hp.1, wtrans (s := s.setVm vm0) hZ Y.warmed, hp.2.1, hE, (CHv.at Y hZ hEL H).1, fun x hx => ⟨(hU x hx).1, (hU x hx).2.1, (CHv.at Y hZ hEL H).safe (hU x hx).2.1 (hU x hx).2.2⟩⟩) (fun _ _ _ _ _ _ _ _ _ => trivial)
    (fun _ _ _ _ ⟨v, L, h1, h2, h3, h4, h5, h6, h7⟩ => ⟨L, _, _, h6, rfl, rfl, ⟨v, h1, h2⟩, h3, h4, h5, h7⟩)
    (fun m meth c A a g mk v t L k n Y hp _ _ ⟨e1, e2, ⟨v', e3, e4⟩, e5, e6, e7, e8⟩ => by
      cases e3; subst e1 e2
      refine ⟨L, e4, e5, e6, rfl, rfl, rfl, (CHv.at Y hZ hEL H).trans ?_, fun q => State.WarmedH.trans (t := A.U) Y.warmed (e8 q)⟩
      rw [← hp.2.1]; exact e7)
/-- behind a call -/
theorem St.back {vm0 : Vm} {locs : List Loc} {B : Pt} {L : List Loc} {ck cs : Nat}
    (cx : p.tables.exec = Jvm.exec ∧ c.code = bytes ∧ c.maxLocals = maxL ∧ meth.sig.returnType = ret ∧ meth.name = nm ∧ meth.locks = false ∧ ∃ a0, EW Z a0 EL)
    (N : Fr Z.heap.size locs) (hS : s.Since vm0 h.size) (hZ : Z.Warmed39 vm0) (hown : vm0.findClass own = some m.cls) (hC : CHr Z EL s.vm s.heap vm0 h)
    (hU : ∀ x ∈ us, Z.heap.size ≤ x ∧ x < h.size ∧ Safe Z EL vm0 h x) (hW : (nw = true → s.WarmedH vm0) ∧ ∀ q ∈ bs, Lit (s.setVm vm0) q.1 q.2.1 q.2.2)
    (Y : Stand p l e R ((s.setVm vm0).setVm B.U.vm) m args below meth c B.U B.locs B.cells B.slots) (h2 : (s.setVm vm0).Since B.U.vm B.U.heap.size) (hg : h.size ≤ B.U.heap.size)
    (N' : Fr Z.heap.size L) (hE : Ext Z.heap B.U.heap) (l1 : B.locs = locs ++ L) (l2 : B.cells = ck) (l3 : B.slots = cs) (hC' : CHr Z EL vm0 h B.U.vm B.U.heap) (hW' : nw = true → (s.setVm vm0).WarmedH B.U.vm) :
    St p l e R s m args below meth c own bytes maxL ret nm Z EL nw us bs B.U B.U.heap ck cs := by
  subst l2 l3
  rw [l1] at Y
  exact ⟨cx, B.U.vm, locs ++ L, Y, N.app N', rfl, hS.trans h2 hg, State.Warmed39.trans hZ h2.1, (h2.1.alike.findClass _ _).trans hown, hE, hC.trans hC', fun x hx => ⟨(hU x hx).1, Nat.lt_of_lt_of_le (hU x hx).2.1 hg, hC'.safe (hU x hx).2.1 (hU x hx).2.2⟩, fun q => State.WarmedH.trans (t := s.setVm vm0) (hW.1 q) (hW' q), fun q hq => (hW.2 q hq).stays h2.1⟩
theorem g_callS (X : St p l e R s m args below meth c own bytes maxL ret nm Z EL nw us bs T h cells slots) {y : MethodName} {cb : ByteArray} {cm : Nat} {cr : Option FieldType} {rm : Room} {as' : Array Value} {us' : List Addr} {Qc : Option Value → Heap → Prop} {ix : Nat}
    (w1 : (Jvm.Cond.methodLink own ix y).before a0 Z = true) (w2 : (Jvm.Cond.static y).before a0 Z = true) (w3 : (Jvm.Cond.initialized y.cls).before a0 Z = true) (w4 : (Jvm.Cond.code y cb cm cr).before a0 Z = true)
    (hy : y.cls ≠ "java/lang/invoke/MethodHandle" ∧ y.cls ≠ "java/lang/invoke/VarHandle") (hM : Ctr l Z EL nw y cb cm cr rm as' h us' Qc) (hus : ∀ x ∈ us', x ∈ us)
    {argsL rest : List Value} {ps : List FieldType} {rt : Option FieldType} (hpd : parseMethodDescriptor y.desc = some ⟨ps, rt⟩) (hlen : argsL.length = ps.length) (has : argsL.toArray = as') (hst : st = argsL.reverse ++ rest) (hsize : Ls.size = maxL)
    (W : Nat) (hW : (rest.map fun v => v.category).sum ≤ W) (hf : rm.frames + 1 ≤ R.frames) (hl : W + (cm + 11) + rm.locals ≤ R.locals) {ck cs : Nat} (hck : cells + rm.cells = ck) (hcs : slots + rm.slots = cs) (hc : ck ≤ R.cells) (hs : cs ≤ R.slots)
    (hd : decode bytes pc = .ok (.invokestatic ix, 3)) (pc' : Nat) (hp : pc + 3 = pc')
    (K : ∀ v T' h', St p l e R s m args below meth c own bytes maxL ret nm Z EL nw us bs T' h' ck cs → Qc v h' → Goes p e below s Z EL nw Q kk nn (T'.setTop (mkF m pc' Ls (v.toList ++ rest)))) : Goes p e below s Z EL nw Q kk nn (T.setTop (mkF m pc Ls st)) := by
  subst hp hck hcs
  obtain ⟨cx, vm0, locs, Y, N, eT, hS, hZ, hown, hE, hC, hU, hWn⟩ := X
  obtain ⟨a1, hEL⟩ := cx.2.2.2.2.2.2
  have w4' := mvT (s := s.setVm vm0) (args := args) hZ w4
  obtain ⟨mk, hnamed⟩ := Jvm.Cond.code_named w4'
  obtain ⟨methM, cM, hmethM, -, -, -, -, -, -, hsigM⟩ := Jvm.Cond.code_spec hnamed w4'
  obtain ⟨v, vm₁, B, -, Y', h2, hg, ⟨L, q1, q2, q3, q4, q5, q6, q7, q8⟩, stp⟩ := Y.staticBackS cx.1 (own := own) (index := ix) (y := y) hown (mvT (s := s.setVm vm0) hZ w1) (mvT (s := s.setVm vm0) hZ w2) (mvT (s := s.setVm vm0) hZ w3) hnamed hmethM hsigM hy
    (backC (W := W) hM hZ w4 w3 hf hl hEL hE hC.1 fun x hx => hU x (hus x hx)) (g := mkF m pc Ls st) rfl (by rw [cx.2.2.1]; exact hsize) (Steps.refl _) (argsL := argsL) (rest := rest) (lenOf hpd hlen) hst (by show 2 * 0 + _ ≤ _; omega) (hb cx.2.1 hd)
    (fun _ _ => ⟨has, eT, hc, hs⟩)
  exact (K v B.U B.U.heap (St.back cx N hS hZ hown hC hU hWn Y' h2 (by rw [← eT]; exact hg) q2 q3 q4 q5 q6 q7 q8) q1).step fun t k => stp.trans k
theorem g_callI (X : St p l e R s m args below meth c own bytes maxL ret nm Z EL nw us bs T h cells slots) {y : MethodName} {cb : ByteArray} {cm : Nat} {rm : Room} {as' : Array Value} {us' : List Addr} {Qc : Option Value → Heap → Prop} {ix : Nat} (hy1 : y.name = "<init>")
    (w1 : (Jvm.Cond.methodLink own ix y).before a0 Z = true) (w2 : (Jvm.Cond.instanceMethod y).before a0 Z = true) (w3 : (Jvm.Cond.initialized y.cls).before a0 Z = true) (w4 : (Jvm.Cond.code y cb cm none).before a0 Z = true)
    (hy : y.cls ≠ "java/lang/invoke/MethodHandle" ∧ y.cls ≠ "java/lang/invoke/VarHandle") (hM : Ctr l Z EL nw y cb cm none rm as' h us' Qc) (hus : ∀ x ∈ us', x ∈ us)
    {a : Addr} {argsL rest : List Value} {ps : List FieldType} {rt : Option FieldType} (hpd : parseMethodDescriptor y.desc = some ⟨ps, rt⟩) (hlen : argsL.length = ps.length) (has : (.ref a :: argsL).toArray = as') (hst : st = argsL.reverse ++ .ref a :: rest) (hsize : Ls.size = maxL)
    (W : Nat) (hW : (rest.map fun v => v.category).sum ≤ W) (hf : rm.frames + 1 ≤ R.frames) (hl : W + (cm + 11) + rm.locals ≤ R.locals) {ck cs : Nat} (hck : cells + rm.cells = ck) (hcs : slots + rm.slots = cs) (hc : ck ≤ R.cells) (hs : cs ≤ R.slots)
    (hd : decode bytes pc = .ok (.invokespecial ix, 3)) (pc' : Nat) (hp : pc + 3 = pc')
    (K : ∀ v T' h', St p l e R s m args below meth c own bytes maxL ret nm Z EL nw us bs T' h' ck cs → Qc v h' → Goes p e below s Z EL nw Q kk nn (T'.setTop (mkF m pc' Ls (v.toList ++ rest)))) : Goes p e below s Z EL nw Q kk nn (T.setTop (mkF m pc Ls st)) := by
  subst hp hck hcs
  obtain ⟨cx, vm0, locs, Y, N, eT, hS, hZ, hown, hE, hC, hU, hWn⟩ := X
  obtain ⟨a1, hEL⟩ := cx.2.2.2.2.2.2
  obtain ⟨v, vm₁, B, -, Y', h2, hg, ⟨L, q1, q2, q3, q4, q5, q6, q7, q8⟩, stp⟩ := Y.specialBackS cx.1 (own := own) (index := ix) (y := y) hy1 hown (mvT (s := s.setVm vm0) hZ w1) (mvT (s := s.setVm vm0) hZ w2) (mvT (s := s.setVm vm0) hZ w4) hy
    (backC (W := W) hM hZ w4 w3 hf hl hEL hE hC.1 fun x hx => hU x (hus x hx)) (g := mkF m pc Ls st) rfl (by rw [cx.2.2.1]; exact hsize) (Steps.refl _) (a := a) (argsL := argsL) (rest := rest) (lenOf hpd hlen) hst (by show 2 * 0 + _ ≤ _; omega) (hb cx.2.1 hd)
    (fun _ _ => ⟨has, eT, hc, hs⟩)
  exact (K v B.U B.U.heap (St.back cx N hS hZ hown hC hU hWn Y' h2 (by rw [← eT]; exact hg) q2 q3 q4 q5 q6 q7 q8) q1).step fun t k => stp.trans k
theorem nfSel {C : String} {y : MethodName} (w : (Jvm.Cond.selects C y y).before a0 Z = true) : ∀ s' : State, Z.Warmed39 s'.vm → NotFace s' y := fun s' hZ => notFace_of_selects (args := #[]) (mvT (s := s') hZ w)
theorem g_callV (X : St p l e R s m args below meth c own bytes maxL ret nm Z EL nw us bs T h cells slots) {C : String} {y z : MethodName} {cb : ByteArray} {cm : Nat} {cr : Option FieldType} {rm : Room} {as' : Array Value} {us' : List Addr} {Qc : Option Value → Heap → Prop} {ix : Nat}
    (w1 : (Jvm.Cond.methodLink own ix y).before a0 Z = true) (w2 : (Jvm.Cond.declares y).before a0 Z = true) (w3 : (Jvm.Cond.selects C y z).before a0 Z = true) (w4 : (Jvm.Cond.instanceMethod z).before a0 Z = true) (w5 : (Jvm.Cond.initialized z.cls).before a0 Z = true) (w6 : (Jvm.Cond.code z cb cm cr).before a0 Z = true)
    (hnf : ∀ s' : State, Z.Warmed39 s'.vm → NotFace s' y) (hy : y.cls ≠ "java/lang/invoke/MethodHandle" ∧ y.cls ≠ "java/lang/invoke/VarHandle") {a : Addr} (Ex : Exa Z h a C) (hM : Ctr l Z EL nw z cb cm cr rm as' h us' Qc) (hus : ∀ x ∈ us', x ∈ us)
    {argsL rest : List Value} {ps : List FieldType} {rt : Option FieldType} (hpd : parseMethodDescriptor y.desc = some ⟨ps, rt⟩) (hlen : argsL.length = ps.length) (has : (.ref a :: argsL).toArray = as') (hst : st = argsL.reverse ++ .ref a :: rest) (hsize : Ls.size = maxL)
    (W : Nat) (hW : (rest.map fun v => v.category).sum ≤ W) (hf : rm.frames + 1 ≤ R.frames) (hl : W + (cm + 11) + rm.locals ≤ R.locals) {ck cs : Nat} (hck : cells + rm.cells = ck) (hcs : slots + rm.slots = cs) (hc : ck ≤ R.cells) (hs : cs ≤ R.slots)
    (hd : decode bytes pc = .ok (.invokevirtual ix, 3)) (pc' : Nat) (hp : pc + 3 = pc')
    (K : ∀ v T' h', St p l e R s m args below meth c own bytes maxL ret nm Z EL nw us bs T' h' ck cs → Qc v h' → Goes p e below s Z EL nw Q kk nn (T'.setTop (mkF m pc' Ls (v.toList ++ rest)))) : Goes p e below s Z EL nw Q kk nn (T.setTop (mkF m pc Ls st)) := by
  subst hp hck hcs
  obtain ⟨cx, vm0, locs, Y, N, eT, hS, hZ, hown, hE, hC, hU, hWn⟩ := X
  obtain ⟨a1, hEL⟩ := cx.2.2.2.2.2.2
  obtain ⟨cq, kq, qa, qb, qc⟩ := isOf (s := s.setVm vm0) hZ eT Ex
  obtain ⟨v, vm₁, B, -, Y', h2, hg, ⟨L, q1, q2, q3, q4, q5, q6, q7, q8⟩, stp⟩ := Y.virtualBackS cx.1 (own := own) (index := ix) (y := y) (z := z) hown (mvT (s := s.setVm vm0) hZ w1) (mvT (s := s.setVm vm0) hZ w2) (hnf (s.setVm vm0) hZ) (mvT (s := s.setVm vm0) hZ w3) (mvT (s := s.setVm vm0) hZ w4) hy
    (backC (W := W) hM hZ w6 w5 hf hl hEL hE hC.1 fun x hx => hU x (hus x hx)) qa qc (g := mkF m pc Ls st) rfl (by rw [cx.2.2.1]; exact hsize) (Steps.refl _) (argsL := argsL) (rest := rest) (lenOf hpd hlen) hst (by show 2 * 0 + _ ≤ _; omega) (hb cx.2.1 hd)
    (fun _ _ => ⟨has, eT, hc, hs⟩)
  exact (K v B.U B.U.heap (St.back cx N hS hZ hown hC hU hWn Y' h2 (by rw [← eT]; exact hg) q2 q3 q4 q5 q6 q7 q8) q1).step fun t k => stp.trans k
theorem g_callSp (X : St p l e R s m args below meth c own bytes maxL ret nm Z EL nw us bs T h cells slots) {y : MethodName} {cb : ByteArray} {cm : Nat} {cr : Option FieldType} {rm : Room} {as' : Array Value} {us' : List Addr} {Qv : Value → Prop} {ix : Nat}
    (w1 : (Jvm.Cond.methodLink own ix y).before a0 Z = true) (w2 : (Jvm.Cond.static y).before a0 Z = true) (w3 : (Jvm.Cond.initialized y.cls).before a0 Z = true) (w4 : (Jvm.Cond.code y cb cm cr).before a0 Z = true)
    (hy : y.cls ≠ "java/lang/invoke/MethodHandle" ∧ y.cls ≠ "java/lang/invoke/VarHandle") (hM : Ctr l Z EL nw y cb cm cr rm as' h us' (PureQ h Qv)) (hus : ∀ x ∈ us', x ∈ us)
    {argsL rest : List Value} {ps : List FieldType} {rt : Option FieldType} (hpd : parseMethodDescriptor y.desc = some ⟨ps, rt⟩) (hlen : argsL.length = ps.length) (has : argsL.toArray = as') (hst : st = argsL.reverse ++ rest) (hsize : Ls.size = maxL)
    (W : Nat) (hW : (rest.map fun v => v.category).sum ≤ W) (hf : rm.frames + 1 ≤ R.frames) (hl : W + (cm + 11) + rm.locals ≤ R.locals) {ck cs : Nat} (hck : cells + rm.cells = ck) (hcs : slots + rm.slots = cs) (hc : ck ≤ R.cells) (hs : cs ≤ R.slots)
    (hd : decode bytes pc = .ok (.invokestatic ix, 3)) (pc' : Nat) (hp : pc + 3 = pc')
    (K : ∀ w T', St p l e R s m args below meth c own bytes maxL ret nm Z EL nw us bs T' h ck cs → Qv w → Goes p e below s Z EL nw Q kk nn (T'.setTop (mkF m pc' Ls (w :: rest)))) : Goes p e below s Z EL nw Q kk nn (T.setTop (mkF m pc Ls st)) :=
  g_callS X w1 w2 w3 w4 hy hM hus hpd hlen has hst hsize W hW hf hl hck hcs hc hs hd pc' hp (by
    intro v T' h' X' hq
    obtain ⟨rfl, w, rfl, hw⟩ := hq
    exact K w T' X' hw)
theorem g_callSv (X : St p l e R s m args below meth c own bytes maxL ret nm Z EL nw us bs T h cells slots) {y : MethodName} {cb : ByteArray} {cm : Nat} {cr : Option FieldType} {rm : Room} {as' : Array Value} {us' : List Addr} {Qv : Value → Heap → Prop} {ix : Nat}
    (w1 : (Jvm.Cond.methodLink own ix y).before a0 Z = true) (w2 : (Jvm.Cond.static y).before a0 Z = true) (w3 : (Jvm.Cond.initialized y.cls).before a0 Z = true) (w4 : (Jvm.Cond.code y cb cm cr).before a0 Z = true)
    (hy : y.cls ≠ "java/lang/invoke/MethodHandle" ∧ y.cls ≠ "java/lang/invoke/VarHandle") (hM : Ctr l Z EL nw y cb cm cr rm as' h us' (ValQ Qv)) (hus : ∀ x ∈ us', x ∈ us)
    {argsL rest : List Value} {ps : List FieldType} {rt : Option FieldType} (hpd : parseMethodDescriptor y.desc = some ⟨ps, rt⟩) (hlen : argsL.length = ps.length) (has : argsL.toArray = as') (hst : st = argsL.reverse ++ rest) (hsize : Ls.size = maxL)
    (W : Nat) (hW : (rest.map fun v => v.category).sum ≤ W) (hf : rm.frames + 1 ≤ R.frames) (hl : W + (cm + 11) + rm.locals ≤ R.locals) {ck cs : Nat} (hck : cells + rm.cells = ck) (hcs : slots + rm.slots = cs) (hc : ck ≤ R.cells) (hs : cs ≤ R.slots)
    (hd : decode bytes pc = .ok (.invokestatic ix, 3)) (pc' : Nat) (hp : pc + 3 = pc')
    (K : ∀ w T' h', St p l e R s m args below meth c own bytes maxL ret nm Z EL nw us bs T' h' ck cs → Qv w h' → Goes p e below s Z EL nw Q kk nn (T'.setTop (mkF m pc' Ls (w :: rest)))) : Goes p e below s Z EL nw Q kk nn (T.setTop (mkF m pc Ls st)) :=
  g_callS X w1 w2 w3 w4 hy hM hus hpd hlen has hst hsize W hW hf hl hck hcs hc hs hd pc' hp (by
    intro v T' h' X' hq
    obtain ⟨w, rfl, hw⟩ := hq
    exact K w T' h' X' hw)
theorem g_callSn (X : St p l e R s m args below meth c own bytes maxL ret nm Z EL nw us bs T h cells slots) {y : MethodName} {cb : ByteArray} {cm : Nat} {cr : Option FieldType} {rm : Room} {as' : Array Value} {us' : List Addr} {Qn : Heap → Prop} {ix : Nat}
    (w1 : (Jvm.Cond.methodLink own ix y).before a0 Z = true) (w2 : (Jvm.Cond.static y).before a0 Z = true) (w3 : (Jvm.Cond.initialized y.cls).before a0 Z = true) (w4 : (Jvm.Cond.code y cb cm cr).before a0 Z = true)
    (hy : y.cls ≠ "java/lang/invoke/MethodHandle" ∧ y.cls ≠ "java/lang/invoke/VarHandle") (hM : Ctr l Z EL nw y cb cm cr rm as' h us' (VoidQ Qn)) (hus : ∀ x ∈ us', x ∈ us)
    {argsL rest : List Value} {ps : List FieldType} {rt : Option FieldType} (hpd : parseMethodDescriptor y.desc = some ⟨ps, rt⟩) (hlen : argsL.length = ps.length) (has : argsL.toArray = as') (hst : st = argsL.reverse ++ rest) (hsize : Ls.size = maxL)
    (W : Nat) (hW : (rest.map fun v => v.category).sum ≤ W) (hf : rm.frames + 1 ≤ R.frames) (hl : W + (cm + 11) + rm.locals ≤ R.locals) {ck cs : Nat} (hck : cells + rm.cells = ck) (hcs : slots + rm.slots = cs) (hc : ck ≤ R.cells) (hs : cs ≤ R.slots)
    (hd : decode bytes pc = .ok (.invokestatic ix, 3)) (pc' : Nat) (hp : pc + 3 = pc')
    (K : ∀ T' h', St p l e R s m args below meth c own bytes maxL ret nm Z EL nw us bs T' h' ck cs → Qn h' → Goes p e below s Z EL nw Q kk nn (T'.setTop (mkF m pc' Ls rest))) : Goes p e below s Z EL nw Q kk nn (T.setTop (mkF m pc Ls st)) :=
  g_callS X w1 w2 w3 w4 hy hM hus hpd hlen has hst hsize W hW hf hl hck hcs hc hs hd pc' hp (by
    intro v T' h' X' hq
    obtain ⟨rfl, hw⟩ := hq
    exact K T' h' X' hw)
theorem g_callIn (X : St p l e R s m args below meth c own bytes maxL ret nm Z EL nw us bs T h cells slots) {y : MethodName} {cb : ByteArray} {cm : Nat} {rm : Room} {as' : Array Value} {us' : List Addr} {Qn : Heap → Prop} {ix : Nat} (hy1 : y.name = "<init>")
    (w1 : (Jvm.Cond.methodLink own ix y).before a0 Z = true) (w2 : (Jvm.Cond.instanceMethod y).before a0 Z = true) (w3 : (Jvm.Cond.initialized y.cls).before a0 Z = true) (w4 : (Jvm.Cond.code y cb cm none).before a0 Z = true)
    (hy : y.cls ≠ "java/lang/invoke/MethodHandle" ∧ y.cls ≠ "java/lang/invoke/VarHandle") (hM : Ctr l Z EL nw y cb cm none rm as' h us' (VoidQ Qn)) (hus : ∀ x ∈ us', x ∈ us)
    {a : Addr} {argsL rest : List Value} {ps : List FieldType} {rt : Option FieldType} (hpd : parseMethodDescriptor y.desc = some ⟨ps, rt⟩) (hlen : argsL.length = ps.length) (has : (.ref a :: argsL).toArray = as') (hst : st = argsL.reverse ++ .ref a :: rest) (hsize : Ls.size = maxL)
    (W : Nat) (hW : (rest.map fun v => v.category).sum ≤ W) (hf : rm.frames + 1 ≤ R.frames) (hl : W + (cm + 11) + rm.locals ≤ R.locals) {ck cs : Nat} (hck : cells + rm.cells = ck) (hcs : slots + rm.slots = cs) (hc : ck ≤ R.cells) (hs : cs ≤ R.slots)
    (hd : decode bytes pc = .ok (.invokespecial ix, 3)) (pc' : Nat) (hp : pc + 3 = pc')
    (K : ∀ T' h', St p l e R s m args below meth c own bytes maxL ret nm Z EL nw us bs T' h' ck cs → Qn h' → Goes p e below s Z EL nw Q kk nn (T'.setTop (mkF m pc' Ls rest))) : Goes p e below s Z EL nw Q kk nn (T.setTop (mkF m pc Ls st)) :=
  g_callI X hy1 w1 w2 w3 w4 hy hM hus hpd hlen has hst hsize W hW hf hl hck hcs hc hs hd pc' hp (by
    intro v T' h' X' hq
    obtain ⟨rfl, hw⟩ := hq
    exact K T' h' X' hw)
theorem g_callVp (X : St p l e R s m args below meth c own bytes maxL ret nm Z EL nw us bs T h cells slots) {C : String} {y z : MethodName} {cb : ByteArray} {cm : Nat} {cr : Option FieldType} {rm : Room} {as' : Array Value} {us' : List Addr} {Qv : Value → Prop} {ix : Nat}
    (w1 : (Jvm.Cond.methodLink own ix y).before a0 Z = true) (w2 : (Jvm.Cond.declares y).before a0 Z = true) (w3 : (Jvm.Cond.selects C y z).before a0 Z = true) (w4 : (Jvm.Cond.instanceMethod z).before a0 Z = true) (w5 : (Jvm.Cond.initialized z.cls).before a0 Z = true) (w6 : (Jvm.Cond.code z cb cm cr).before a0 Z = true)
    (hnf : ∀ s' : State, Z.Warmed39 s'.vm → NotFace s' y) (hy : y.cls ≠ "java/lang/invoke/MethodHandle" ∧ y.cls ≠ "java/lang/invoke/VarHandle") {a : Addr} (Ex : Exa Z h a C) (hM : Ctr l Z EL nw z cb cm cr rm as' h us' (PureQ h Qv)) (hus : ∀ x ∈ us', x ∈ us)
    {argsL rest : List Value} {ps : List FieldType} {rt : Option FieldType} (hpd : parseMethodDescriptor y.desc = some ⟨ps, rt⟩) (hlen : argsL.length = ps.length) (has : (.ref a :: argsL).toArray = as') (hst : st = argsL.reverse ++ .ref a :: rest) (hsize : Ls.size = maxL)
    (W : Nat) (hW : (rest.map fun v => v.category).sum ≤ W) (hf : rm.frames + 1 ≤ R.frames) (hl : W + (cm + 11) + rm.locals ≤ R.locals) {ck cs : Nat} (hck : cells + rm.cells = ck) (hcs : slots + rm.slots = cs) (hc : ck ≤ R.cells) (hs : cs ≤ R.slots)
    (hd : decode bytes pc = .ok (.invokevirtual ix, 3)) (pc' : Nat) (hp : pc + 3 = pc')
    (K : ∀ w T', St p l e R s m args below meth c own bytes maxL ret nm Z EL nw us bs T' h ck cs → Qv w → Goes p e below s Z EL nw Q kk nn (T'.setTop (mkF m pc' Ls (w :: rest)))) : Goes p e below s Z EL nw Q kk nn (T.setTop (mkF m pc Ls st)) :=
  g_callV X w1 w2 w3 w4 w5 w6 hnf hy Ex hM hus hpd hlen has hst hsize W hW hf hl hck hcs hc hs hd pc' hp (by
    intro v T' h' X' hq
    obtain ⟨rfl, w, rfl, hw⟩ := hq
    exact K w T' X' hw)
theorem g_callVv (X : St p l e R s m args below meth c own bytes maxL ret nm Z EL nw us bs T h cells slots) {C : String} {y z : MethodName} {cb : ByteArray} {cm : Nat} {cr : Option FieldType} {rm : Room} {as' : Array Value} {us' : List Addr} {Qv : Value → Heap → Prop} {ix : Nat}
    (w1 : (Jvm.Cond.methodLink own ix y).before a0 Z = true) (w2 : (Jvm.Cond.declares y).before a0 Z = true) (w3 : (Jvm.Cond.selects C y z).before a0 Z = true) (w4 : (Jvm.Cond.instanceMethod z).before a0 Z = true) (w5 : (Jvm.Cond.initialized z.cls).before a0 Z = true) (w6 : (Jvm.Cond.code z cb cm cr).before a0 Z = true)
    (hnf : ∀ s' : State, Z.Warmed39 s'.vm → NotFace s' y) (hy : y.cls ≠ "java/lang/invoke/MethodHandle" ∧ y.cls ≠ "java/lang/invoke/VarHandle") {a : Addr} (Ex : Exa Z h a C) (hM : Ctr l Z EL nw z cb cm cr rm as' h us' (ValQ Qv)) (hus : ∀ x ∈ us', x ∈ us)
    {argsL rest : List Value} {ps : List FieldType} {rt : Option FieldType} (hpd : parseMethodDescriptor y.desc = some ⟨ps, rt⟩) (hlen : argsL.length = ps.length) (has : (.ref a :: argsL).toArray = as') (hst : st = argsL.reverse ++ .ref a :: rest) (hsize : Ls.size = maxL)
    (W : Nat) (hW : (rest.map fun v => v.category).sum ≤ W) (hf : rm.frames + 1 ≤ R.frames) (hl : W + (cm + 11) + rm.locals ≤ R.locals) {ck cs : Nat} (hck : cells + rm.cells = ck) (hcs : slots + rm.slots = cs) (hc : ck ≤ R.cells) (hs : cs ≤ R.slots)
    (hd : decode bytes pc = .ok (.invokevirtual ix, 3)) (pc' : Nat) (hp : pc + 3 = pc')
    (K : ∀ w T' h', St p l e R s m args below meth c own bytes maxL ret nm Z EL nw us bs T' h' ck cs → Qv w h' → Goes p e below s Z EL nw Q kk nn (T'.setTop (mkF m pc' Ls (w :: rest)))) : Goes p e below s Z EL nw Q kk nn (T.setTop (mkF m pc Ls st)) :=
  g_callV X w1 w2 w3 w4 w5 w6 hnf hy Ex hM hus hpd hlen has hst hsize W hW hf hl hck hcs hc hs hd pc' hp (by
    intro v T' h' X' hq
    obtain ⟨w, rfl, hw⟩ := hq
    exact K w T' h' X' hw)
theorem g_callVn (X : St p l e R s m args below meth c own bytes maxL ret nm Z EL nw us bs T h cells slots) {C : String} {y z : MethodName} {cb : ByteArray} {cm : Nat} {cr : Option FieldType} {rm : Room} {as' : Array Value} {us' : List Addr} {Qn : Heap → Prop} {ix : Nat}
    (w1 : (Jvm.Cond.methodLink own ix y).before a0 Z = true) (w2 : (Jvm.Cond.declares y).before a0 Z = true) (w3 : (Jvm.Cond.selects C y z).before a0 Z = true) (w4 : (Jvm.Cond.instanceMethod z).before a0 Z = true) (w5 : (Jvm.Cond.initialized z.cls).before a0 Z = true) (w6 : (Jvm.Cond.code z cb cm cr).before a0 Z = true)
    (hnf : ∀ s' : State, Z.Warmed39 s'.vm → NotFace s' y) (hy : y.cls ≠ "java/lang/invoke/MethodHandle" ∧ y.cls ≠ "java/lang/invoke/VarHandle") {a : Addr} (Ex : Exa Z h a C) (hM : Ctr l Z EL nw z cb cm cr rm as' h us' (VoidQ Qn)) (hus : ∀ x ∈ us', x ∈ us)
    {argsL rest : List Value} {ps : List FieldType} {rt : Option FieldType} (hpd : parseMethodDescriptor y.desc = some ⟨ps, rt⟩) (hlen : argsL.length = ps.length) (has : (.ref a :: argsL).toArray = as') (hst : st = argsL.reverse ++ .ref a :: rest) (hsize : Ls.size = maxL)
    (W : Nat) (hW : (rest.map fun v => v.category).sum ≤ W) (hf : rm.frames + 1 ≤ R.frames) (hl : W + (cm + 11) + rm.locals ≤ R.locals) {ck cs : Nat} (hck : cells + rm.cells = ck) (hcs : slots + rm.slots = cs) (hc : ck ≤ R.cells) (hs : cs ≤ R.slots)
    (hd : decode bytes pc = .ok (.invokevirtual ix, 3)) (pc' : Nat) (hp : pc + 3 = pc')
    (K : ∀ T' h', St p l e R s m args below meth c own bytes maxL ret nm Z EL nw us bs T' h' ck cs → Qn h' → Goes p e below s Z EL nw Q kk nn (T'.setTop (mkF m pc' Ls rest))) : Goes p e below s Z EL nw Q kk nn (T.setTop (mkF m pc Ls st)) :=
  g_callV X w1 w2 w3 w4 w5 w6 hnf hy Ex hM hus hpd hlen has hst hsize W hW hf hl hck hcs hc hs hd pc' hp (by
    intro v T' h' X' hq
    obtain ⟨rfl, hw⟩ := hq
    exact K T' h' X' hw)
end CallOps
end Jvm.OwnKit
namespace Jvm.OwnKit
open Sem ClassFile Op Lib Jvm.Stand Jvm.Free Jvm.LawKit Jvm.RoadKit
section StartFacts
variable {args : Array Value} {s : State} {t X F : Term} {a y : Addr}
theorem own_eqr (hF : F.eval args s none [] s = some (.ref y)) (h : (Jvm.Cond.eq X F).value args s none s [] = some true) : X.eval args s none [] s = some (.ref y) := by
  obtain ⟨x, y', e1, e2, k1, k2⟩ := cmp_v (Or.inl h)
  cases hF.symm.trans e2
  have hx : x.isRef = true := by cases x <;> simp_all [Jvm.Cond.value, Value.isRef]
  have q := gotT (eq_R e1 hF hx rfl) h
  rw [e1, q]
theorem own_fldI {C n d : String} {v : Int32} (ht : t.eval args s none [] s = some (.ref a)) (h : (Jvm.Cond.eq (.field t C n d) (.int v)).value args s none s [] = some true) : Fld s s.heap a C n d (.int v) := by
  have e := eqv_i (Term.int_eval v) h
  rw [fld_at ht] at e
  exact Fld.start e
theorem own_fld0 {C n d : String} (ht : t.eval args s none [] s = some (.ref a)) (h : (Jvm.Cond.eq (.field t C n d) .null).value args s none s [] = some true) : Fld s s.heap a C n d .null := by
  have e := null_v h
  rw [fld_at ht] at e
  exact Fld.start e
theorem own_fldR {C n d : String} {F : Term} (ht : t.eval args s none [] s = some (.ref a)) (hF : F.eval args s none [] s = some (.ref y)) (h : (Jvm.Cond.eq (.field t C n d) F).value args s none s [] = some true) : Fld s s.heap a C n d (.ref y) := by
  have e := own_eqr hF h
  rw [fld_at ht] at e
  exact Fld.start e
theorem own_len {cl : Cell} {ty : FieldType} {z : Int32} (A : Arr s s.heap a cl ty) (ht : t.eval args s none [] s = some (.ref a)) (h : (Jvm.Cond.eq (.length t) (.int z)).value args s none s [] = some true) : cl.slots.size < 2 ^ 31 ∧ cl.slots.size.toInt32 = z := by
  have e := eqv_i (Term.int_eval z) h
  have ha := Arr.fin (U := s) (Vm.Alike.refl _) A
  have e2 : (Term.length t).eval args s none [] s = if cl.slots.size < 2 ^ 31 then some (.int cl.slots.size.toInt32) else none := by simp [Term.eval, ht, ha]
  rw [e2] at e
  by_cases q : cl.slots.size < 2 ^ 31
  · rw [if_pos q] at e
    exact ⟨q, Value.int.inj (Option.some.inj e)⟩
  · rw [if_neg q] at e; cases e
theorem own_elem {cl : Cell} {ty : FieldType} {j : Int32} {F : Term} (A : Arr s s.heap a cl ty) (ht : t.eval args s none [] s = some (.ref a)) (hF : F.eval args s none [] s = some (.ref y)) (h : (Jvm.Cond.eq (.elem t (.int j)) F).value args s none s [] = some true) : cl.slots[j.toNatClampNeg]? = some (.ref y) :=
  (elem_in (own_eqr hF h) ht (Term.int_eval j) A.1).2
end StartFacts
end Jvm.OwnKit
namespace Jvm.OwnKit
open Sem ClassFile Op Lib Jvm.Stand Jvm.Free Jvm.LawKit Jvm.RoadKit
/-- a String of the signs cs (each 0 to 255), apart from what is under construction -/
def Str (Z : State) (h : Heap) (us : List Addr) (a : Addr) (cs : List Int32) : Prop :=
  ∃ (t : Addr) (kb : ClassId), Exa Z h a "java/lang/String" ∧ Fld Z h a "java/lang/String" "coder" "B" (.int 0) ∧ Fld Z h a "java/lang/String" "value" "[B" (.ref t) ∧
    Arv Z h t kb .byte (Int32.ofNat cs.length) ((cs.map fun c => c.toInt8.toInt32).map Value.int) (.int 0) ∧ (∀ c ∈ cs, ¬ c < 0 ∧ ¬ (255 : Int32) < c) ∧ cs.length ≤ 4000 ∧ ∀ x ∈ us, x ≠ a ∧ x ≠ t
section StrFacts
variable {Z : State} {h h' : Heap} {us us' ws : List Addr} {a b : Addr} {cs : List Int32} {sl : Nat} {v : Value}
theorem Str.ext (F : Str Z h us a cs) (E : Ext h h') : Str Z h' us a cs := by
  obtain ⟨t, kb, h1, h2, h3, h4, h5, h6, h7⟩ := F
  exact ⟨t, kb, h1.ext E, h2.ext E, h3.ext E, h4.ext E, h5, h6, h7⟩
theorem Str.keep (F : Str Z h us a cs) (K : Keep h h' ws) (q : ∀ x ∈ ws, x ∈ us) : Str Z h' us a cs := by
  obtain ⟨t, kb, h1, h2, h3, h4, h5, h6, h7⟩ := F
  have na : a ∉ ws := fun r => (h7 a (q a r)).1 rfl
  have nt : t ∉ ws := fun r => (h7 t (q t r)).2 rfl
  exact ⟨t, kb, h1.keep K, h2.keep K na, h3.keep K na, h4.keep K nt, h5, h6, h7⟩
theorem Str.wr (F : Str Z h us a cs) (W : Wr h h' b sl v) (q : b ∈ us) : Str Z h' us a cs := F.keep (Keep.of_wr W) (fun x hx => by cases List.mem_singleton.mp hx; exact q)
theorem Str.sub (F : Str Z h us a cs) (q : ∀ x ∈ us', x ∈ us) : Str Z h us' a cs := by
  obtain ⟨t, kb, h1, h2, h3, h4, h5, h6, h7⟩ := F
  exact ⟨t, kb, h1, h2, h3, h4, h5, h6, fun x hx => h7 x (q x hx)⟩
theorem Str.grow (F : Str Z h us a cs) (E : Ext h h') (q : b = h.size) : Str Z h' (b :: us) a cs := by
  obtain ⟨t, kb, h1, h2, h3, h4, h5, h6, h7⟩ := F
  refine ⟨t, kb, h1.ext E, h2.ext E, h3.ext E, h4.ext E, h5, h6, fun x hx => ?_⟩
  rcases List.mem_cons.mp hx with rfl | hx
  · subst q; exact ⟨Nat.ne_of_gt h1.lt, Nat.ne_of_gt h4.lt⟩
  · exact h7 x hx
theorem Str.exa (F : Str Z h us a cs) : Exa Z h a "java/lang/String" := by obtain ⟨t, kb, h1, -⟩ := F; exact h1
theorem Str.lt (F : Str Z h us a cs) : a < h.size := F.exa.lt
theorem Str.ne (F : Str Z h us a cs) {x : Addr} (q : x ∈ us) : x ≠ a := by obtain ⟨t, kb, h1, h2, h3, h4, h5, h6, h7⟩ := F; exact (h7 x q).1
theorem str_of {h0 : Heap} (q : ∃ (t : Addr) (kb : ClassId), Exa Z h' a "java/lang/String" ∧ Fld Z h' a "java/lang/String" "coder" "B" (.int 0) ∧ Fld Z h' a "java/lang/String" "value" "[B" (.ref t) ∧ Arv Z h' t kb .byte (Int32.ofNat cs.length) ((cs.map fun c => c.toInt8.toInt32).map Value.int) (.int 0) ∧ (∀ c ∈ cs, ¬ c < 0 ∧ ¬ (255 : Int32) < c) ∧ cs.length ≤ 4000 ∧ h.size ≤ t)
    (hx : ∀ x ∈ us, x < h0.size) (h1 : h0.size ≤ a) (h2 : h0.size ≤ h.size) : Str Z h' us a cs := by
  obtain ⟨t, kb, e1, e2, e3, e4, e5, e6, e7⟩ := q
  exact ⟨t, kb, e1, e2, e3, e4, e5, e6, fun x q => ⟨Nat.ne_of_lt (Nat.lt_of_lt_of_le (hx x q) h1), Nat.ne_of_lt (Nat.lt_of_lt_of_le (hx x q) (Nat.le_trans h2 e7))⟩⟩
theorem and255 (x : Int32) : ¬ (x &&& 255) < 0 ∧ ¬ (255 : Int32) < (x &&& 255) := by
  have h := c_and x 255 (by decide)
  rw [Int32.lt_iff_toInt_lt, Int32.lt_iff_toInt_lt]
  have h2 : (255 : Int32).toInt = 255 := by decide
  have h3 : (0 : Int32).toInt = 0 := by decide
  omega
theorem nar255 {c : Int32} (h : ¬ c < 0 ∧ ¬ (255 : Int32) < c) : nar .char c = c := by
  obtain ⟨h1, h2⟩ := h
  have q := c_i2c c
  rw [Int32.lt_iff_toInt_lt] at h1 h2
  have e2 : (255 : Int32).toInt = 255 := by decide
  have e3 : (0 : Int32).toInt = 0 := by decide
  have : c.toUInt32.toUInt16.toUInt32.toInt32.toInt = c.toInt := by omega
  exact Int32.toInt_inj.mp this
/-- made since the heap h0: apart from whatever stood there -/
def StrN (Z : State) (h0 h : Heap) (a : Addr) (cs : List Int32) : Prop :=
  ∃ (t : Addr) (kb : ClassId), Exa Z h a "java/lang/String" ∧ Fld Z h a "java/lang/String" "coder" "B" (.int 0) ∧ Fld Z h a "java/lang/String" "value" "[B" (.ref t) ∧
    Arv Z h t kb .byte (Int32.ofNat cs.length) ((cs.map fun c => c.toInt8.toInt32).map Value.int) (.int 0) ∧ (∀ c ∈ cs, ¬ c < 0 ∧ ¬ (255 : Int32) < c) ∧ cs.length ≤ 4000 ∧ h0.size ≤ a ∧ h0.size ≤ t
theorem StrN.str {h0 : Heap} (F : StrN Z h0 h a cs) (q : ∀ x ∈ us, x < h0.size) : Str Z h us a cs := by
  obtain ⟨t, kb, h1, h2, h3, h4, h5, h6, h7, h8⟩ := F
  exact ⟨t, kb, h1, h2, h3, h4, h5, h6, fun x hx => ⟨Nat.ne_of_lt (Nat.lt_of_lt_of_le (q x hx) h7), Nat.ne_of_lt (Nat.lt_of_lt_of_le (q x hx) h8)⟩⟩
end StrFacts
section StrOps
variable {p : Program} {l : Launch} {e : Env} {R : Room} {s : State} {m : MethodId} {args : Array Value} {below : List Frame} {meth : Method} {c : Code}
  {own : String} {bytes : ByteArray} {maxL : Nat} {ret : Option FieldType} {nm : String} {Z : State} {EL : List (String × Nat)} {nw : Bool} {us : List Addr} {bs : List (String × Nat × Addr)}
  {T : State} {h : Heap} {cells slots : Nat} {Q : Option Value → Heap → Prop} {kk nn : Nat} {a0 : Array Value} {pc : Nat} {Ls : Array Slot} {st : List Value}

theorem St.news (X : St p l e R s m args below meth c own bytes maxL ret nm Z EL nw us bs T h cells slots) : ∀ x ∈ us, x < h.size := fun x hx => (X.new hx).2
theorem lt_ofNat {n : Nat} (q : n ≤ 4000) : ¬ (Int32.ofNat n) < 0 ∧ (Int32.ofNat n).toNatClampNeg = n := by
  have h1 : (Int32.ofNat n).toInt = n := by rw [Int32.toInt_ofNat_of_lt]; omega
  exact ⟨by rw [Int32.lt_iff_toInt_lt, h1]; simp, by simp [Int32.toNatClampNeg, h1]⟩
/-- ldc of a String constant -/
theorem g_ldcS (X : St p l e R s m args below meth c own bytes maxL ret nm Z EL nw us bs T h cells slots) {ix : Nat} {text : String} {cs : List Int32} (hnw : nw = false) (w : (Jvm.Cond.stringLink own ix text).before a0 Z = true) (wS : ∀ a ∈ Bundle.stringAtoms, a.before a0 Z = true) (hmem : (own, ix) ∈ EL)
    (ht : (∀ c ∈ text.toList, c.toNat < 256) ∧ text.toList.map (fun c => Value.int (Jvm.Lit.byteI c.toNat.toUInt16)) = (cs.map fun c => c.toInt8.toInt32).map Value.int) (hcs : ∀ c ∈ cs, ¬ c < 0 ∧ ¬ (255 : Int32) < c) (hlen : cs.length ≤ 4000)
    (hd : decode bytes pc = .ok (.ldc ix, 2)) (n : Nat) (hn : 4 * text.toList.length ≤ n) (hbig : n ≤ 536870912) {ck cs' : Nat} (hck : cells + 2 = ck) (hcs' : slots + (n + 4) = cs') (hc : ck ≤ R.cells) (hl : cs' ≤ R.slots) (pc' : Nat) (hp : pc + 2 = pc')
    (K : ∀ a T' h', St p l e R s m args below meth c own bytes maxL ret nm Z EL nw us ((own, ix, a) :: bs) T' h' ck cs' → Ext h h' → Str Z h' us a cs → Goes p e below s Z EL nw Q kk nn (T'.setTop (mkF m pc' Ls (.ref a :: st)))) : Goes p e below s Z EL nw Q kk nn (T.setTop (mkF m pc Ls st)) := by
  subst hp hck hcs'
  obtain ⟨cx, vm0, locs, Y, N, eT, hS, hZ, hown, hE, hC, hU, hW⟩ := X
  obtain ⟨a1, hEL⟩ := cx.2.2.2.2.2.2
  have hl32 : ¬ (Int32.ofNat cs.length) < 0 ∧ (Int32.ofNat cs.length).toNatClampNeg = ((cs.map fun c => c.toInt8.toInt32).map Value.int).length := by
    have := lt_ofNat hlen; simpa using this
  obtain ⟨a, T', h', k1, b, k, Y', e', E, hS2, hk1, hZ', hown', q1, q2, q3, q4, q5, q6, hC', hLit, hsafe, stp⟩ := ldcCH (s := s.setVm vm0) Y cx.1 hZ hown w wS eT ((State.WarmedH.refl (s.setVm vm0)).since h.size) (Nat.le_refl _) hEL hmem hC.1 ht hl32.1 hl32.2 (g := mkF m pc Ls st) rfl (hb cx.2.1 hd) hn hbig hc hl
  have hU' : ∀ x ∈ us, Z.heap.size ≤ x ∧ x < h'.size ∧ Safe Z EL T'.vm h' x := fun x hx => ⟨(hU x hx).1, Nat.lt_of_lt_of_le (hU x hx).2.1 E.1, hC'.safe (hU x hx).2.1 (hU x hx).2.2⟩
  have hS3 : s.Since T'.vm h'.size := hS.trans ⟨hS2.1, hS2.2.mono hk1⟩ E.1
  have hB : ∀ q ∈ (own, ix, a) :: bs, Lit (s.setVm T'.vm) q.1 q.2.1 q.2.2 := fun q hq => by
    rcases List.mem_cons.mp hq with rfl | hq
    · exact hLit
    · exact (hW.2 q hq).stays hS2.1
  exact (K a T' h' ⟨cx, T'.vm, locs, Y', N, e', hS3, hZ', hown', hE.trans E, hC.trans hC', hU', (fun q => by rw [hnw] at q; cases q), hB⟩ E ⟨b, k, q1, q2, q3, q4, hcs, hlen, fun x hx => hsafe x (hU' x hx).2.2⟩).step stp
/-- ldc of a String constant that this walk has loaded -/
theorem g_ldcA (X : St p l e R s m args below meth c own bytes maxL ret nm Z EL nw us bs T h cells slots) {ix : Nat} {text : String} {a : Addr} (w : (Jvm.Cond.stringLink own ix text).before a0 Z = true) (hm : (own, ix, a) ∈ bs) (hd : decode bytes pc = .ok (.ldc ix, 2)) (pc' : Nat) (hp : pc + 2 = pc')
    (K : Goes p e below s Z EL nw Q kk nn (T.setTop (mkF m pc' Ls (.ref a :: st)))) : Goes p e below s Z EL nw Q kk nn (T.setTop (mkF m pc Ls st)) := by
  subst hp
  obtain ⟨cx, vm0, locs, Y, N, eT, hS, hZ, hown, hE, hC, hU, hW⟩ := X
  exact K.step (ldcAgain Y cx.1 hZ hown w (hW.2 _ hm) (g := mkF m pc Ls st) rfl (hb cx.2.1 hd))
end StrOps
end Jvm.OwnKit
namespace Jvm.OwnKit
open Sem ClassFile Op Lib Jvm.Stand Jvm.Free Jvm.LawKit Jvm.RoadKit
section Bytes
abbrev lo (c : Int32) : Int32 := c.toInt8.toInt32
abbrev bys (cs : List Int32) : List Value := (cs.map fun c => c.toInt8.toInt32).map Value.int
theorem i0 : (0 : Int32).toInt = 0 := by decide
theorem i255 : (255 : Int32).toInt = 255 := by decide
theorem lo_mask {c : Int32} (h : ¬ c < 0 ∧ ¬ (255 : Int32) < c) : lo c &&& 255 = c := by
  obtain ⟨h1, h2⟩ := h
  rw [Int32.lt_iff_toInt_lt, i0] at h1
  rw [Int32.lt_iff_toInt_lt, i255] at h2
  have q := c_i2b c
  have r := c_mask (lo c) 255 8 (by decide) (by decide)
  apply Int32.toInt_inj.mp
  rw [r]
  have e : ((2 ^ 8 : Nat) : Int) = 256 := by decide
  rw [e]; simp only [lo]; omega
theorem lo_inj {c d : Int32} (h : ¬ c < 0 ∧ ¬ (255 : Int32) < c) (h' : ¬ d < 0 ∧ ¬ (255 : Int32) < d) (e : lo c = lo d) : c = d := by rw [← lo_mask h, ← lo_mask h', e]
theorem of_toInt {n : Nat} (h : n ≤ 4000) : (Int32.ofNat n).toInt = n := by rw [Int32.toInt_ofNat_of_lt]; omega
theorem of_nat {n : Nat} (h : n ≤ 4000) : (Int32.ofNat n).toNatClampNeg = n := by simp [Int32.toNatClampNeg, of_toInt h]
theorem of_nn {n : Nat} (h : n ≤ 4000) : ¬ Int32.ofNat n < 0 := by rw [Int32.lt_iff_toInt_lt, of_toInt h, i0]; omega
theorem of_lt {i n : Nat} (h : i < n) (hn : n ≤ 4000) : Int32.ofNat i < Int32.ofNat n := by rw [Int32.lt_iff_toInt_lt, of_toInt hn, of_toInt (by omega)]; omega
theorem of_le {i n : Nat} (h : n ≤ i) (hn : i ≤ 4000) : ¬ Int32.ofNat i < Int32.ofNat n := by rw [Int32.lt_iff_toInt_lt, of_toInt hn, of_toInt (by omega)]; omega
theorem of_succ (i : Nat) : Int32.ofNat i + 1 = Int32.ofNat (i + 1) := by simp [Int32.ofNat_add]
theorem of_eq {i n : Nat} (hi : i ≤ 4000) (hn : n ≤ 4000) (e : Int32.ofNat i = Int32.ofNat n) : i = n := by
  have := congrArg Int32.toInt e; rw [of_toInt hi, of_toInt hn] at this; omega
theorem bys_at (cs : List Int32) (i : Nat) (h : i ≤ 4000) : (bys cs).getD (Int32.ofNat i).toNatClampNeg (.int 0) = .int (lo (cs.getD i 0)) := by
  rw [of_nat h]
  by_cases q : i < cs.length
  · simp [List.getD, q]
  · have e : cs.getD i 0 = 0 := by simp [List.getD, q]
    rw [e]
    simp [List.getD, q]
    decide
theorem shr0 (x : Int32) : x >>> ((0 : Int32) &&& 31) = x := by
  apply Int32.toInt_inj.mp
  rw [c_ishr x 0 0 (by decide)]
  simp
theorem take_eq {cs ds : List Int32} (hl : cs.length = ds.length) (h : cs.take cs.length = ds.take cs.length) : cs = ds := by
  rw [List.take_length] at h; rw [hl, List.take_length] at h; exact h
theorem take_more {cs ds : List Int32} {i : Nat} (hi : i < cs.length) (hj : i < ds.length) (h : cs.take i = ds.take i) (e : cs.getD i 0 = ds.getD i 0) : cs.take (i + 1) = ds.take (i + 1) := by
  simp only [List.getD, List.getElem?_eq_getElem hi, List.getElem?_eq_getElem hj, Option.getD_some] at e
  rw [List.take_succ_eq_append_getElem hi, List.take_succ_eq_append_getElem hj, h, e]
theorem mem_at {cs : List Int32} {i : Nat} (hi : i < cs.length) : cs.getD i 0 ∈ cs := by
  simp [List.getD, List.getElem?_eq_getElem hi]
theorem str_inj {Z : State} {h : Heap} {us us' : List Addr} {a b : Addr} {cs ds : List Int32} (F : Str Z h us a cs) (G : Str Z h us' b ds) (q : a = b) : cs = ds := by
  subst q
  obtain ⟨t, kb, -, -, f3, f4, f5, f6, -⟩ := F
  obtain ⟨u, kb', -, -, g3, g4, g5, g6, -⟩ := G
  have e : t = u := Classical.byContradiction fun n => (Fld.ne f3 g3 (fun r => n (Value.ref.inj r))) rfl
  subst e
  have hl : cs.length = ds.length := Classical.byContradiction fun n => (arv_ne f4 g4 (Or.inl (by rw [of_nat f6, of_nat g6]; exact n))) rfl
  refine List.ext_getElem hl fun i hi hj => ?_
  have e2 : (bys cs).getD i (.int 0) = (bys ds).getD i (.int 0) := Classical.byContradiction fun n => (arv_ne f4 g4 (Or.inr ⟨i, by rw [of_nat f6]; exact hi, n⟩)) rfl
  simp [List.getD, hi, hj] at e2
  exact lo_inj (f5 _ (List.getElem_mem hi)) (g5 _ (List.getElem_mem hj)) e2
end Bytes
end Jvm.OwnKit
namespace Jvm.OwnKit
open Sem ClassFile Op Lib Jvm.Stand Jvm.Free Jvm.LawKit Jvm.RoadKit Bundle
variable {p : Program} {l : Launch} {e : Env} {R : Room} {s : State} {m : MethodId} {args : Array Value} {below : List Frame} {meth : Method} {c : Code}
  {own : String} {bytes : ByteArray} {maxL : Nat} {ret : Option FieldType} {nm : String} {Z : State} {EL : List (String × Nat)} {nw : Bool} {us : List Addr} {bs : List (String × Nat × Addr)}
  {T : State} {h : Heap} {cells slots : Nat} {Q : Option Value → Heap → Prop} {kk nn : Nat} {a0 : Array Value} {pc : Nat} {Ls : Array Slot} {st : List Value}

/-- 'invokeinterface' by a contract -/
theorem g_callF (X : St p l e R s m args below meth c own bytes maxL ret nm Z EL nw us bs T h cells slots) {C : String} {y z : MethodName} {cb : ByteArray} {cm : Nat} {cr : Option FieldType} {rm : Room} {as' : Array Value} {us' : List Addr} {Qc : Option Value → Heap → Prop} {ix ct : Nat}
    (w1 : (Jvm.Cond.methodLink own ix y).before a0 Z = true) (w2 : (Jvm.Cond.declares y).before a0 Z = true) (w2f : (Jvm.Cond.interfaceMethod y.cls y.cls y.name y.desc).before a0 Z = true) (w3 : (Jvm.Cond.selects C y z).before a0 Z = true) (w4 : (Jvm.Cond.instanceMethod z).before a0 Z = true)
    (w4p : (Jvm.Cond.publicMethod z).before a0 Z = true) (w4u : (Jvm.Cond.unhidden C y.name y.desc).before a0 Z = true) (w4c : (Jvm.Cond.castable C y.cls).before a0 Z = true) (w5 : (Jvm.Cond.initialized z.cls).before a0 Z = true) (w6 : (Jvm.Cond.code z cb cm cr).before a0 Z = true)
    (hy : y.cls ≠ "java/lang/invoke/MethodHandle" ∧ y.cls ≠ "java/lang/invoke/VarHandle") {a : Addr} (Ex : Exa Z h a C) (hM : Ctr l Z EL nw z cb cm cr rm as' h us' Qc) (hus : ∀ x ∈ us', x ∈ us)
    {argsL rest : List Value} {ps : List FieldType} {rt : Option FieldType} (hpd : parseMethodDescriptor y.desc = some ⟨ps, rt⟩) (hlen : argsL.length = ps.length) (has : (.ref a :: argsL).toArray = as') (hst : st = argsL.reverse ++ .ref a :: rest) (hsize : Ls.size = maxL)
    (W : Nat) (hW : (rest.map fun v => v.category).sum ≤ W) (hf : rm.frames + 1 ≤ R.frames) (hl : W + (cm + 11) + rm.locals ≤ R.locals) {ck cs : Nat} (hck : cells + rm.cells = ck) (hcs : slots + rm.slots = cs) (hc : ck ≤ R.cells) (hs : cs ≤ R.slots)
    (hd : decode bytes pc = .ok (.invokeinterface ix ct, 5)) (pc' : Nat) (hp : pc + 5 = pc')
    (K : ∀ v T' h', St p l e R s m args below meth c own bytes maxL ret nm Z EL nw us bs T' h' ck cs → Qc v h' → Goes p e below s Z EL nw Q kk nn (T'.setTop (mkF m pc' Ls (v.toList ++ rest)))) : Goes p e below s Z EL nw Q kk nn (T.setTop (mkF m pc Ls st)) := by
  subst hp hck hcs
  obtain ⟨cx, vm0, locs, Y, N, eT, hS, hZ, hown, hE, hC, hU, hWn⟩ := X
  obtain ⟨a1, hEL⟩ := cx.2.2.2.2.2.2
  obtain ⟨cq, kq, qa, qb, qc⟩ := isOf (s := s.setVm vm0) hZ eT Ex
  obtain ⟨v, vm₁, B, -, Y', h2, hg, ⟨L, q1, q2, q3, q4, q5, q6, q7, q8⟩, stp⟩ := Y.interfaceBackS cx.1 (own := own) (index := ix) (count := ct) (xi := y) (y := z) hown (mvT (s := s.setVm vm0) hZ w1) (mvT (s := s.setVm vm0) hZ w2) (mvT (s := s.setVm vm0) hZ w2f (by simp [Cond.onTables, Cond.keepsFace, Cond.keeps, Cond.steady, Cond.faceAtom, hy.1, hy.2])) (mvT (s := s.setVm vm0) hZ w3) (mvT (s := s.setVm vm0) hZ w4) (mvT (s := s.setVm vm0) hZ w4p) (mvT (s := s.setVm vm0) hZ w4u) (mvT (s := s.setVm vm0) hZ w4c) hy
    (backC (W := W) hM hZ w6 w5 hf hl hEL hE hC.1 fun x hx => hU x (hus x hx)) qa qb qc (g := mkF m pc Ls st) rfl (by rw [cx.2.2.1]; exact hsize) (Steps.refl _) (argsL := argsL) (rest := rest) (lenOf hpd hlen) hst (by show 2 * 0 + _ ≤ _; omega) (hb cx.2.1 hd)
    (fun _ _ => ⟨has, eT, hc, hs⟩)
  exact (K v B.U B.U.heap (St.back cx N hS hZ hown hC hU hWn Y' h2 (by rw [← eT]; exact hg) q2 q3 q4 q5 q6 q7 q8) q1).step fun t k => stp.trans k
theorem g_callFp (X : St p l e R s m args below meth c own bytes maxL ret nm Z EL nw us bs T h cells slots) {C : String} {y z : MethodName} {cb : ByteArray} {cm : Nat} {cr : Option FieldType} {rm : Room} {as' : Array Value} {us' : List Addr} {Qv : Value → Prop} {ix ct : Nat}
    (w1 : (Jvm.Cond.methodLink own ix y).before a0 Z = true) (w2 : (Jvm.Cond.declares y).before a0 Z = true) (w2f : (Jvm.Cond.interfaceMethod y.cls y.cls y.name y.desc).before a0 Z = true) (w3 : (Jvm.Cond.selects C y z).before a0 Z = true) (w4 : (Jvm.Cond.instanceMethod z).before a0 Z = true)
    (w4p : (Jvm.Cond.publicMethod z).before a0 Z = true) (w4u : (Jvm.Cond.unhidden C y.name y.desc).before a0 Z = true) (w4c : (Jvm.Cond.castable C y.cls).before a0 Z = true) (w5 : (Jvm.Cond.initialized z.cls).before a0 Z = true) (w6 : (Jvm.Cond.code z cb cm cr).before a0 Z = true)
    (hy : y.cls ≠ "java/lang/invoke/MethodHandle" ∧ y.cls ≠ "java/lang/invoke/VarHandle") {a : Addr} (Ex : Exa Z h a C) (hM : Ctr l Z EL nw z cb cm cr rm as' h us' (PureQ h Qv)) (hus : ∀ x ∈ us', x ∈ us)
    {argsL rest : List Value} {ps : List FieldType} {rt : Option FieldType} (hpd : parseMethodDescriptor y.desc = some ⟨ps, rt⟩) (hlen : argsL.length = ps.length) (has : (.ref a :: argsL).toArray = as') (hst : st = argsL.reverse ++ .ref a :: rest) (hsize : Ls.size = maxL)
    (W : Nat) (hW : (rest.map fun v => v.category).sum ≤ W) (hf : rm.frames + 1 ≤ R.frames) (hl : W + (cm + 11) + rm.locals ≤ R.locals) {ck cs : Nat} (hck : cells + rm.cells = ck) (hcs : slots + rm.slots = cs) (hc : ck ≤ R.cells) (hs : cs ≤ R.slots)
    (hd : decode bytes pc = .ok (.invokeinterface ix ct, 5)) (pc' : Nat) (hp : pc + 5 = pc')
    (K : ∀ w T', St p l e R s m args below meth c own bytes maxL ret nm Z EL nw us bs T' h ck cs → Qv w → Goes p e below s Z EL nw Q kk nn (T'.setTop (mkF m pc' Ls (w :: rest)))) : Goes p e below s Z EL nw Q kk nn (T.setTop (mkF m pc Ls st)) :=
  g_callF X w1 w2 w2f w3 w4 w4p w4u w4c w5 w6 hy Ex hM hus hpd hlen has hst hsize W hW hf hl hck hcs hc hs hd pc' hp (by
    intro v T' h' X' hq
    obtain ⟨rfl, w, rfl, hw⟩ := hq
    exact K w T' X' hw)
end Jvm.OwnKit
/- laws to paste: Road.backV (cut by pick.py; bodies as the Statement names them) -/
namespace Jvm.Pilot.@@N@@
namespace StrChars
open Jvm Sem ClassFile Op Lib Jvm.Stand Jvm.Free.XT Jvm.Free.ALB Jvm.Free.JM Jvm.Free
open Jvm.Lib.Cold (StaticIs)
/-- a char array whose places are chars -/
def Ch (a : Addr) (A : Cell) (U : State) : Prop := Arr .char a A U ∧ Typed .char A
theorem Ch.mv {a : Addr} {A : Cell} {U U' : State} (h : Ch a A U) (hal : U.vm.Alike U'.vm) (hh : U'.heap = U.heap) : Ch a A U' := ⟨h.1.mv hal hh, h.2⟩
theorem Ch.keep {a : Addr} {A : Cell} {U U' : State} (h : Ch a A U) (hal : U.vm.Alike U'.vm) (hk : U'.heap[a]? = some A) : Ch a A U' := ⟨h.1.keep hal hk, h.2⟩
/-- what place i of a char[]'s cell holds -/
def cv (A : Cell) (i : Nat) : Int32 := match A.slots[i]? with | some (.int x) => x | _ => 0
theorem Ch.get {a : Addr} {A : Cell} {U : State} (h : Ch a A U) {i : Nat} (hi : i < A.slots.size) : A.slots[i]? = some (.int (cv A i)) := by
  have e := Array.getElem?_eq_getElem hi
  have f := h.2 i _ e
  unfold cv; rw [e]
  generalize A.slots[i] = v at f
  cases v <;> simp [fits] at f ⊢
/-- the byte that i2b leaves of a char -/
def lo8 (x : Int32) : Int32 := x.toInt8.toInt32
theorem fits_lo8 (y : Int32) : fits .byte (.int (lo8 y)) = true := by
  have h1 := y.toInt8.le_toInt
  have h2 := y.toInt8.toInt_lt
  simp only [lo8, fits, Bool.and_eq_true, decide_eq_true_eq, Int32.le_iff_toInt_le, Int8.toInt_toInt32, show (-128 : Int32).toInt = -128 from by decide, show (127 : Int32).toInt = 127 from by decide]
  omega
/-- A' is A but that each place j of lo .. hi - 1 holds f j -/
def Laid (A A' : Cell) (lo hi : Nat) (f : Nat → Value) : Prop := A'.cls = A.cls ∧ A'.vm = A.vm ∧ A'.slots.size = A.slots.size ∧ ∀ i, A'.slots[i]? = if lo ≤ i ∧ i < hi then some (f i) else A.slots[i]?
theorem Laid.zero (A : Cell) (lo : Nat) (f : Nat → Value) : Laid A A lo (lo + 0) f := ⟨rfl, rfl, rfl, fun i => by rw [if_neg (by omega)]⟩
theorem Laid.step {A Ak : Cell} {lo k : Nat} {f : Nat → Value} {v : Value} (h : Laid A Ak lo k f) (hlo : lo ≤ k) (hk : k < Ak.slots.size) (hv : v = f k) : Laid A (Ak.setSlot k v) lo (k + 1) f := by
  refine ⟨h.1, h.2.1, by simpa [Cell.setSlot] using h.2.2.1, fun i => ?_⟩
  by_cases e : k = i
  · subst e; rw [Cell.slots_setSlot_self v hk, if_pos (by omega), hv]
  · rw [Cell.slots_setSlot_ne v e, h.2.2.2 i]
    by_cases q : lo ≤ i ∧ i < k
    · rw [if_pos q, if_pos (by omega)]
    · rw [if_neg q, if_neg (by omega)]
def U16 : String := "java/lang/StringUTF16"
namespace Cmp5
def yN : MethodName := ⟨"java/lang/StringUTF16", "compress", "([CI[BII)I"⟩
abbrev yB : ByteArray := jdk_52_method_21_code
theorem d0 : decode yB 0 = .ok (.iconst 0, 1) := by decide +kernel
theorem d1 : decode yB 1 = .ok (.istore 5, 2) := by decide +kernel
theorem d3 : decode yB 3 = .ok (.iload 5, 2) := by decide +kernel
theorem d5 : decode yB 5 = .ok (.iload 4, 2) := by decide +kernel
theorem d7 : decode yB 7 = .ok (.if_icmp (.ge) 37, 3) := by decide +kernel
theorem d10 : decode yB 10 = .ok (.aload_n 0, 1) := by decide +kernel
theorem d11 : decode yB 11 = .ok (.iload_n 1, 1) := by decide +kernel
theorem d12 : decode yB 12 = .ok (.caload, 1) := by decide +kernel
theorem d13 : decode yB 13 = .ok (.istore 6, 2) := by decide +kernel
theorem d15 : decode yB 15 = .ok (.iload 6, 2) := by decide +kernel
theorem d17 : decode yB 17 = .ok (.sipush 255, 3) := by decide +kernel
theorem d20 : decode yB 20 = .ok (.if_icmp (.le) 6, 3) := by decide +kernel
theorem d26 : decode yB 26 = .ok (.aload_n 2, 1) := by decide +kernel
theorem d27 : decode yB 27 = .ok (.iload_n 3, 1) := by decide +kernel
theorem d28 : decode yB 28 = .ok (.iload 6, 2) := by decide +kernel
theorem d30 : decode yB 30 = .ok (.i2b, 1) := by decide +kernel
theorem d31 : decode yB 31 = .ok (.bastore, 1) := by decide +kernel
theorem d32 : decode yB 32 = .ok (.iinc 1 1, 3) := by decide +kernel
theorem d35 : decode yB 35 = .ok (.iinc 3 1, 3) := by decide +kernel
theorem d38 : decode yB 38 = .ok (.iinc 5 1, 3) := by decide +kernel
theorem d41 : decode yB 41 = .ok (.goto (-38), 3) := by decide +kernel
theorem d44 : decode yB 44 = .ok (.iload 4, 2) := by decide +kernel
theorem d46 : decode yB 46 = .ok (.ireturn, 1) := by decide +kernel
def site : List Cond := []
def tab : Cond := tabOf yN yB 7 (some .int) site
def P (b : Addr) (A : Cell) (d : Addr) (B : Cell) (o q len : Nat) (args : Array Value) (s : State) : Prop := args = #[.ref b, .int (Int32.ofNat o), .ref d, .int (Int32.ofNat q), .int (Int32.ofNat len)] ∧ Ch b A s ∧ Arr .byte d B s ∧ b ≠ d ∧ o + len ≤ A.slots.size ∧ q + len ≤ B.slots.size ∧ ∀ i, i < len → ¬ 255 < cv A (o + i)
def E (b : Addr) (A : Cell) (d : Addr) (B : Cell) (o q len : Nat) (r : Option Value) (s u : State) : Prop := r = some (.int (Int32.ofNat len)) ∧ ∃ B', Put d B' s u ∧ Laid B B' q (q + len) (fun j => Value.int (lo8 (cv A (o + (j - q)))))
/-- no char of the range above 255: len; the places written hold each char's low byte -/
theorem law (l : Launch) (b : Addr) (A : Cell) (d : Addr) (B : Cell) (o q len : Nat) : Law l yN 5 5 0 0 yB 7 (some .int) site (P b A d B o q len) (E b A d B o q len) (copyLocs d q len) 0 0 := by
  refine Law.of_walk (plainFor_of_name (by decide +kernel)) (by decide +kernel) (by decide +kernel) (by decide) (fun _ _ h => by rw [h.1]; rfl) (fun _ U U' hal hh h => ⟨h.1, h.2.1.mv hal hh, h.2.2.1.mv hal hh, h.2.2.2⟩) (fun r U U' V V' h1 hal h2 h => ⟨h.1, h.2.elim fun B' q => ⟨B', q.1.mv h1 h2, q.2⟩⟩) ?_
  intro p e s m args below meth c s₁ X0 hexec hbytes hml hret hlk hnm hown hh0 W hP
  obtain ⟨rfl, hA, hB, hne, l1, l2, hp⟩ := hP
  have c1 : Steps p.tables e below (s₁.setTop (entryFrame m #[.ref b, .int (Int32.ofNat o), .ref d, .int (Int32.ofNat q), .int (Int32.ofNat len)] 7)) (s₁.setTop (mkF m 0 #[.val (.ref b), .val (.int (Int32.ofNat o)), .val (.ref d), .val (.int (Int32.ofNat q)), .val (.int (Int32.ofNat len)), .unset, .unset] [])) := entry rfl
  have hA0 := hA.1.mv X0.warmed.alike hh0
  have hB0 := hB.mv X0.warmed.alike hh0
  have a31 := hA.1.2.2.2
  have c2 : Steps p.tables e below (s₁.setTop (entryFrame m #[.ref b, .int (Int32.ofNat o), .ref d, .int (Int32.ofNat q), .int (Int32.ofNat len)] 7)) (s₁.setTop (mkF m 3 #[.val (.ref b), .val (.int (Int32.ofNat o)), .val (.ref d), .val (.int (Int32.ofNat q)), .val (.int (Int32.ofNat len)), .val (.int 0), .unset] [])) := c1.trans (by
    refine iconstV X0.here hexec rfl 0 (hb hbytes d0) (by decide) ?_
    refine XS.istore X0.here hexec rfl (hb hbytes d1) rfl rfl ?_
    exact Steps.refl _)
  have loop : ∀ (r i : Nat), i + r = len → ∀ (z : Slot), (z = .unset ∨ ∃ w, z = .val w ∧ w.category = 1) → ∀ (Tl : State) (Bk : Cell), Stand p l e { frames := 0, locals := 0, cells := 0, slots := 0 } s m #[.ref b, .int (Int32.ofNat o), .ref d, .int (Int32.ofNat q), .int (Int32.ofNat len)] below meth c Tl ([] ++ copyLocs d q i) 0 0 → Put d Bk s₁ Tl → Laid B Bk q (q + i) (fun j => Value.int (lo8 (cv A (o + (j - q))))) →
      Steps p.tables e below (s₁.setTop (entryFrame m #[.ref b, .int (Int32.ofNat o), .ref d, .int (Int32.ofNat q), .int (Int32.ofNat len)] 7)) (Tl.setTop (mkF m 3 #[.val (.ref b), .val (.int (Int32.ofNat (o + i))), .val (.ref d), .val (.int (Int32.ofNat (q + i))), .val (.int (Int32.ofNat len)), .val (.int (Int32.ofNat i)), z] [])) → ∃ (T' : State) (B' : Cell) (z' : Slot), Stand p l e { frames := 0, locals := 0, cells := 0, slots := 0 } s m #[.ref b, .int (Int32.ofNat o), .ref d, .int (Int32.ofNat q), .int (Int32.ofNat len)] below meth c T' ([] ++ copyLocs d q len) 0 0 ∧ Put d B' s₁ T' ∧ Laid B B' q (q + len) (fun j => Value.int (lo8 (cv A (o + (j - q))))) ∧
      Steps p.tables e below (s₁.setTop (entryFrame m #[.ref b, .int (Int32.ofNat o), .ref d, .int (Int32.ofNat q), .int (Int32.ofNat len)] 7)) (T'.setTop (mkF m 3 #[.val (.ref b), .val (.int (Int32.ofNat (o + len))), .val (.ref d), .val (.int (Int32.ofNat (q + len))), .val (.int (Int32.ofNat len)), .val (.int (Int32.ofNat len)), z'] [])) := by
    intro r
    induction r with
    | zero =>
      intro i hi z hz Tl Bk Xl pl fl cl
      have hil : i = len := by omega
      rw [hil] at Xl fl cl
      exact ⟨Tl, Bk, z, Xl, pl, fl, cl⟩
    | succ r ih =>
      intro i hi z hz Tl Bk Xl pl fl cl
      have all := X0.warmed.alike.symm.trans Xl.warmed.alike
      have hAl := hA0.keep all (pl.other hne hA0.1)
      have hBk := hB0.like all pl.1 fl.1 fl.2.1 fl.2.2.1
      have hlt : q + i < Bk.slots.size := by rw [fl.2.2.1]; omega
      have c3 : Steps p.tables e below (s₁.setTop (entryFrame m #[.ref b, .int (Int32.ofNat o), .ref d, .int (Int32.ofNat q), .int (Int32.ofNat len)] 7)) (Tl.setTop (mkF m 12 #[.val (.ref b), .val (.int (Int32.ofNat (o + i))), .val (.ref d), .val (.int (Int32.ofNat (q + i))), .val (.int (Int32.ofNat len)), .val (.int (Int32.ofNat i)), z] [.int (Int32.ofNat (o + i)), .ref b])) := cl.trans (by
        refine XS.iload Xl.here hexec rfl (hb hbytes d3) rfl ?_
        refine XS.iload Xl.here hexec rfl (hb hbytes d5) rfl ?_
        refine XS.icmpNo Xl.here hexec rfl (hb hbytes d7) rfl (ii_ge_f (lt32 (by omega) (by omega))) ?_
        refine XS.aloadN Xl.here hexec rfl (hb hbytes d10) rfl rfl ?_
        refine XS.iloadN Xl.here hexec rfl (hb hbytes d11) rfl ?_
        exact Steps.refl _)
      have c4 : Steps p.tables e below (s₁.setTop (entryFrame m #[.ref b, .int (Int32.ofNat o), .ref d, .int (Int32.ofNat q), .int (Int32.ofNat len)] 7)) (Tl.setTop (mkF m 13 #[.val (.ref b), .val (.int (Int32.ofNat (o + i))), .val (.ref d), .val (.int (Int32.ofNat (q + i))), .val (.int (Int32.ofNat len)), .val (.int (Int32.ofNat i)), z] [.int (cv A (o + i))])) := c3.trans (by
        refine Xl.aget hexec hAl rfl (hA.get (i := o + i) (by omega)) rfl rfl (hb hbytes d12) ?_
        exact Steps.refl _)
      have c5 : Steps p.tables e below (s₁.setTop (entryFrame m #[.ref b, .int (Int32.ofNat o), .ref d, .int (Int32.ofNat q), .int (Int32.ofNat len)] 7)) (Tl.setTop (mkF m 15 #[.val (.ref b), .val (.int (Int32.ofNat (o + i))), .val (.ref d), .val (.int (Int32.ofNat (q + i))), .val (.int (Int32.ofNat len)), .val (.int (Int32.ofNat i)), .val (.int (cv A (o + i)))] [])) := c4.trans (by
        refine XS.istoreS Xl.here hexec rfl (hb hbytes d13) rfl rfl hz ?_
        exact Steps.refl _)
      have c6 : Steps p.tables e below (s₁.setTop (entryFrame m #[.ref b, .int (Int32.ofNat o), .ref d, .int (Int32.ofNat q), .int (Int32.ofNat len)] 7)) (Tl.setTop (mkF m 31 #[.val (.ref b), .val (.int (Int32.ofNat (o + i))), .val (.ref d), .val (.int (Int32.ofNat (q + i))), .val (.int (Int32.ofNat len)), .val (.int (Int32.ofNat i)), .val (.int (cv A (o + i)))] [.int (lo8 (cv A (o + i))), .int (Int32.ofNat (q + i)), .ref d])) := c5.trans (by
        refine XS.iload Xl.here hexec rfl (hb hbytes d15) rfl ?_
        refine sipushV Xl.here hexec rfl 255 (hb hbytes d17) (by decide) ?_
        refine XS.icmpYes Xl.here hexec rfl (pc0 := 20) rfl (hb hbytes d20) rfl (ii_le_t (hp i (by omega))) (by decide) rfl ?_
        refine XS.aloadN Xl.here hexec rfl (hb hbytes d26) rfl rfl ?_
        refine XS.iloadN Xl.here hexec rfl (hb hbytes d27) rfl ?_
        refine XS.iload Xl.here hexec rfl (hb hbytes d28) rfl ?_
        refine i2b Xl.here hexec rfl (hb hbytes d30) rfl ?_
        exact Steps.refl _)
      obtain ⟨T7, X7, p7, st7⟩ := Xl.aput hexec hBk rfl hlt rfl (fits_lo8 (cv A (o + i))) (g := (mkF m 31 #[.val (.ref b), .val (.int (Int32.ofNat (o + i))), .val (.ref d), .val (.int (Int32.ofNat (q + i))), .val (.int (Int32.ofNat len)), .val (.int (Int32.ofNat i)), .val (.int (cv A (o + i)))] [.int (lo8 (cv A (o + i))), .int (Int32.ofNat (q + i)), .ref d])) rfl (rest := []) rfl (hb hbytes d31)
      have c8 : Steps p.tables e below (s₁.setTop (entryFrame m #[.ref b, .int (Int32.ofNat o), .ref d, .int (Int32.ofNat q), .int (Int32.ofNat len)] 7)) (T7.setTop (mkF m 32 #[.val (.ref b), .val (.int (Int32.ofNat (o + i))), .val (.ref d), .val (.int (Int32.ofNat (q + i))), .val (.int (Int32.ofNat len)), .val (.int (Int32.ofNat i)), .val (.int (cv A (o + i)))] [])) := c6.trans (st7 _ (Steps.refl _))
      have c9 : Steps p.tables e below (s₁.setTop (entryFrame m #[.ref b, .int (Int32.ofNat o), .ref d, .int (Int32.ofNat q), .int (Int32.ofNat len)] 7)) (T7.setTop (mkF m 3 #[.val (.ref b), .val (.int (Int32.ofNat (o + i) + 1)), .val (.ref d), .val (.int (Int32.ofNat (q + i) + 1)), .val (.int (Int32.ofNat len)), .val (.int (Int32.ofNat i + 1)), .val (.int (cv A (o + i)))] [])) := c8.trans (by
        refine iincV X7.here hexec rfl 1 (hb hbytes d32) (by decide) rfl rfl ?_
        refine iincV X7.here hexec rfl 1 (hb hbytes d35) (by decide) rfl rfl ?_
        refine iincV X7.here hexec rfl 1 (hb hbytes d38) (by decide) rfl rfl ?_
        refine XS.goto X7.here hexec rfl (pc0 := 41) rfl (hb hbytes d41) (by decide) rfl ?_
        exact Steps.refl _)
      have c10 : Steps p.tables e below (s₁.setTop (entryFrame m #[.ref b, .int (Int32.ofNat o), .ref d, .int (Int32.ofNat q), .int (Int32.ofNat len)] 7)) (T7.setTop (mkF m 3 #[.val (.ref b), .val (.int (Int32.ofNat (o + (i + 1)))), .val (.ref d), .val (.int (Int32.ofNat (q + (i + 1)))), .val (.int (Int32.ofNat len)), .val (.int (Int32.ofNat (i + 1))), .val (.int (cv A (o + i)))] [])) := by
        have := c9
        rw [succ32, succ32, succ32] at this
        exact this
      exact ih (i + 1) (by omega) _ (Or.inr ⟨_, rfl, rfl⟩) T7 _ (by rw [copyLocs_step, ← List.append_assoc]; exact X7) (pl.trans p7) (fl.step (by omega) hlt (by simp)) c10
  obtain ⟨T9, B9, z9, X9, p9, f9, g9⟩ := loop len 0 (by omega) .unset (Or.inl rfl) s₁ B (by simpa [copyLocs] using X0) ⟨hB0.1, fun _ _ => rfl, rfl⟩ (Laid.zero _ _ _) c2
  have c11 : Steps p.tables e below (s₁.setTop (entryFrame m #[.ref b, .int (Int32.ofNat o), .ref d, .int (Int32.ofNat q), .int (Int32.ofNat len)] 7)) (T9.setTop (mkF m 46 #[.val (.ref b), .val (.int (Int32.ofNat (o + len))), .val (.ref d), .val (.int (Int32.ofNat (q + len))), .val (.int (Int32.ofNat len)), .val (.int (Int32.ofNat len)), z9] [.int (Int32.ofNat len)])) := g9.trans (by
    refine XS.iload X9.here hexec rfl (hb hbytes d3) rfl ?_
    refine XS.iload X9.here hexec rfl (hb hbytes d5) rfl ?_
    refine XS.icmpYes X9.here hexec rfl (pc0 := 7) rfl (hb hbytes d7) rfl (ii_ge_t (nlt32 (by omega) (Nat.le_refl _))) (by decide) rfl ?_
    refine XS.iload X9.here hexec rfl (hb hbytes d44) rfl ?_
    exact Steps.refl _)
  exact ⟨T9, some (.int (Int32.ofNat len)), _, _, _, X9, by simp, rfl, rfl, (fun h => by cases h), ⟨rfl, B9, p9.from hh0, f9⟩, fun fs hl => c11.trans (X9.ireturnOut hexec hret rfl (Or.inl rfl) (hb hbytes d46) hl)⟩
end Cmp5
namespace Cmp3
def yN : MethodName := ⟨"java/lang/StringUTF16", "compress", "([CII)[B"⟩
abbrev yB : ByteArray := jdk_52_method_16_code
theorem d0 : decode yB 0 = .ok (.iload_n 2, 1) := by decide +kernel
theorem d1 : decode yB 1 = .ok (.newarray .byte, 2) := by decide +kernel
theorem d3 : decode yB 3 = .ok (.astore_n 3, 1) := by decide +kernel
theorem d4 : decode yB 4 = .ok (.aload_n 0, 1) := by decide +kernel
theorem d5 : decode yB 5 = .ok (.iload_n 1, 1) := by decide +kernel
theorem d6 : decode yB 6 = .ok (.aload_n 3, 1) := by decide +kernel
theorem d7 : decode yB 7 = .ok (.iconst 0, 1) := by decide +kernel
theorem d8 : decode yB 8 = .ok (.iload_n 2, 1) := by decide +kernel
theorem d9 : decode yB 9 = .ok (.invokestatic 115, 3) := by decide +kernel
theorem d12 : decode yB 12 = .ok (.istore 4, 2) := by decide +kernel
theorem d14 : decode yB 14 = .ok (.iload 4, 2) := by decide +kernel
theorem d16 : decode yB 16 = .ok (.iload_n 2, 1) := by decide +kernel
theorem d17 : decode yB 17 = .ok (.if_icmp (.eq) 40, 3) := by decide +kernel
theorem d57 : decode yB 57 = .ok (.aload_n 3, 1) := by decide +kernel
theorem d58 : decode yB 58 = .ok (.areturn, 1) := by decide +kernel
def site : List Cond := [.arrayClass .byte, Cmp5.tab] ++ staticW U16 115 Cmp5.yN
def tab : Cond := tabOf yN yB 6 (some (.array .byte)) site
def P (b : Addr) (A : Cell) (o len : Nat) (args : Array Value) (s : State) : Prop := args = #[.ref b, .int (Int32.ofNat o), .int (Int32.ofNat len)] ∧ Ch b A s ∧ o + len ≤ A.slots.size ∧ len ≤ 536870912 ∧ ∀ i, i < len → ¬ 255 < cv A (o + i)
def E (b : Addr) (A : Cell) (o len : Nat) (r : Option Value) (s u : State) : Prop := NewArr .byte "[B" len (fun j => .int (lo8 (cv A (o + j)))) r s u ∧ u.heap.size = s.heap.size + 1
/-- no char of the range above 255: a new byte[] of their low bytes -/
theorem law (l : Launch) (b : Addr) (A : Cell) (o len : Nat) : Law l yN 3 3 1 18 yB 6 (some (.array .byte)) site (P b A o len) (E b A o len) [] 1 len := by
  refine Law.of_walk (plainFor_of_name (by decide +kernel)) (by decide +kernel) (by decide +kernel) (by decide) (fun _ _ h => by rw [h.1]; rfl) (fun _ U U' hal hh h => ⟨h.1, h.2.1.mv hal hh, h.2.2⟩) (fun r U U' V V' h1 hal h2 h => ⟨NewArr.mv r U U' V V' h1 hal h2 h.1, by rw [h1, h2]; exact h.2⟩) ?_
  intro p e s m args below meth c s₁ X0 hexec hbytes hml hret hlk hnm hown hh0 W hP
  obtain ⟨rfl, hA, l1, l2, hp⟩ := hP
  have a31 := hA.1.2.2.2
  have c1 : Steps p.tables e below (s₁.setTop (entryFrame m #[.ref b, .int (Int32.ofNat o), .int (Int32.ofNat len)] 6)) (s₁.setTop (mkF m 0 #[.val (.ref b), .val (.int (Int32.ofNat o)), .val (.int (Int32.ofNat len)), .unset, .unset, .unset] [])) := entry rfl
  have c2 : Steps p.tables e below (s₁.setTop (entryFrame m #[.ref b, .int (Int32.ofNat o), .int (Int32.ofNat len)] 6)) (s₁.setTop (mkF m 1 #[.val (.ref b), .val (.int (Int32.ofNat o)), .val (.int (Int32.ofNat len)), .unset, .unset, .unset] [.int (Int32.ofNat len)])) := c1.trans (by
    refine XS.iloadN X0.here hexec rfl (hb hbytes d0) rfl ?_
    exact Steps.refl _)
  obtain ⟨T3, B3, X3, ba3, bs3, bv3, bh3, bf3, st3⟩ := X0.anew hexec (atype := .byte) (wk W (.arrayClass .byte)) rfl (by show len * 1 ≤ _; omega) (by omega) (g := (mkF m 1 #[.val (.ref b), .val (.int (Int32.ofNat o)), .val (.int (Int32.ofNat len)), .unset, .unset, .unset] [.int (Int32.ofNat len)])) rfl (hb hbytes d1) (rest := []) rfl (Nat.le_refl _) (by show 0 + len ≤ len; omega)
  rw [hh0] at ba3 st3
  have kp3 : XT.Kept s T3 := (XT.Kept.of_eq hh0).push bh3
  have hA3 := hA.keep X3.warmed.alike (kp3 _ _ hA.1.1)
  have hne : b ≠ s.heap.size := hA.1.ne
  have c4 : Steps p.tables e below (s₁.setTop (entryFrame m #[.ref b, .int (Int32.ofNat o), .int (Int32.ofNat len)] 6)) (T3.setTop (mkF m 3 #[.val (.ref b), .val (.int (Int32.ofNat o)), .val (.int (Int32.ofNat len)), .unset, .unset, .unset] [.ref s.heap.size])) := c2.trans (st3 _ (Steps.refl _))
  have c5 : Steps p.tables e below (s₁.setTop (entryFrame m #[.ref b, .int (Int32.ofNat o), .int (Int32.ofNat len)] 6)) (T3.setTop (mkF m 9 #[.val (.ref b), .val (.int (Int32.ofNat o)), .val (.int (Int32.ofNat len)), .val (.ref s.heap.size), .unset, .unset] [.int (Int32.ofNat len), .int 0, .ref s.heap.size, .int (Int32.ofNat o), .ref b])) := c4.trans (by
    refine XS.astoreN X3.here hexec rfl (hb hbytes d3) rfl rfl rfl ?_
    refine XS.aloadN X3.here hexec rfl (hb hbytes d4) rfl rfl ?_
    refine XS.iloadN X3.here hexec rfl (hb hbytes d5) rfl ?_
    refine XS.aloadN X3.here hexec rfl (hb hbytes d6) rfl rfl ?_
    refine iconstV X3.here hexec rfl 0 (hb hbytes d7) (by decide) ?_
    refine XS.iloadN X3.here hexec rfl (hb hbytes d8) rfl ?_
    exact Steps.refl _)
  obtain ⟨v6, T6, X6, E6, g6⟩ := X3.callS hexec (Cmp5.law l b A s.heap.size B3 o 0 len) hown (wks W (staticW U16 115 Cmp5.yN)) (wk W Cmp5.tab) (W := 0) (Nat.le_of_ble_eq_true rfl) (Nat.le_of_ble_eq_true rfl) (Nat.le_refl _) (by show 0 + len + 0 ≤ len; omega) (g := (mkF m 9 #[.val (.ref b), .val (.int (Int32.ofNat o)), .val (.int (Int32.ofNat len)), .val (.ref s.heap.size), .unset, .unset] [.int (Int32.ofNat len), .int (Int32.ofNat 0), .ref s.heap.size, .int (Int32.ofNat o), .ref b])) rfl (by rw [hml]; rfl) c5 (argsL := [.ref b, .int (Int32.ofNat o), .ref s.heap.size, .int (Int32.ofNat 0), .int (Int32.ofNat len)]) (rest := []) rfl rfl (by show 2 * 0 + 0 ≤ _; decide) (hb hbytes d9) (⟨rfl, hA3, ba3, hne, l1, by rw [bs3]; simp, hp⟩)
  obtain ⟨rfl, B6, p6, f6⟩ := E6
  have c7 : Steps p.tables e below (s₁.setTop (entryFrame m #[.ref b, .int (Int32.ofNat o), .int (Int32.ofNat len)] 6)) (T6.setTop (mkF m 12 #[.val (.ref b), .val (.int (Int32.ofNat o)), .val (.int (Int32.ofNat len)), .val (.ref s.heap.size), .unset, .unset] [.int (Int32.ofNat len)])) := g6
  have c8 : Steps p.tables e below (s₁.setTop (entryFrame m #[.ref b, .int (Int32.ofNat o), .int (Int32.ofNat len)] 6)) (T6.setTop (mkF m 58 #[.val (.ref b), .val (.int (Int32.ofNat o)), .val (.int (Int32.ofNat len)), .val (.ref s.heap.size), .val (.int (Int32.ofNat len)), .unset] [.ref s.heap.size])) := c7.trans (by
    refine XS.istore X6.here hexec rfl (hb hbytes d12) rfl rfl ?_
    refine XS.iload X6.here hexec rfl (hb hbytes d14) rfl ?_
    refine XS.iloadN X6.here hexec rfl (hb hbytes d16) rfl ?_
    refine XS.icmpYes X6.here hexec rfl (pc0 := 17) rfl (hb hbytes d17) rfl (ii_eq_t rfl) (by decide) rfl ?_
    refine XS.aloadN X6.here hexec rfl (hb hbytes d57) rfl rfl ?_
    exact Steps.refl _)
  have X8 := X6.wide (L' := []) (cells' := 1) (slots' := len) (fun x hx hlt => by
    simp only [List.nil_append, copyLocs, List.mem_map, List.mem_range] at hx
    obtain ⟨i, -, rfl⟩ := hx
    exact absurd hlt (Nat.lt_irrefl _)) (Nat.le_refl _) (by omega)
  exact ⟨T6, some (.ref s.heap.size), _, _, _, X8, rfl, rfl, rfl, (fun h => by cases h), ⟨⟨rfl, B6, ba3.like (X3.warmed.alike.symm.trans X6.warmed.alike) p6.1 f6.1 f6.2.1 f6.2.2.1, f6.2.1.trans bv3, by rw [X6.warmed.alike.findClass, f6.1]; exact bf3, by rw [f6.2.2.1, bs3]; simp, fun j hj => by rw [f6.2.2.2 j, if_pos (by omega)]; rfl, kp3.put p6 (Nat.le_refl _)⟩, by rw [p6.2.2, bh3, hh0]; simp⟩, fun fs hl => c8.trans (X8.areturnOut hexec rfl hret rfl (hb hbytes d58) hl)⟩
end Cmp3
namespace CodL
def yN : MethodName := ⟨"java/lang/StringUTF16", "coderFromArrayLen", "([BI)B"⟩
abbrev yB : ByteArray := jdk_52_method_15_code
theorem d0 : decode yB 0 = .ok (.iload_n 1, 1) := by decide +kernel
theorem d1 : decode yB 1 = .ok (.aload_n 0, 1) := by decide +kernel
theorem d2 : decode yB 2 = .ok (.arraylength, 1) := by decide +kernel
theorem d3 : decode yB 3 = .ok (.isub, 1) := by decide +kernel
theorem d4 : decode yB 4 = .ok (.bipush 31, 2) := by decide +kernel
theorem d6 : decode yB 6 = .ok (.iushr, 1) := by decide +kernel
theorem d7 : decode yB 7 = .ok (.i2b, 1) := by decide +kernel
theorem d8 : decode yB 8 = .ok (.ireturn, 1) := by decide +kernel
def site : List Cond := []
def tab : Cond := tabOf yN yB 2 (some .byte) site
def P (d : Addr) (B : Cell) (args : Array Value) (s : State) : Prop := args = #[.ref d, .int (Int32.ofNat B.slots.size)] ∧ Arr .byte d B s
def E (r : Option Value) (s u : State) : Prop := XT.PureE (some (.int 0)) r s u
/-- an array as long as the number of chars: LATIN1 -/
theorem law (l : Launch) (d : Addr) (B : Cell) : Law l yN 2 2 0 0 yB 2 (some .byte) site (P d B) E [] 0 0 := by
  refine Law.of_walk (plainFor_of_name (by decide +kernel)) (by decide +kernel) (by decide +kernel) (by decide) (fun _ _ h => by rw [h.1]; rfl) (fun _ U U' hal hh h => ⟨h.1, h.2.mv hal hh⟩) (fun r U U' V V' h1 hal h2 h => XT.PureE.mv r U U' V V' h1 hal h2 h) ?_
  intro p e s m args below meth c s₁ X0 hexec hbytes hml hret hlk hnm hown hh0 W hP
  obtain ⟨rfl, hB⟩ := hP
  have hB0 := hB.mv X0.warmed.alike hh0
  have c1 : Steps p.tables e below (s₁.setTop (entryFrame m #[.ref d, .int (Int32.ofNat B.slots.size)] 2)) (s₁.setTop (mkF m 0 #[.val (.ref d), .val (.int (Int32.ofNat B.slots.size))] [])) := entry rfl
  have c2 : Steps p.tables e below (s₁.setTop (entryFrame m #[.ref d, .int (Int32.ofNat B.slots.size)] 2)) (s₁.setTop (mkF m 2 #[.val (.ref d), .val (.int (Int32.ofNat B.slots.size))] [.ref d, .int (Int32.ofNat B.slots.size)])) := c1.trans (by
    refine XS.iloadN X0.here hexec rfl (hb hbytes d0) rfl ?_
    refine XS.aloadN X0.here hexec rfl (hb hbytes d1) rfl rfl ?_
    exact Steps.refl _)
  have c3 : Steps p.tables e below (s₁.setTop (entryFrame m #[.ref d, .int (Int32.ofNat B.slots.size)] 2)) (s₁.setTop (mkF m 8 #[.val (.ref d), .val (.int (Int32.ofNat B.slots.size))] [.int (lo8 (ushr (Int32.ofNat B.slots.size - Int32.ofNat B.slots.size) 31))])) := c2.trans (by
    refine X0.alen hexec hB0 rfl rfl (hb hbytes d2) ?_
    refine XS.isub X0.here hexec rfl (hb hbytes d3) rfl ?_
    refine bipushV X0.here hexec rfl 31 (hb hbytes d4) (by decide) ?_
    refine iushr X0.here hexec rfl (hb hbytes d6) rfl ?_
    refine i2b X0.here hexec rfl (hb hbytes d7) rfl ?_
    exact Steps.refl _)
  have e0 : lo8 (ushr (Int32.ofNat B.slots.size - Int32.ofNat B.slots.size) 31) = 0 := by rw [Int32.sub_self]; decide
  rw [e0] at c3
  exact ⟨s₁, some (.int 0), _, _, _, X0, rfl, rfl, rfl, (fun h => by cases h), ⟨rfl, hh0⟩, fun fs hl => c3.trans (X0.ireturnOut hexec hret rfl (Or.inr (Or.inr (Or.inl rfl))) (hb hbytes d8) hl)⟩
end CodL
/-- the String at a is Latin-1 over a new byte[] (the heap's one new cell): the low bytes of the len chars of A from o on; every cell but a is kept -/
def Got (a : Addr) (D : Cell) (fV fC : Field) (A : Cell) (o len : Nat) (r : Option Value) (s u : State) : Prop := r = none ∧ ∃ D' V : Cell, Blank "java/lang/String" a D' u ∧ Same D D' [fV.slot, fC.slot] ∧ D'.slots[fV.slot]? = some (.ref s.heap.size) ∧ D'.slots[fC.slot]? = some (.int 0) ∧ Arr .byte s.heap.size V u ∧ V.vm = .none ∧ u.vm.findClass "[B" = some V.cls ∧ V.slots.size = len ∧ (∀ j, j < len → V.slots[j]? = some (.int (lo8 (cv A (o + j))))) ∧ (∀ (y : Addr) (c : Cell), y ≠ a → s.heap[y]? = some c → u.heap[y]? = some c) ∧ u.heap.size = s.heap.size + 1
theorem Got.mv {a : Addr} {D A : Cell} {fV fC : Field} {o len : Nat} : ∀ r (U U' V V' : State), U'.heap = U.heap → V.vm.Alike V'.vm → V'.heap = V.heap → Got a D fV fC A o len r U V → Got a D fV fC A o len r U' V' :=
  fun r U U' V V' h1 hal h2 ⟨e0, D', X, a1, a2, a3, a4, a5, a6, a7, a8, a9, a10, a11⟩ => ⟨e0, D', X, a1.mv hal h2, a2, by rw [h1]; exact a3, a4, by rw [h1]; exact a5.mv hal h2, a6, by rw [hal.findClass]; exact a7, a8, a9, by rw [h1, h2]; exact a10, by rw [h1, h2]; exact a11⟩
namespace New4
def yN : MethodName := ⟨"java/lang/String", "<init>", "([CIILjava/lang/Void;)V"⟩
abbrev yB : ByteArray := jdk_42_method_149_code
theorem d0 : decode yB 0 = .ok (.aload_n 0, 1) := by decide +kernel
theorem d1 : decode yB 1 = .ok (.invokespecial 1, 3) := by decide +kernel
theorem d4 : decode yB 4 = .ok (.iload_n 3, 1) := by decide +kernel
theorem d5 : decode yB 5 = .ok (.ifCond (.ne) 22, 3) := by decide +kernel
theorem d27 : decode yB 27 = .ok (.getstatic 38, 3) := by decide +kernel
theorem d30 : decode yB 30 = .ok (.ifCond (.eq) 28, 3) := by decide +kernel
theorem d33 : decode yB 33 = .ok (.aload_n 1, 1) := by decide +kernel
theorem d34 : decode yB 34 = .ok (.iload_n 2, 1) := by decide +kernel
theorem d35 : decode yB 35 = .ok (.iload_n 3, 1) := by decide +kernel
theorem d36 : decode yB 36 = .ok (.invokestatic 177, 3) := by decide +kernel
theorem d39 : decode yB 39 = .ok (.astore 5, 2) := by decide +kernel
theorem d41 : decode yB 41 = .ok (.aload_n 0, 1) := by decide +kernel
theorem d42 : decode yB 42 = .ok (.aload 5, 2) := by decide +kernel
theorem d44 : decode yB 44 = .ok (.iload_n 3, 1) := by decide +kernel
theorem d45 : decode yB 45 = .ok (.invokestatic 47, 3) := by decide +kernel
theorem d48 : decode yB 48 = .ok (.putfield 15, 3) := by decide +kernel
theorem d51 : decode yB 51 = .ok (.aload_n 0, 1) := by decide +kernel
theorem d52 : decode yB 52 = .ok (.aload 5, 2) := by decide +kernel
theorem d54 : decode yB 54 = .ok (.putfield 9, 3) := by decide +kernel
theorem d57 : decode yB 57 = .ok (.return_, 1) := by decide +kernel
def site : List Cond := [.fieldLink "java/lang/String" 38 "java/lang/String" "COMPACT_STRINGS" "Z", Cmp3.tab, CodL.tab, .laysFinal "java/lang/String" "java/lang/String" "value" "[B", .fieldLink "java/lang/String" 9 "java/lang/String" "value" "[B", .laysFinal "java/lang/String" "java/lang/String" "coder" "B", .fieldLink "java/lang/String" 15 "java/lang/String" "coder" "B"] ++ objW "java/lang/String" 1 ++ staticW "java/lang/String" 177 Cmp3.yN ++ staticW "java/lang/String" 47 CodL.yN
def tab : Cond := tabOf yN yB 6 none site
def P (a : Addr) (D : Cell) (fV fC : Field) (b : Addr) (A : Cell) (z : Int32) (o len : Nat) (args : Array Value) (s : State) : Prop := args = #[.ref a, .ref b, .int (Int32.ofNat o), .int (Int32.ofNat len), .null] ∧ Blank "java/lang/String" a D s ∧ Found "java/lang/String" "value" "[B" fV s ∧ Found "java/lang/String" "coder" "B" fC s ∧ Ch b A s ∧ StaticIs s "java/lang/String" "COMPACT_STRINGS" "Z" (.int z) ∧ ¬ z = 0 ∧ 0 < len ∧ o + len ≤ A.slots.size ∧ len ≤ 536870912 ∧ ∀ i, i < len → ¬ 255 < cv A (o + i)
def E (a : Addr) (D : Cell) (fV fC : Field) (A : Cell) (o len : Nat) (r : Option Value) (s u : State) : Prop := Got a D fV fC A o len r s u
/-- len > 0, no char of the range above 255: a Latin-1 String of their low bytes -/
theorem law (l : Launch) (a : Addr) (D : Cell) (fV fC : Field) (b : Addr) (A : Cell) (z : Int32) (o len : Nat) : Law l yN 5 4 2 35 yB 6 none site (P a D fV fC b A z o len) (E a D fV fC A o len) [⟨a, fC.slot⟩, ⟨a, fV.slot⟩] 1 len := by
  refine Law.of_walk (plainFor_of_name (by decide +kernel)) (by decide +kernel) (by decide +kernel) (by decide) (fun _ _ h => by rw [h.1]; rfl) (fun _ U U' hal hh h => ⟨h.1, h.2.1.mv hal hh, h.2.2.1.al hal, h.2.2.2.1.al hal, h.2.2.2.2.1.mv hal hh, h.2.2.2.2.2.1.there hal hh, h.2.2.2.2.2.2⟩) (fun r U U' V V' h1 hal h2 h => Got.mv r U U' V V' h1 hal h2 h) ?_
  intro p e s m args below meth c s₁ X0 hexec hbytes hml hret hlk hnm hown hh0 W hP
  obtain ⟨rfl, hB, f1, f2, hA, s1, hz, l0, l1, l2, hp⟩ := hP
  have a31 := hA.1.2.2.2
  have c1 : Steps p.tables e below (s₁.setTop (entryFrame m #[.ref a, .ref b, .int (Int32.ofNat o), .int (Int32.ofNat len), .null] 6)) (s₁.setTop (mkF m 0 #[.val (.ref a), .val (.ref b), .val (.int (Int32.ofNat o)), .val (.int (Int32.ofNat len)), .val .null, .unset] [])) := entry rfl
  have c2 : Steps p.tables e below (s₁.setTop (entryFrame m #[.ref a, .ref b, .int (Int32.ofNat o), .int (Int32.ofNat len), .null] 6)) (s₁.setTop (mkF m 1 #[.val (.ref a), .val (.ref b), .val (.int (Int32.ofNat o)), .val (.int (Int32.ofNat len)), .val .null, .unset] [.ref a])) := c1.trans (by
    refine XS.aloadN X0.here hexec rfl (hb hbytes d0) rfl rfl ?_
    exact Steps.refl _)
  obtain ⟨T3, X3, q3, st3⟩ := X0.oinit hexec hown (wks W (objW "java/lang/String" 1)) (g := (mkF m 1 #[.val (.ref a), .val (.ref b), .val (.int (Int32.ofNat o)), .val (.int (Int32.ofNat len)), .val .null, .unset] [.ref a])) rfl (by rw [hml]; rfl) (rest := []) rfl (hb hbytes d1) (W := 0) (by show 2 * 0 + 0 ≤ _; decide) (Nat.le_of_ble_eq_true rfl) (Nat.le_of_ble_eq_true rfl)
  have hh3 := q3.trans hh0
  have c4 : Steps p.tables e below (s₁.setTop (entryFrame m #[.ref a, .ref b, .int (Int32.ofNat o), .int (Int32.ofNat len), .null] 6)) (T3.setTop (mkF m 27 #[.val (.ref a), .val (.ref b), .val (.int (Int32.ofNat o)), .val (.int (Int32.ofNat len)), .val .null, .unset] [])) := (c2.trans (st3 _ (Steps.refl _))).trans (by
    refine XS.iloadN X3.here hexec rfl (hb hbytes d4) rfl ?_
    refine XS.ifYes X3.here hexec rfl (pc0 := 5) rfl (hb hbytes d5) rfl (i0_ne_t (nz32 (by omega) l0)) (by decide) rfl ?_
    exact Steps.refl _)
  obtain ⟨T5, X5, q5, st5⟩ := X3.sget hexec hown (wk W (.fieldLink "java/lang/String" 38 "java/lang/String" "COMPACT_STRINGS" "Z")) s1 (fun _ _ h => by rw [hh3]; exact h) (g := (mkF m 27 #[.val (.ref a), .val (.ref b), .val (.int (Int32.ofNat o)), .val (.int (Int32.ofNat len)), .val .null, .unset] [])) rfl (hb hbytes d27)
  have hh5 := q5.trans hh3
  have c6 : Steps p.tables e below (s₁.setTop (entryFrame m #[.ref a, .ref b, .int (Int32.ofNat o), .int (Int32.ofNat len), .null] 6)) (T5.setTop (mkF m 30 #[.val (.ref a), .val (.ref b), .val (.int (Int32.ofNat o)), .val (.int (Int32.ofNat len)), .val .null, .unset] [.int z])) := c4.trans (st5 _ (Steps.refl _))
  have c7 : Steps p.tables e below (s₁.setTop (entryFrame m #[.ref a, .ref b, .int (Int32.ofNat o), .int (Int32.ofNat len), .null] 6)) (T5.setTop (mkF m 36 #[.val (.ref a), .val (.ref b), .val (.int (Int32.ofNat o)), .val (.int (Int32.ofNat len)), .val .null, .unset] [.int (Int32.ofNat len), .int (Int32.ofNat o), .ref b])) := c6.trans (by
    refine XS.ifNo X5.here hexec rfl (hb hbytes d30) rfl (i0_eq_f hz) ?_
    refine XS.aloadN X5.here hexec rfl (hb hbytes d33) rfl rfl ?_
    refine XS.iloadN X5.here hexec rfl (hb hbytes d34) rfl ?_
    refine XS.iloadN X5.here hexec rfl (hb hbytes d35) rfl ?_
    exact Steps.refl _)
  obtain ⟨v8, T8, X8, E8, g8⟩ := X5.callS hexec (Cmp3.law l b A o len) hown (wks W (staticW "java/lang/String" 177 Cmp3.yN)) (wk W Cmp3.tab) (W := 0) (Nat.le_of_ble_eq_true rfl) (Nat.le_of_ble_eq_true rfl) (Nat.le_refl _) (by show 0 + len ≤ len; omega) (g := (mkF m 36 #[.val (.ref a), .val (.ref b), .val (.int (Int32.ofNat o)), .val (.int (Int32.ofNat len)), .val .null, .unset] [.int (Int32.ofNat len), .int (Int32.ofNat o), .ref b])) rfl (by rw [hml]; rfl) c7 (argsL := [.ref b, .int (Int32.ofNat o), .int (Int32.ofNat len)]) (rest := []) rfl rfl (by show 2 * 0 + 0 ≤ _; decide) (hb hbytes d36) (⟨rfl, hA.mv X5.warmed.alike hh5, l1, l2, hp⟩)
  obtain ⟨e8, z8⟩ := E8
  obtain ⟨rfl, N, n1, n2, n3, n4, n5, n6⟩ := NewArr.mv _ T5 s _ _ hh5.symm (Vm.Alike.refl _) rfl e8
  rw [hh5] at z8
  have hB1 := hB.keep X8.warmed.alike (n6 _ _ hB.1)
  have hne : s.heap.size ≠ a := (Nat.ne_of_lt (Array.getElem?_eq_some_iff.mp hB.1).1).symm
  have c9 : Steps p.tables e below (s₁.setTop (entryFrame m #[.ref a, .ref b, .int (Int32.ofNat o), .int (Int32.ofNat len), .null] 6)) (T8.setTop (mkF m 39 #[.val (.ref a), .val (.ref b), .val (.int (Int32.ofNat o)), .val (.int (Int32.ofNat len)), .val .null, .unset] [.ref s.heap.size])) := g8
  have c10 : Steps p.tables e below (s₁.setTop (entryFrame m #[.ref a, .ref b, .int (Int32.ofNat o), .int (Int32.ofNat len), .null] 6)) (T8.setTop (mkF m 45 #[.val (.ref a), .val (.ref b), .val (.int (Int32.ofNat o)), .val (.int (Int32.ofNat len)), .val .null, .val (.ref s.heap.size)] [.int (Int32.ofNat N.slots.size), .ref s.heap.size, .ref a])) := by
    have hc : Steps p.tables e below (s₁.setTop (entryFrame m #[.ref a, .ref b, .int (Int32.ofNat o), .int (Int32.ofNat len), .null] 6)) (T8.setTop (mkF m 45 #[.val (.ref a), .val (.ref b), .val (.int (Int32.ofNat o)), .val (.int (Int32.ofNat len)), .val .null, .val (.ref s.heap.size)] [.int (Int32.ofNat len), .ref s.heap.size, .ref a])) := c9.trans (by
      refine XS.astore X8.here hexec rfl (hb hbytes d39) rfl rfl rfl ?_
      refine XS.aloadN X8.here hexec rfl (hb hbytes d41) rfl rfl ?_
      refine XS.aload X8.here hexec rfl (hb hbytes d42) rfl rfl ?_
      refine XS.iloadN X8.here hexec rfl (hb hbytes d44) rfl ?_
      exact Steps.refl _)
    rw [n4]; exact hc
  obtain ⟨v11, T11, X11, E11, g11⟩ := X8.callS hexec (CodL.law l s.heap.size N) hown (wks W (staticW "java/lang/String" 47 CodL.yN)) (wk W CodL.tab) (W := 1) (Nat.le_of_ble_eq_true rfl) (Nat.le_of_ble_eq_true rfl) (Nat.le_refl _) (by show 0 + len + 0 ≤ len; omega) (g := (mkF m 45 #[.val (.ref a), .val (.ref b), .val (.int (Int32.ofNat o)), .val (.int (Int32.ofNat len)), .val .null, .val (.ref s.heap.size)] [.int (Int32.ofNat N.slots.size), .ref s.heap.size, .ref a])) rfl (by rw [hml]; rfl) c10 (argsL := [.ref s.heap.size, .int (Int32.ofNat N.slots.size)]) (rest := [.ref a]) rfl rfl (by show 2 * 0 + (1 + 0) ≤ _; decide) (hb hbytes d45) (⟨rfl, n1⟩)
  obtain ⟨rfl, q11⟩ := E11
  have hB11 := hB1.mv (X8.warmed.alike.symm.trans X11.warmed.alike) q11
  have c12 : Steps p.tables e below (s₁.setTop (entryFrame m #[.ref a, .ref b, .int (Int32.ofNat o), .int (Int32.ofNat len), .null] 6)) (T11.setTop (mkF m 48 #[.val (.ref a), .val (.ref b), .val (.int (Int32.ofNat o)), .val (.int (Int32.ofNat len)), .val .null, .val (.ref s.heap.size)] [.int 0, .ref a])) := g11
  obtain ⟨T13, X13, p13, bl13, sl13, st13⟩ := X11.finit hexec hown (wk W (.fieldLink "java/lang/String" 15 "java/lang/String" "coder" "B")) (Or.inr ⟨_, (wk W (.laysFinal "java/lang/String" "java/lang/String" "coder" "B"))⟩) (Or.inl ⟨rfl, hnm⟩) f2 (Or.inl rfl) hB11 (t := .byte) (by decide +kernel) rfl (g := (mkF m 48 #[.val (.ref a), .val (.ref b), .val (.int (Int32.ofNat o)), .val (.int (Int32.ofNat len)), .val .null, .val (.ref s.heap.size)] [.int 0, .ref a])) rfl (rest := []) rfl (hb hbytes d48)
  have c14 : Steps p.tables e below (s₁.setTop (entryFrame m #[.ref a, .ref b, .int (Int32.ofNat o), .int (Int32.ofNat len), .null] 6)) (T13.setTop (mkF m 54 #[.val (.ref a), .val (.ref b), .val (.int (Int32.ofNat o)), .val (.int (Int32.ofNat len)), .val .null, .val (.ref s.heap.size)] [.ref s.heap.size, .ref a])) := (c12.trans (st13 _ (Steps.refl _))).trans (by
    refine XS.aloadN X13.here hexec rfl (hb hbytes d51) rfl rfl ?_
    refine XS.aload X13.here hexec rfl (hb hbytes d52) rfl rfl ?_
    exact Steps.refl _)
  obtain ⟨T15, X15, p15, bl15, sl15, st15⟩ := X13.finit hexec hown (wk W (.fieldLink "java/lang/String" 9 "java/lang/String" "value" "[B")) (Or.inr ⟨_, (wk W (.laysFinal "java/lang/String" "java/lang/String" "value" "[B"))⟩) (Or.inl ⟨rfl, hnm⟩) f1 (Or.inl rfl) bl13 (t := (.array .byte)) (by decide +kernel) rfl (g := (mkF m 54 #[.val (.ref a), .val (.ref b), .val (.int (Int32.ofNat o)), .val (.int (Int32.ofNat len)), .val .null, .val (.ref s.heap.size)] [.ref s.heap.size, .ref a])) rfl (rest := []) rfl (hb hbytes d54)
  have c16 : Steps p.tables e below (s₁.setTop (entryFrame m #[.ref a, .ref b, .int (Int32.ofNat o), .int (Int32.ofNat len), .null] 6)) (T15.setTop (mkF m 57 #[.val (.ref a), .val (.ref b), .val (.int (Int32.ofNat o)), .val (.int (Int32.ofNat len)), .val .null, .val (.ref s.heap.size)] [])) := c14.trans (st15 _ (Steps.refl _))
  have ap := apart (Or.inr ⟨_, (wk W (.laysFinal "java/lang/String" "java/lang/String" "value" "[B"))⟩) (Or.inr ⟨_, (wk W (.laysFinal "java/lang/String" "java/lang/String" "coder" "B"))⟩) f1 f2 (t₁ := .array .byte) (t₂ := .byte) (by decide +kernel) (by decide +kernel) (by decide)
  have al := X8.warmed.alike.symm.trans X15.warmed.alike
  have n7 : T11.heap[s.heap.size]? = some N := by rw [q11]; exact n1.1
  exact ⟨T15, none, _, _, _, X15, by simp, rfl, by omega, (fun _ => rfl), ⟨rfl, _, N, bl15, ((Same.refl D _).set _ (by simp)).set _ (by simp), sl15, (Cell.slots_setSlot_ne _ ap).trans sl13, n1.keep al (p15.other hne (p13.other hne n7)), n2, by rw [al.findClass]; exact n3, n4, n5, fun y c h1 h2 => p15.other h1 (p13.other h1 (by rw [q11]; exact n6 y c h2)), by rw [p15.2.2, p13.2.2, q11]; exact z8⟩, fun fs hl => c16.trans (X15.returnOut hexec hret (hb hbytes d57) hl)⟩
end New4
namespace New1
def yN : MethodName := ⟨"java/lang/String", "<init>", "([C)V"⟩
abbrev yB : ByteArray := jdk_42_method_3_code
theorem d0 : decode yB 0 = .ok (.aload_n 0, 1) := by decide +kernel
theorem d1 : decode yB 1 = .ok (.aload_n 1, 1) := by decide +kernel
theorem d2 : decode yB 2 = .ok (.iconst 0, 1) := by decide +kernel
theorem d3 : decode yB 3 = .ok (.aload_n 1, 1) := by decide +kernel
theorem d4 : decode yB 4 = .ok (.arraylength, 1) := by decide +kernel
theorem d5 : decode yB 5 = .ok (.aconst_null, 1) := by decide +kernel
theorem d6 : decode yB 6 = .ok (.invokespecial 27, 3) := by decide +kernel
theorem d9 : decode yB 9 = .ok (.return_, 1) := by decide +kernel
def site : List Cond := [New4.tab] ++ initW "java/lang/String" 27 New4.yN
def tab : Cond := tabOf yN yB 2 none site
def P (a : Addr) (D : Cell) (fV fC : Field) (b : Addr) (A : Cell) (z : Int32) (args : Array Value) (s : State) : Prop := args = #[.ref a, .ref b] ∧ Blank "java/lang/String" a D s ∧ Found "java/lang/String" "value" "[B" fV s ∧ Found "java/lang/String" "coder" "B" fC s ∧ Ch b A s ∧ StaticIs s "java/lang/String" "COMPACT_STRINGS" "Z" (.int z) ∧ ¬ z = 0 ∧ 0 < A.slots.size ∧ A.slots.size ≤ 536870912 ∧ ∀ i, i < A.slots.size → ¬ 255 < cv A i
def E (a : Addr) (D : Cell) (fV fC : Field) (A : Cell) (r : Option Value) (s u : State) : Prop := Got a D fV fC A 0 A.slots.size r s u
/-- new String(chars), not empty, no char above 255: a Latin-1 String of their low bytes -/
theorem law (l : Launch) (a : Addr) (D : Cell) (fV fC : Field) (b : Addr) (A : Cell) (z : Int32) : Law l yN 2 1 3 52 yB 2 none site (P a D fV fC b A z) (E a D fV fC A) [⟨a, fC.slot⟩, ⟨a, fV.slot⟩] 1 A.slots.size := by
  refine Law.of_walk (plainFor_of_name (by decide +kernel)) (by decide +kernel) (by decide +kernel) (by decide) (fun _ _ h => by rw [h.1]; rfl) (fun _ U U' hal hh h => ⟨h.1, h.2.1.mv hal hh, h.2.2.1.al hal, h.2.2.2.1.al hal, h.2.2.2.2.1.mv hal hh, h.2.2.2.2.2.1.there hal hh, h.2.2.2.2.2.2⟩) (fun r U U' V V' h1 hal h2 h => Got.mv r U U' V V' h1 hal h2 h) ?_
  intro p e s m args below meth c s₁ X0 hexec hbytes hml hret hlk hnm hown hh0 W hP
  obtain ⟨rfl, hB, f1, f2, hA, s1, hz, l0, l2, hp⟩ := hP
  have c1 : Steps p.tables e below (s₁.setTop (entryFrame m #[.ref a, .ref b] 2)) (s₁.setTop (mkF m 0 #[.val (.ref a), .val (.ref b)] [])) := entry rfl
  have c2 : Steps p.tables e below (s₁.setTop (entryFrame m #[.ref a, .ref b] 2)) (s₁.setTop (mkF m 6 #[.val (.ref a), .val (.ref b)] [.null, .int (Int32.ofNat A.slots.size), .int 0, .ref b, .ref a])) := c1.trans (by
    refine XS.aloadN X0.here hexec rfl (hb hbytes d0) rfl rfl ?_
    refine XS.aloadN X0.here hexec rfl (hb hbytes d1) rfl rfl ?_
    refine iconstV X0.here hexec rfl 0 (hb hbytes d2) (by decide) ?_
    refine XS.aloadN X0.here hexec rfl (hb hbytes d3) rfl rfl ?_
    refine X0.alen hexec (hA.1.mv X0.warmed.alike hh0) rfl rfl (hb hbytes d4) ?_
    refine XS.aconstNull X0.here hexec rfl (hb hbytes d5) ?_
    exact Steps.refl _)
  obtain ⟨v3, T3, X3, E3, g3⟩ := X0.callN hexec (New4.law l a D fV fC b A z 0 A.slots.size) rfl hown (wks W (initW "java/lang/String" 27 New4.yN)) (W New4.tab (by simp only [site, List.mem_cons, List.mem_append, true_or, or_true])) (W := 0) (Nat.le_of_ble_eq_true rfl) (Nat.le_of_ble_eq_true rfl) (Nat.le_refl _) (by show 0 + A.slots.size ≤ A.slots.size; omega) (g := (mkF m 6 #[.val (.ref a), .val (.ref b)] [.null, .int (Int32.ofNat A.slots.size), .int (Int32.ofNat 0), .ref b, .ref a])) rfl (by rw [hml]; rfl) c2 (argsL := [.ref b, .int (Int32.ofNat 0), .int (Int32.ofNat A.slots.size), .null]) (rest := []) rfl rfl (by show 2 * 0 + 0 ≤ _; decide) (hb hbytes d6) (⟨rfl, hB.mv X0.warmed.alike hh0, f1.al X0.warmed.alike, f2.al X0.warmed.alike, hA.mv X0.warmed.alike hh0, s1.there X0.warmed.alike hh0, hz, l0, by omega, l2, fun i hi => by rw [Nat.zero_add]; exact hp i hi⟩)
  have e0 := Got.mv _ s₁ s _ _ hh0.symm (Vm.Alike.refl _) rfl E3
  obtain rfl := e0.1
  have c4 : Steps p.tables e below (s₁.setTop (entryFrame m #[.ref a, .ref b] 2)) (T3.setTop (mkF m 9 #[.val (.ref a), .val (.ref b)] [])) := g3
  exact ⟨T3, none, _, _, _, X3, by simp, rfl, by omega, (fun _ => rfl), e0, fun fs hl => c4.trans (X3.returnOut hexec hret (hb hbytes d9) hl)⟩
theorem pays {l : Launch} {R : Room} {p : Program} {e : Env} {below : List Frame} {s : State} {sargs : Array Value} {len W : Nat} (a : Addr) (D : Cell) (fV fC : Field) (b : Addr) (A : Cell) (z : Int32) (htab : tab.before sargs s = true) (hfr : 4 ≤ R.frames) (hlo : W + 65 ≤ R.locals) :
    Back l R p e below s sargs yN len W (fun A₁ a₁ => A₁.cells + 1 ≤ R.cells ∧ A₁.slots + A.slots.size ≤ R.slots ∧ P a D fV fC b A z a₁ A₁.U) (fun A₁ _ v₁ B₁ => E a D fV fC A v₁ A₁.U B₁.U ∧ B₁.locs = A₁.locs ++ [⟨a, fC.slot⟩, ⟨a, fV.slot⟩] ∧ B₁.cells = A₁.cells + 1 ∧ B₁.slots = A₁.slots + A.slots.size) :=
  (law l a D fV fC b A z).pays htab hfr (by omega)
end New1
end StrChars
namespace StrChars.Road
open Jvm Sem ClassFile Op Lib Jvm.Stand Jvm.Free Jvm.Free.XT
open Jvm.Lib.Cold (StaticIs)
abbrev ST : String := "java/lang/String"
/-- every table word that New1's law asks, flat -/
abbrev words : List Jvm.Cond := [.code New1.yN New1.yB 2 none, .initialized ST, .methodLink ST 27 New4.yN, .instanceMethod New4.yN,
  .code New4.yN New4.yB 6 none, .fieldLink ST 38 ST "COMPACT_STRINGS" "Z", .laysFinal ST ST "value" "[B", .fieldLink ST 9 ST "value" "[B", .laysFinal ST ST "coder" "B", .fieldLink ST 15 ST "coder" "B",
  .methodLink ST 1 Lib.objectInit, .instanceMethod Lib.objectInit, .code Lib.objectInit ⟨#[0xb1]⟩ 1 none, .methodLink ST 177 Cmp3.yN, .static Cmp3.yN, .methodLink ST 47 CodL.yN, .static CodL.yN,
  .code Cmp3.yN Cmp3.yB 6 (some (.array .byte)), .initialized U16, .arrayClass .byte, .methodLink U16 115 Cmp5.yN, .static Cmp5.yN, .code Cmp5.yN Cmp5.yB 7 (some .int), .code CodL.yN CodL.yB 2 (some .byte)]
theorem tab_of {a : Array Value} {s : State} (h : ∀ w ∈ words, w.before a s = true) : New1.tab.before a s = true := by
  have h5 : Cmp5.tab.before a s = true := unparts (wk h (.code Cmp5.yN Cmp5.yB 7 (some .int))) (wks h (.initialized Cmp5.yN.cls :: Cmp5.site))
  have hc : CodL.tab.before a s = true := unparts (wk h (.code CodL.yN CodL.yB 2 (some .byte))) (wks h (.initialized CodL.yN.cls :: CodL.site))
  have q5 : ∀ w ∈ Cmp5.tab :: words, w.before a s = true := fun w hw => (List.mem_cons.mp hw).elim (fun e => e ▸ h5) (h w)
  have h3 : Cmp3.tab.before a s = true := unparts (wk q5 (.code Cmp3.yN Cmp3.yB 6 (some (.array .byte)))) (wks q5 (.initialized Cmp3.yN.cls :: Cmp3.site))
  have q3 : ∀ w ∈ Cmp3.tab :: CodL.tab :: words, w.before a s = true := fun w hw => (List.mem_cons.mp hw).elim (fun e => e ▸ h3) fun hw => (List.mem_cons.mp hw).elim (fun e => e ▸ hc) (h w)
  have h4 : New4.tab.before a s = true := unparts (wk q3 (.code New4.yN New4.yB 6 none)) (wks q3 (.initialized New4.yN.cls :: New4.site))
  have q4 : ∀ w ∈ New4.tab :: words, w.before a s = true := fun w hw => (List.mem_cons.mp hw).elim (fun e => e ▸ h4) (h w)
  exact unparts (wk q4 (.code New1.yN New1.yB 2 none)) (wks q4 (.initialized New1.yN.cls :: New1.site))
/-- the words ride from the start Z to the walk's own state -/
theorem moved {Z s : State} {a0 args : Array Value} (hZ : Z.Warmed39 s.vm) (hw : ∀ d ∈ words, d.before a0 Z = true) : ∀ d ∈ words, d.before args s = true := fun d hd => by
  have q := hw d hd
  have t : ∀ d ∈ words, d = .arrayClass .byte ∨ (d.onTables && d.keepsFace) = true := by decide +kernel
  rcases t d hd with rfl | t
  · exact RoadKit.mvA hZ q
  · exact RoadKit.mv hZ q t
/-- WHAT COMES BACK, over the tables of the start Z: h the heap at the call, h' behind it -/
def Q (Z : State) (x : Addr) (A : Cell) (h : Heap) (v : Option Value) (h' : Heap) (L : List Loc) : Prop := v = none ∧ (∀ y ∈ L, y.base = x) ∧ RoadKit.Keep h h' [x] ∧ h'.size = h.size + 1 ∧ RoadKit.Exa Z h' x ST ∧ RoadKit.Fld Z h' x ST "value" "[B" (.ref h.size) ∧ RoadKit.Fld Z h' x ST "coder" "B" (.int 0) ∧
  (∃ V : Cell, RoadKit.Arr Z h' h.size V .byte ∧ V.vm = .none ∧ Z.vm.findClass "[B" = some V.cls ∧ V.slots.size = A.slots.size ∧ ∀ j, j < A.slots.size → V.slots[j]? = some (.int (lo8 (cv A j)))) ∧
  ∀ (O n d : String) (w : Value), RoadKit.Fld Z h x O n d w → RoadKit.slotOf Z O n d ≠ RoadKit.slotOf Z ST "value" "[B" → RoadKit.slotOf Z O n d ≠ RoadKit.slotOf Z ST "coder" "B" → RoadKit.Fld Z h' x O n d w
/-- **new String(chars) AT A CALL, IN THE ROAD'S FORM**: for specialBack behind newO: x the fresh String, b the char[] with the cell A -/
theorem back {p : Program} {l : Launch} {e : Env} {R : Room} {s : State} {args : Array Value} {below : List Frame} {len W : Nat} {Z : State} {a0 : Array Value} {h : Heap} (hZ : Z.Warmed39 s.vm) (hw : ∀ d ∈ words, d.before a0 Z = true) {kI : Nat} (wi : (Jvm.Cond.instantiable ST kI).before a0 Z = true)
    {x b : Addr} {A : Cell} {z : Int32} {v0 c0 : Value} (E : RoadKit.Exa Z h x ST) (V : RoadKit.Fld Z h x ST "value" "[B" v0) (C : RoadKit.Fld Z h x ST "coder" "B" c0) (K : RoadKit.Arr Z h b A .char) (hty : Typed .char A) (S : RoadKit.Sta Z h ST "COMPACT_STRINGS" "Z" (.int z)) (hz : ¬ z = 0)
    (l0 : 0 < A.slots.size) (l2 : A.slots.size ≤ 536870912) (hp : ∀ i, i < A.slots.size → ¬ 255 < cv A i) (hfr : 4 ≤ R.frames) (hlo : W + 65 ≤ R.locals) :
    Back l R p e below s args New1.yN len W (fun P a => a = #[.ref x, .ref b] ∧ P.U.heap = h ∧ P.cells + 1 ≤ R.cells ∧ P.slots + A.slots.size ≤ R.slots)
      (fun P _ v B => ∃ L, Q Z x A h v B.U.heap L ∧ B.locs = P.locs ++ L ∧ B.cells = P.cells + 1 ∧ B.slots = P.slots + A.slots.size) := by
  intro m meth c P g ig mk a X hg hsize hdg hW hn hp'
  obtain ⟨rfl, rfl, r1, r2⟩ := hp'
  have al : Z.vm.Alike P.U.vm := hZ.alike.trans X.warmed.alike
  obtain ⟨D, cfV, kV, iV, fV, hD, gV, stV, knV, obV, asV, slV⟩ := id V
  obtain ⟨D', cfC, kC, iC, fC, hD', gC, stC, -, -, asC, slC⟩ := id C
  cases hD.symm.trans hD'
  obtain ⟨D2, kD, e1, e2, e3, e4, e5⟩ := id E
  cases hD.symm.trans e1
  obtain ⟨c2, k2, i1, i2, i3, -⟩ := Cond.instantiable_spec wi
  cases e2.symm.trans i1
  cases e3.symm.trans i2
  obtain ⟨kU, u1, u2⟩ := al.2.2 _ _ e3
  have hB : Blank ST x D P.U := ⟨hD, ⟨knV, fun q hq => by rw [hq] at obV; cases obV⟩, by rw [al.findClass]; exact e2, kU, u1, by rw [u2]; exact i3, by rw [u2]; exact e5 i3⟩
  have F1 : Found ST "value" "[B" fV P.U := ⟨SBG.found_only al ⟨cfV, kV, iV, gV⟩, stV⟩
  have F2 : Found ST "coder" "B" fC P.U := ⟨SBG.found_only al ⟨cfC, kC, iC, gC⟩, stC⟩
  have hA : Ch b A P.U := ⟨⟨K.1, State.isArrayOf_alike al K.2.1, K.2.2, by omega⟩, hty⟩
  have hS : StaticIs P.U ST "COMPACT_STRINGS" "Z" (.int z) := by
    obtain ⟨cfS, iS, kS, fS, st, cS, t1, t2, t3, t4, t5, t6, t7⟩ := S
    exact StaticIs.there (s := { Z with heap := P.U.heap }) ⟨cfS, iS, kS, fS, st, cS, t1, t2, t3, t4, t5, (fun q => by rw [q] at t6; cases t6), t7⟩ al rfl
  obtain ⟨v, B, X', ⟨⟨hv, E', V', q1, q2, q3, q4, q5, q6, q7, q8, q9, q10, q11⟩, hl, hc, hs⟩, st⟩ := New1.pays x D fV fC b A z (tab_of (moved hZ hw)) hfr hlo m meth c P g ig mk _ X hg hsize hdg hW hn ⟨r1, r2, rfl, hB, F1, F2, hA, hS, hz, l0, l2, hp⟩
  have al' : Z.vm.Alike B.U.vm := hZ.alike.trans X'.warmed.alike
  have hsz : E'.slots.size = D.slots.size := by
    obtain ⟨-, -, -, kB, w1, w2, w3⟩ := q1
    obtain ⟨kB', y1, y2⟩ := al'.2.2 _ _ e3
    rw [q2.2.1] at w1
    cases w1.symm.trans y1
    rw [w3, e5 i3, y2]
  refine ⟨v, B, X', ⟨_, ⟨hv, ?_, ⟨by omega, fun y cy hy hn' => q10 y cy (by simpa using hn') hy, fun y cy hy => ?_⟩, q11, ⟨E', _, q1.1, by rw [q2.2.1]; exact e2, by rw [q2.2.1]; exact e3, by rw [q2.1]; exact obV, fun _ => by rw [hsz]; exact e5 i3⟩,
    ⟨E', cfV, kV, iV, fV, q1.1, gV, stV, by rw [q2.1]; exact knV, by rw [q2.1]; exact obV, by rw [q2.2.1]; exact asV, q3⟩, ⟨E', cfC, kC, iC, fC, q1.1, gC, stC, by rw [q2.1]; exact knV, by rw [q2.1]; exact obV, by rw [q2.2.1]; exact asC, q4⟩,
    ⟨V', ⟨q5.1, State.isArrayOf_alike al'.symm q5.2.1, q5.2.2.1⟩, q6, by rw [← al'.findClass]; exact q7, q8, fun j hj => by have := q9 j hj; rwa [Nat.zero_add] at this⟩, fun O n d w F n1 n2 => ?_⟩, hl, hc, hs⟩, st⟩
  · intro y hy
    simp only [List.mem_cons, List.not_mem_nil, or_false] at hy
    rcases hy with rfl | rfl <;> rfl
  · by_cases q : y = x
    · subst q
      cases hD.symm.trans hy
      exact ⟨E', q1.1, q2.2.1, q2.1, hsz⟩
    · exact ⟨cy, q10 y cy q hy, rfl, rfl, rfl⟩
  · obtain ⟨D3, cf, k, i, f, g1, g2, g3, g4, g5, g6, g7⟩ := F
    cases hD.symm.trans g1
    simp only [RoadKit.slotOf, g2, gV, gC, Option.map_some, Option.getD_some] at n1 n2
    exact ⟨E', cf, k, i, f, q1.1, g2, g3, by rw [q2.1]; exact g4, by rw [q2.1]; exact g5, by rw [q2.2.1]; exact g6, by rw [q2.2.2 f.slot (by simp [n1, n2])]; exact g7⟩
end StrChars.Road
namespace StrChars.Road
open Jvm Sem ClassFile Op Lib Jvm.Stand Jvm.Free Jvm.Free.XT
/-- WHAT COMES BACK, the byte[] as a list of values -/
def QA (Z : State) (x : Addr) (zn : Int32) (cs : List Int32) (h : Heap) (v : Option Value) (h' : Heap) (L : List Loc) : Prop := v = none ∧ (∀ y ∈ L, y.base = x) ∧ RoadKit.Keep h h' [x] ∧ h'.size = h.size + 1 ∧ RoadKit.Exa Z h' x ST ∧ RoadKit.Fld Z h' x ST "value" "[B" (.ref h.size) ∧ RoadKit.Fld Z h' x ST "coder" "B" (.int 0) ∧
  (∃ kb, Z.vm.findClass "[B" = some kb ∧ RoadKit.Arv Z h' h.size kb .byte zn (cs.map fun c => .int (lo8 c)) (.int 0)) ∧
  ∀ (O n d : String) (w : Value), RoadKit.Fld Z h x O n d w → RoadKit.slotOf Z O n d ≠ RoadKit.slotOf Z ST "value" "[B" → RoadKit.slotOf Z O n d ≠ RoadKit.slotOf Z ST "coder" "B" → RoadKit.Fld Z h' x O n d w
/-- **new String(chars) AT A CALL, THE ARRAYS AS LISTS**: the char[] at b holds cs, not empty, no char above 255 -/
theorem backArv {p : Program} {l : Launch} {e : Env} {R : Room} {s : State} {args : Array Value} {below : List Frame} {len W : Nat} {Z : State} {a0 : Array Value} {h : Heap} (hZ : Z.Warmed39 s.vm) (hw : ∀ d ∈ words, d.before a0 Z = true) {kI : Nat} (wi : (Jvm.Cond.instantiable ST kI).before a0 Z = true)
    {x b : Addr} {k : ClassId} {zn z : Int32} {cs : List Int32} {dv v0 c0 : Value} (E : RoadKit.Exa Z h x ST) (V : RoadKit.Fld Z h x ST "value" "[B" v0) (C : RoadKit.Fld Z h x ST "coder" "B" c0) (K : RoadKit.Arv Z h b k .char zn (cs.map Value.int) dv) (S : RoadKit.Sta Z h ST "COMPACT_STRINGS" "Z" (.int z)) (hz : ¬ z = 0)
    (hlen : zn.toNatClampNeg = cs.length) (h0 : 0 < cs.length) (hbig : cs.length ≤ 536870912) (hall : ∀ c ∈ cs, ¬ 255 < c) (hfr : 4 ≤ R.frames) (hlo : W + 65 ≤ R.locals) :
    Back l R p e below s args New1.yN len W (fun P a => a = #[.ref x, .ref b] ∧ P.U.heap = h ∧ P.cells + 1 ≤ R.cells ∧ P.slots + cs.length ≤ R.slots)
      (fun P _ v B => ∃ L, QA Z x zn cs h v B.U.heap L ∧ B.locs = P.locs ++ L ∧ B.cells = P.cells + 1 ∧ B.slots = P.slots + cs.length) := by
  obtain ⟨A, K1, K2, K3, K4, K5, K6⟩ := K
  have e : A.slots.size = cs.length := K3.trans hlen
  have hat : ∀ (i : Nat) (hi : i < cs.length), A.slots[i]? = some (.int cs[i]) := fun i hi => by rw [K5 i (by omega)]; simp [List.getD_eq_getElem?_getD, hi]
  have hcv : ∀ (i : Nat) (hi : i < cs.length), cv A i = cs[i] := fun i hi => by unfold cv; rw [hat i hi]
  have hty : Typed .char A := fun i v hv => by
    have hi : i < A.slots.size := (Array.getElem?_eq_some_iff.mp hv).1
    have q := K5 i hi
    rw [hv] at q
    rw [Option.some.inj q]
    exact K6 i hi
  refine Back.mono (back hZ hw wi E V C K1 hty S hz (by omega) (by omega) (fun i hi => by rw [hcv i (by omega)]; exact hall _ (List.getElem_mem _)) hfr hlo) (fun P a hp => ⟨hp.1, hp.2.1, hp.2.2.1, by rw [e]; exact hp.2.2.2⟩) (fun P a v B hp hq => ?_)
  obtain ⟨L, ⟨q1, q2, q3, q4, q5, q6, q7, ⟨V', v1, v2, v3, v4, v5⟩, q9⟩, hl, hc, hs⟩ := hq
  refine ⟨L, ⟨q1, q2, q3, q4, q5, q6, q7, ⟨V'.cls, v3, V', v1, rfl, by rw [v4, e, hlen], K4, fun i hi => ?_, fun i hi => ?_⟩, q9⟩, hl, hc, by rw [hs, e]⟩
  · have hi' : i < cs.length := by omega
    rw [v5 i (by omega), hcv i hi']; simp [List.getD_eq_getElem?_getD, hi']
  · have hi' : i < cs.length := by omega
    simp only [List.getD_eq_getElem?_getD, List.getElem?_map, List.getElem?_eq_getElem hi', Option.map_some, Option.getD_some]
    exact fits_lo8 _
end StrChars.Road
namespace StrChars.Road
open Jvm Sem ClassFile Op Lib Jvm.Stand Jvm.Free Jvm.Free.XT
/-- WHAT COMES BACK, in the writer's own shape -/
def QV (Z : State) (x : Addr) (N : Int32) (bs : List Int32) (h : Heap) (n0 : Nat) (v : Option Value) (h' : Heap) (L : List Loc) : Prop := v = none ∧ RoadKit.Fr n0 L ∧ RoadKit.Keep h h' [x] ∧ RoadKit.Exa Z h' x ST ∧ RoadKit.Fld Z h' x ST "coder" "B" (.int 0) ∧
  ∃ (t : Addr) (kb : ClassId), n0 ≤ t ∧ h.size ≤ t ∧ ¬ t = x ∧ RoadKit.Fld Z h' x ST "value" "[B" (.ref t) ∧ RoadKit.Arv Z h' t kb .byte N (bs.map Value.int) (.int 0)
/-- **new String(chars) AT A CALL, FOR THE WRITER**: a char[] of n known ints, each 0 to 255 -/
theorem backV {p : Program} {l : Launch} {e : Env} {R : Room} {s : State} {args : Array Value} {below : List Frame} {len W : Nat} {Z : State} {a0 : Array Value} {h : Heap} (hZ : Z.Warmed39 s.vm) (hw : ∀ d ∈ words, d.before a0 Z = true) {kI : Nat} (wi : (Jvm.Cond.instantiable ST kI).before a0 Z = true)
    {x b : Addr} {kC : ClassId} {cs bs : List Int32} {d v0 c0 : Value} {z N : Int32} {n n0 : Nat} (hx0 : n0 ≤ x) (hh0 : n0 ≤ h.size) (E : RoadKit.Exa Z h x ST) (V : RoadKit.Fld Z h x ST "value" "[B" v0) (C : RoadKit.Fld Z h x ST "coder" "B" c0) (K : RoadKit.Arv Z h b kC .char N (cs.map Value.int) d) (S : RoadKit.Sta Z h ST "COMPACT_STRINGS" "Z" (.int z)) (hz : ¬ z = 0)
    (hn : cs.length = n) (hN : N = Int32.ofNat n) (l0 : 0 < n) (l2 : n ≤ 4000) (hp : ∀ c ∈ cs, ¬ c < 0 ∧ ¬ (255 : Int32) < c) (hb : bs = cs.map (fun c => c.toInt8.toInt32)) (hfr : 4 ≤ R.frames) (hlo : W + 65 ≤ R.locals) :
    Back l R p e below s args (⟨"java/lang/String", "<init>", "([C)V"⟩ : MethodName) len W (fun P a => a = #[.ref x, .ref b] ∧ P.U.heap = h ∧ P.cells + 1 ≤ R.cells ∧ P.slots + n ≤ R.slots)
      (fun P _ v B => ∃ L, QV Z x N bs h n0 v B.U.heap L ∧ B.locs = P.locs ++ L ∧ B.cells = P.cells + 1 ∧ B.slots = P.slots + n) := by
  subst hn hN hb
  refine Back.mono (backArv hZ hw wi E V C K S hz (n32 (by omega)) l0 (by omega) (fun c hc => (hp c hc).2) hfr hlo) (fun P a hp => hp) (fun P a v B hp hq => ?_)
  obtain ⟨L, ⟨q1, q2, q3, q4, q5, q6, q7, ⟨kb, v1, v2⟩, q9⟩, hl, hc, hs⟩ := hq
  exact ⟨L, ⟨q1, fun y hy => by rw [q2 y hy]; exact hx0, q3, q5, q7, h.size, kb, hh0, Nat.le_refl _, Nat.ne_of_gt E.lt, q6, by rw [List.map_map]; exact v2⟩, hl, hc, hs⟩
end StrChars.Road
end Jvm.Pilot.@@N@@
namespace Jvm.Pilot.@@N@@
open Jvm Jvm.ClassFile Sem Op Lib Jvm.Free Jvm.Stand Jvm.LawKit Jvm.RoadKit Bundle Jvm.OwnKit Jvm.Pilot.@@N@@.Jvm.D
section StrCalls
variable {p : Program} {l : Launch} {e : Env} {R : Room} {s : State} {m : MethodId} {args : Array Value} {below : List Frame} {meth : Method} {c : Code}
  {own : String} {bytes : ByteArray} {maxL : Nat} {ret : Option FieldType} {nm : String} {Z : State} {EL : List (String × Nat)} {nw : Bool} {us : List Addr} {bs : List (String × Nat × Addr)}
  {T : State} {h : Heap} {cells slots : Nat} {Q : Option Value → Heap → Prop} {kk nn : Nat} {a0 : Array Value} {pc : Nat} {Ls : Array Slot} {st : List Value}

theorem pd_len : parseMethodDescriptor "()I" = some ⟨[], some .int⟩ := by decide +kernel
theorem pd_cha : parseMethodDescriptor "(I)C" = some ⟨[.int], some .char⟩ := by decide +kernel
theorem pd_seq : parseMethodDescriptor "(Ljava/lang/Object;)Z" = some ⟨[.object "java/lang/Object"], some .boolean⟩ := by decide +kernel
theorem pd_emp : parseMethodDescriptor "()Z" = some ⟨[], some .boolean⟩ := by decide +kernel
theorem pd_sin : parseMethodDescriptor "([C)V" = some ⟨[.array .char], none⟩ := by decide +kernel
abbrev yLen : MethodName := ⟨"java/lang/String", "length", "()I"⟩
abbrev yCha : MethodName := ⟨"java/lang/String", "charAt", "(I)C"⟩
abbrev ySeq : MethodName := ⟨"java/lang/String", "equals", "(Ljava/lang/Object;)Z"⟩
abbrev yEmp : MethodName := ⟨"java/lang/String", "isEmpty", "()Z"⟩
abbrev ySin : MethodName := ⟨"java/lang/String", "<init>", "([C)V"⟩
theorem up255 {cs : List Int32} (h : ∀ c ∈ cs, ¬ c < 0 ∧ ¬ (255 : Int32) < c) : ∀ c ∈ cs, ¬ c < 0 ∧ ¬ (65535 : Int32) < c := fun c hc => ⟨(h c hc).1, fun q => (h c hc).2 (by
  have h1 := (h c hc).2
  rw [Int32.lt_iff_toInt_lt] at q ⊢
  have : (65535 : Int32).toInt = 65535 := by decide
  have : (255 : Int32).toInt = 255 := by decide
  omega)⟩
/-- new String(char[]) of one or more signs below 256 -/
theorem g_strNew (X : St p l e R s m args below meth c own bytes maxL ret nm Z EL nw us bs T h cells slots) {ix : Nat} {a b : Addr} {kC : ClassId} {cs : List Int32} {vs : List Value} {dv v0 c0 : Value} {zc N0 : Int32} {k : Nat} (w1 : (Jvm.Cond.methodLink own ix ySin).before a0 Z = true) (w2 : (Jvm.Cond.instanceMethod ySin).before a0 Z = true) (w4 : (Jvm.Cond.code ySin StrChars.New1.yB 2 none).before a0 Z = true)
    (hws : ∀ d ∈ StrChars.Road.words, d.before a0 Z = true) (wI : (Jvm.Cond.instantiable "java/lang/String" k).before a0 Z = true) (C : Sta Z h "java/lang/String" "COMPACT_STRINGS" "Z" (.int zc)) (hz : ¬ zc = 0) (E : Exa Z h a "java/lang/String") (V : Fld Z h a "java/lang/String" "value" "[B" v0) (Co : Fld Z h a "java/lang/String" "coder" "B" c0)
    (A : Arv Z h b kC .char N0 vs dv) (hvs : vs = cs.map Value.int) (n : Nat) (hn : cs.length = n) (hN : N0 = Int32.ofNat n) (l0 : 0 < n) (l2 : n ≤ 4000) (hp255 : ∀ c ∈ cs, ¬ c < 0 ∧ ¬ (255 : Int32) < c) (ha : a ∈ us) (hsize : Ls.size = maxL)
    (W : Nat) (hW : (st.map fun v => v.category).sum ≤ W) (hf : 4 ≤ R.frames) (hl : W + 65 ≤ R.locals) {ck cs' : Nat} (hck : cells + 1 = ck) (hcs : slots + n = cs') (hc : ck ≤ R.cells) (hs : cs' ≤ R.slots) (hd : decode bytes pc = .ok (.invokespecial ix, 3)) (pc' : Nat) (hp : pc + 3 = pc')
    (K : ∀ T' h', St p l e R s m args below meth c own bytes maxL ret nm Z EL nw us bs T' h' ck cs' → Keep h h' [a] →
      (∃ (t : Addr) (kb : ClassId), Exa Z h' a "java/lang/String" ∧ Fld Z h' a "java/lang/String" "coder" "B" (.int 0) ∧ Fld Z h' a "java/lang/String" "value" "[B" (.ref t) ∧ Arv Z h' t kb .byte (Int32.ofNat cs.length) ((cs.map fun c => c.toInt8.toInt32).map Value.int) (.int 0) ∧ (∀ c ∈ cs, ¬ c < 0 ∧ ¬ (255 : Int32) < c) ∧ cs.length ≤ 4000 ∧ h.size ≤ t) →
      Goes p e below s Z EL nw Q kk nn (T'.setTop (mkF m pc' Ls st))) : Goes p e below s Z EL nw Q kk nn (T.setTop (mkF m pc Ls (.ref b :: .ref a :: st))) := by
  subst hp hck hcs hvs hN
  obtain ⟨cx, vm0, locs, Y, N, eT, hS, hZ, hown, hE, hC, hU, hWn⟩ := X
  obtain ⟨u1, u2, u3⟩ := hU a ha
  obtain ⟨v, vm₁, B, -, Y', ⟨L, ⟨rfl, N', K', E', Co', t, kb, -, q2, -, V', A'⟩, q4, q5, q6⟩, stp⟩ := Y.specialBack cx.1 (own := own) (index := ix) (y := ySin) rfl hown (mvT (s := s.setVm vm0) hZ w1) (mvT (s := s.setVm vm0) hZ w2) (mvT (s := s.setVm vm0) hZ w4) (by decide)
    (StrChars.Road.backV (W := W) (s := s.setVm vm0) hZ hws wI (bs := cs.map fun c => c.toInt8.toInt32) u1 hE.1 E V Co A C hz hn rfl l0 l2 hp255 rfl hf hl) (g := mkF m pc Ls (.ref b :: .ref a :: st)) rfl (by rw [cx.2.2.1]; exact hsize) (Steps.refl _) (a := a) (argsL := [.ref b]) (rest := st) (lenOf pd_sin rfl) rfl (by show 2 * 0 + _ ≤ _; omega) (hb cx.2.1 hd)
    (fun _ _ => ⟨rfl, eT, hc, hs⟩)
  dsimp only [Pt.U, Pt.locs, Pt.cells, Pt.slots] at q4 q5 q6 Y'
  have hsf : ∀ x ∈ [a], Safe Z EL vm0 h x := fun x hx => by cases List.mem_singleton.mp hx; exact u3
  refine (K B.U B.U.heap ⟨cx, vm0, locs ++ L, ?_, N.app N', rfl, ⟨hS.1, hS.2.mono K'.1⟩, hZ, hown, ext_keep hE K' (fun x hx => by cases List.mem_singleton.mp hx; exact u1), hC.trans (CHr.keep K' hsf hC.1), fun x hx => ⟨(hU x hx).1, Nat.lt_of_lt_of_le (hU x hx).2.1 K'.1, Safe.keep K' hsf hC.1 (hU x hx).2.2⟩, hWn⟩ K' ⟨t, kb, E', Co', V', by rw [hn]; exact A', hp255, by omega, q2⟩).step fun t k => stp.trans k
  rw [q4, q5, q6] at Y'; exact Y'
end StrCalls
end Jvm.Pilot.@@N@@
namespace Jvm.Pilot.@@N@@
open Jvm Jvm.ClassFile Sem Op Lib Jvm.Free Jvm.Stand Jvm.LawKit Jvm.RoadKit Bundle Jvm.OwnKit Jvm.Pilot.@@N@@.Jvm.D
def EL : List (String × Nat) := consts_1
abbrev nw : Bool := false
/-- what holds of the tables and of the JDK's statics at the start -/
def Gl (Z : State) (a0 : Array Value) : Prop := (∀ d ∈ tables_1, d.before a0 Z = true) ∧ EW Z a0 EL ∧ (∀ a ∈ Bundle.stringAtoms, a.before a0 Z = true) ∧
  (∃ zc : Int32, Sta Z Z.heap "java/lang/String" "COMPACT_STRINGS" "Z" (.int zc) ∧ ¬ zc = 0) ∧
  (∃ fm : Value, Sta Z Z.heap "jdk/internal/util/Preconditions" "SIOOBE_FORMATTER" "Ljava/util/function/BiFunction;" fm ∧ fm.isRef = true)
theorem hwsV {Z : State} {a0 : Array Value} (hw : ∀ d ∈ tables_1, d.before a0 Z = true) : ∀ d ∈ StrChars.Road.words, d.before a0 Z = true := fun d hd => hw d ((by decide +kernel : ∀ d ∈ StrChars.Road.words, d ∈ tables_1) d hd)
theorem pd_0 : parseMethodDescriptor "(I)I" = some ⟨[.int], (some .int)⟩ := by decide +kernel
theorem pd_1 : parseMethodDescriptor "(IZ)C" = some ⟨[.int, .boolean], (some .char)⟩ := by decide +kernel
theorem pd_2 : parseMethodDescriptor "(IZ)Ljava/lang/String;" = some ⟨[.int, .boolean], (some (.object "java/lang/String"))⟩ := by decide +kernel
theorem pd_3 : parseMethodDescriptor "(IIZ)Z" = some ⟨[.int, .int, .boolean], (some .boolean)⟩ := by decide +kernel
theorem pd_4 : parseMethodDescriptor "(C)Z" = some ⟨[.char], (some .boolean)⟩ := by decide +kernel
theorem pd_5 : parseMethodDescriptor "(I)Z" = some ⟨[.int], (some .boolean)⟩ := by decide +kernel
theorem pd_6 : parseMethodDescriptor "(Ljava/lang/String;)Z" = some ⟨[(.object "java/lang/String")], (some .boolean)⟩ := by decide +kernel
theorem pd_7 : parseMethodDescriptor "(Ljava/lang/String;Ljava/lang/String;)Ljava/lang/String;" = some ⟨[(.object "java/lang/String"), (.object "java/lang/String")], (some (.object "java/lang/String"))⟩ := by decide +kernel
theorem pd_8 : parseMethodDescriptor "(Ljava/lang/Object;Ljava/lang/String;)Ljava/lang/Object;" = some ⟨[(.object "java/lang/Object"), (.object "java/lang/String")], (some (.object "java/lang/Object"))⟩ := by decide +kernel
theorem pd_9 : parseMethodDescriptor "()V" = some ⟨[], none⟩ := by decide +kernel
theorem pd_10 : parseMethodDescriptor "(Ljava/lang/String;Ljava/lang/String;Ljava/lang/String;)V" = some ⟨[(.object "java/lang/String"), (.object "java/lang/String"), (.object "java/lang/String")], none⟩ := by decide +kernel
theorem pd_11 : parseMethodDescriptor "(Ljava/lang/Object;)Z" = some ⟨[(.object "java/lang/Object")], (some .boolean)⟩ := by decide +kernel
theorem pd_12 : parseMethodDescriptor "(Ljava/lang/CharSequence;)Z" = some ⟨[(.object "java/lang/CharSequence")], (some .boolean)⟩ := by decide +kernel
theorem pd_13 : parseMethodDescriptor "()Ljava/lang/String;" = some ⟨[], (some (.object "java/lang/String"))⟩ := by decide +kernel
theorem pd_14 : parseMethodDescriptor "(Ljava/lang/String;)I" = some ⟨[(.object "java/lang/String")], (some .int)⟩ := by decide +kernel
theorem pd_15 : parseMethodDescriptor "([B[B)I" = some ⟨[(.array .byte), (.array .byte)], (some .int)⟩ := by decide +kernel
theorem pd_16 : parseMethodDescriptor "([BI[BII)I" = some ⟨[(.array .byte), .int, (.array .byte), .int, .int], (some .int)⟩ := by decide +kernel
def isoI (c : Int32) : Int32 := if ¬ (159 : Int32) < c ∧ (¬ c < 127 ∨ XT.ushr c 5 = 0) then 1 else 0
theorem nar_iso (c : Int32) : nar .boolean (isoI c) = isoI c := by unfold isoI; split <;> rfl
theorem lo47 {c : Int32} (h : ¬ c < 0 ∧ ¬ (255 : Int32) < c) (n : ¬ c = 47) : ¬ lo c = 47 := fun e => n (by rw [← lo_mask h, e]; decide)
theorem of_pred {n : Nat} (h : 0 < n) : Int32.ofNat n - 1 = Int32.ofNat (n - 1) := by
  obtain ⟨k, rfl⟩ : ∃ k, n = k + 1 := ⟨n - 1, by omega⟩
  rw [← of_succ]
  simp
theorem fin256p {c : Int32} (h : ¬ c < 0 ∧ ¬ (255 : Int32) < c) : ∃ k : Fin 256, c = Int32.ofNat k.val := by
  obtain ⟨h1, h2⟩ := h
  rw [Int32.lt_iff_toInt_lt, i0] at h1
  rw [Int32.lt_iff_toInt_lt, i255] at h2
  refine ⟨⟨c.toInt.toNat, by omega⟩, Int32.toInt_inj.mp ?_⟩
  rw [Int32.toInt_ofNat_of_lt (by show c.toInt.toNat < _; omega)]
  show c.toInt = (c.toInt.toNat : Int)
  omega
theorem pd_17 : parseMethodDescriptor "()I" = some ⟨[], (some .int)⟩ := by decide +kernel
theorem pd_18 : parseMethodDescriptor "()B" = some ⟨[], (some .byte)⟩ := by decide +kernel
theorem pd_19 : parseMethodDescriptor "()Z" = some ⟨[], (some .boolean)⟩ := by decide +kernel
theorem pd_20 : parseMethodDescriptor "(I)C" = some ⟨[.int], (some .char)⟩ := by decide +kernel
theorem pd_21 : parseMethodDescriptor "([BI)C" = some ⟨[(.array .byte), .int], (some .char)⟩ := by decide +kernel
theorem pd_22 : parseMethodDescriptor "(II)V" = some ⟨[.int, .int], none⟩ := by decide +kernel
theorem pd_23 : parseMethodDescriptor "(IILjava/util/function/BiFunction;)I" = some ⟨[.int, .int, (.object "java/util/function/BiFunction")], (some .int)⟩ := by decide +kernel
theorem pd_24 : parseMethodDescriptor "([B[B)Z" = some ⟨[(.array .byte), (.array .byte)], (some .boolean)⟩ := by decide +kernel
theorem d16_0 : decode jdk_42_method_152_code 0 = .ok (.getstatic 38, 3) := by decide +kernel
theorem d16_3 : decode jdk_42_method_152_code 3 = .ok (.ifCond .eq 10, 3) := by decide +kernel
theorem d16_6 : decode jdk_42_method_152_code 6 = .ok (.aload_n 0, 1) := by decide +kernel
theorem d16_7 : decode jdk_42_method_152_code 7 = .ok (.getfield 15, 3) := by decide +kernel
theorem d16_10 : decode jdk_42_method_152_code 10 = .ok (.goto 4, 3) := by decide +kernel
theorem d16_13 : decode jdk_42_method_152_code 13 = .ok (.iconst 1, 1) := by decide +kernel
theorem d16_14 : decode jdk_42_method_152_code 14 = .ok (.ireturn, 1) := by decide +kernel
theorem pn_0 : plainName "java/lang/String" = true := by first | (simp [plainName, overriddenIn]; done) | decide +kernel
set_option maxRecDepth 65536 in
set_option maxHeartbeats 40000000 in
theorem c_cod (l : Launch) (Z : State) (a0 : Array Value) (G : Gl Z a0) (a : Addr) (h : Heap) (C : Fld Z h a "java/lang/String" "coder" "B" (.int (0 : Int32))) :
    Ctr l Z EL nw (⟨"java/lang/String", "coder", "()B"⟩ : MethodName) jdk_42_method_152_code 1 (Option.some Jvm.ClassFile.FieldType.byte) ({ frames := 0, cells := 0, slots := 0, locals := 0 } : Room) #[.ref a] h [] (PureQ h fun w => w = .int 0) := by
  obtain ⟨hw, hEL, hSA, ⟨zc, SC, hz⟩, ⟨fm, SF, hfm⟩⟩ := id G
  refine Ctr.enter (own := "java/lang/String") (nm := "coder") rfl rfl hEL (plainFor_of_name pn_0) #[.val (.ref a)] (fun m => by first | rfl | (simp [entryFrame, mkF, argsToLocals, Value.category, maxLocals]; done)) ?_
  intro p e s m below meth c T X
  refine g_getS X (Or.inl (hw _ (List.mem_of_getElem? (i := 35) rfl))) (host := "") Via.refl (SC.ext X.old) d16_0 3 rfl ?_
  intro T1 X2
  refine g_ifNo X2 d16_3 (XT.ii_eq_f hz) 6 rfl ?_
  refine g_aloadN X2 d16_6 rfl rfl 7 rfl ?_
  refine g_getF X2 (Or.inl (hw _ (List.mem_of_getElem? (i := 28) rfl))) (host := "") Via.refl C d16_7 10 rfl ?_
  intro T3 X4
  refine g_goto X4 d16_10 14 (by decide) (by decide) ?_
  exact g_retN X4 (t := .byte) rfl (by simp) d16_14 _ rfl (by decide) (by decide) ⟨rfl, _, rfl, rfl⟩
theorem d18_0 : decode jdk_42_method_154_code 0 = .ok (.getstatic 38, 3) := by decide +kernel
theorem d18_3 : decode jdk_42_method_154_code 3 = .ok (.ifCond .eq 14, 3) := by decide +kernel
theorem d18_6 : decode jdk_42_method_154_code 6 = .ok (.aload_n 0, 1) := by decide +kernel
theorem d18_7 : decode jdk_42_method_154_code 7 = .ok (.getfield 15, 3) := by decide +kernel
theorem d18_10 : decode jdk_42_method_154_code 10 = .ok (.ifCond .ne 7, 3) := by decide +kernel
theorem d18_13 : decode jdk_42_method_154_code 13 = .ok (.iconst 1, 1) := by decide +kernel
theorem d18_14 : decode jdk_42_method_154_code 14 = .ok (.goto 4, 3) := by decide +kernel
theorem d18_17 : decode jdk_42_method_154_code 17 = .ok (.iconst 0, 1) := by decide +kernel
theorem d18_18 : decode jdk_42_method_154_code 18 = .ok (.ireturn, 1) := by decide +kernel
set_option maxRecDepth 65536 in
set_option maxHeartbeats 40000000 in
theorem c_isl (l : Launch) (Z : State) (a0 : Array Value) (G : Gl Z a0) (a : Addr) (h : Heap) (C : Fld Z h a "java/lang/String" "coder" "B" (.int (0 : Int32))) :
    Ctr l Z EL nw (⟨"java/lang/String", "isLatin1", "()Z"⟩ : MethodName) jdk_42_method_154_code 1 (Option.some Jvm.ClassFile.FieldType.boolean) ({ frames := 0, cells := 0, slots := 0, locals := 0 } : Room) #[.ref a] h [] (PureQ h fun w => w = .int 1) := by
  obtain ⟨hw, hEL, hSA, ⟨zc, SC, hz⟩, ⟨fm, SF, hfm⟩⟩ := id G
  refine Ctr.enter (own := "java/lang/String") (nm := "isLatin1") rfl rfl hEL (plainFor_of_name pn_0) #[.val (.ref a)] (fun m => by first | rfl | (simp [entryFrame, mkF, argsToLocals, Value.category, maxLocals]; done)) ?_
  intro p e s m below meth c T X
  refine g_getS X (Or.inl (hw _ (List.mem_of_getElem? (i := 35) rfl))) (host := "") Via.refl (SC.ext X.old) d18_0 3 rfl ?_
  intro T1 X2
  refine g_ifNo X2 d18_3 (XT.ii_eq_f hz) 6 rfl ?_
  refine g_aloadN X2 d18_6 rfl rfl 7 rfl ?_
  refine g_getF X2 (Or.inl (hw _ (List.mem_of_getElem? (i := 28) rfl))) (host := "") Via.refl C d18_7 10 rfl ?_
  intro T3 X4
  refine g_ifNo X4 d18_10 (XT.ii_ne_f (by decide)) 13 rfl ?_
  refine g_iconst X4 (1 : Int32) d18_13 (by decide) 14 rfl ?_
  refine g_goto X4 d18_14 18 (by decide) (by decide) ?_
  exact g_retN X4 (t := .boolean) rfl (by simp) d18_18 _ rfl (by decide) (by decide) ⟨rfl, _, rfl, rfl⟩
theorem d15_0 : decode jdk_42_method_54_code 0 = .ok (.aload_n 0, 1) := by decide +kernel
theorem d15_1 : decode jdk_42_method_54_code 1 = .ok (.getfield 9, 3) := by decide +kernel
theorem d15_4 : decode jdk_42_method_54_code 4 = .ok (.arraylength, 1) := by decide +kernel
theorem d15_5 : decode jdk_42_method_54_code 5 = .ok (.aload_n 0, 1) := by decide +kernel
theorem d15_6 : decode jdk_42_method_54_code 6 = .ok (.invokevirtual 335, 3) := by decide +kernel
theorem d15_9 : decode jdk_42_method_54_code 9 = .ok (.ishr, 1) := by decide +kernel
theorem d15_10 : decode jdk_42_method_54_code 10 = .ok (.ireturn, 1) := by decide +kernel
set_option maxRecDepth 65536 in
set_option maxHeartbeats 40000000 in
theorem c_len (l : Launch) (Z : State) (a0 : Array Value) (G : Gl Z a0) (a t : Addr) (kb : ClassId) (cs : List Int32) (h : Heap) (E : Exa Z h a "java/lang/String") (C : Fld Z h a "java/lang/String" "coder" "B" (.int (0 : Int32))) (V : Fld Z h a "java/lang/String" "value" "[B" (.ref t)) (A : Arv Z h t kb .byte (Int32.ofNat cs.length) (bys cs) (.int (0 : Int32))) (hcs : ∀ c ∈ cs, ¬ c < 0 ∧ ¬ (255 : Int32) < c) (hlen : cs.length ≤ 4000) :
    Ctr l Z EL nw (⟨"java/lang/String", "length", "()I"⟩ : MethodName) jdk_42_method_54_code 1 (Option.some Jvm.ClassFile.FieldType.int) ({ frames := 1, cells := 0, slots := 0, locals := 13 } : Room) #[.ref a] h [] (PureQ h fun w => w = .int (Int32.ofNat cs.length)) := by
  obtain ⟨hw, hEL, hSA, ⟨zc, SC, hz⟩, ⟨fm, SF, hfm⟩⟩ := id G
  refine Ctr.enter (own := "java/lang/String") (nm := "length") rfl rfl hEL (plainFor_of_name pn_0) #[.val (.ref a)] (fun m => by first | rfl | (simp [entryFrame, mkF, argsToLocals, Value.category, maxLocals]; done)) ?_
  intro p e s m below meth c T X
  refine g_aloadN X d15_0 rfl rfl 1 rfl ?_
  refine g_getF X (Or.inl (hw _ (List.mem_of_getElem? (i := 27) rfl))) (host := "") Via.refl V d15_1 4 rfl ?_
  intro T1 X2
  refine g_arrlen X2 A d15_4 5 rfl ?_
  refine g_aloadN X2 d15_5 rfl rfl 6 rfl ?_
  refine g_callVp X2 (hw _ (List.mem_of_getElem? (i := 74) rfl)) (hw _ (List.mem_of_getElem? (i := 75) rfl)) (hw _ (List.mem_of_getElem? (i := 77) rfl)) (hw _ (List.mem_of_getElem? (i := 76) rfl)) (hw _ (List.mem_of_getElem? (i := 9) rfl)) (hw _ (List.mem_of_getElem? (i := 78) rfl)) (nfSel (hw _ (List.mem_of_getElem? (i := 77) rfl))) (by decide) E (c_cod l Z a0 G a h C) (by simp) (argsL := []) (rest := [.int (Int32.ofNat cs.length)]) pd_18 rfl rfl rfl rfl 1 (Nat.le_of_eq rfl) (by decide) (by decide) (ck := 0) rfl (cs := 0) rfl (by decide) (by decide) d15_6 9 rfl ?_
  intro w5 T3 X4 hq6
  subst hq6
  refine g_ishr X4 d15_9 (Int32.ofNat cs.length) (shr0 _) 10 rfl ?_
  exact g_retI X4 rfl d15_10 (by decide) (by decide) ⟨rfl, _, rfl, rfl⟩
theorem d21_0 : decode jdk_41_method_11_code 0 = .ok (.iload_n 0, 1) := by decide +kernel
theorem d21_1 : decode jdk_41_method_11_code 1 = .ok (.ifCond .lt 8, 3) := by decide +kernel
theorem d21_4 : decode jdk_41_method_11_code 4 = .ok (.iload_n 0, 1) := by decide +kernel
theorem d21_5 : decode jdk_41_method_11_code 5 = .ok (.iload_n 1, 1) := by decide +kernel
theorem d21_6 : decode jdk_41_method_11_code 6 = .ok (.if_icmp .lt 10, 3) := by decide +kernel
theorem d21_9 : decode jdk_41_method_11_code 9 = .ok (.aload_n 2, 1) := by decide +kernel
theorem d21_10 : decode jdk_41_method_11_code 10 = .ok (.iload_n 0, 1) := by decide +kernel
theorem d21_11 : decode jdk_41_method_11_code 11 = .ok (.iload_n 1, 1) := by decide +kernel
theorem d21_12 : decode jdk_41_method_11_code 12 = .ok (.invokestatic 95, 3) := by decide +kernel
theorem d21_15 : decode jdk_41_method_11_code 15 = .ok (.athrow, 1) := by decide +kernel
theorem d21_16 : decode jdk_41_method_11_code 16 = .ok (.iload_n 0, 1) := by decide +kernel
theorem d21_17 : decode jdk_41_method_11_code 17 = .ok (.ireturn, 1) := by decide +kernel
theorem pn_1 : plainName "jdk/internal/util/Preconditions" = true := by first | (simp [plainName, overriddenIn]; done) | decide +kernel
set_option maxRecDepth 65536 in
set_option maxHeartbeats 40000000 in
theorem c_pci (l : Launch) (Z : State) (a0 : Array Value) (G : Gl Z a0) (i n : Int32) (v : Value) (h : Heap) (hv : v.isRef = true) (h0 : ¬ i < (0 : Int32)) (h1 : i < n) :
    Ctr l Z EL nw (⟨"jdk/internal/util/Preconditions", "checkIndex", "(IILjava/util/function/BiFunction;)I"⟩ : MethodName) jdk_41_method_11_code 3 (Option.some Jvm.ClassFile.FieldType.int) ({ frames := 0, cells := 0, slots := 0, locals := 0 } : Room) #[.int i, .int n, v] h [] (PureQ h fun w => w = .int i) := by
  obtain ⟨hw, hEL, hSA, ⟨zc, SC, hz⟩, ⟨fm, SF, hfm⟩⟩ := id G
  refine Ctr.enter (own := "jdk/internal/util/Preconditions") (nm := "checkIndex") rfl rfl hEL (plainFor_of_name pn_1) #[.val (.int i), .val (.int n), .val (v)] (fun m => by rcases ref_cases hv with rfl | ⟨r, rfl⟩ <;> rfl) ?_
  intro p e s m below meth c T X
  refine g_iloadN X d21_0 rfl 1 rfl ?_
  refine g_ifNo X d21_1 (XT.ii_lt_f h0) 4 rfl ?_
  refine g_iloadN X d21_4 rfl 5 rfl ?_
  refine g_iloadN X d21_5 rfl 6 rfl ?_
  refine g_icmpYes X d21_6 (XT.ii_lt_t h1) 16 (by decide) (by decide) ?_
  refine g_iloadN X d21_16 rfl 17 rfl ?_
  exact g_retI X rfl d21_17 (by decide) (by decide) ⟨rfl, _, rfl, rfl⟩
theorem d20_0 : decode jdk_42_method_155_code 0 = .ok (.iload_n 0, 1) := by decide +kernel
theorem d20_1 : decode jdk_42_method_155_code 1 = .ok (.iload_n 1, 1) := by decide +kernel
theorem d20_2 : decode jdk_42_method_155_code 2 = .ok (.getstatic 1053, 3) := by decide +kernel
theorem d20_5 : decode jdk_42_method_155_code 5 = .ok (.invokestatic 1059, 3) := by decide +kernel
theorem d20_8 : decode jdk_42_method_155_code 8 = .ok (.pop, 1) := by decide +kernel
theorem d20_9 : decode jdk_42_method_155_code 9 = .ok (.return_, 1) := by decide +kernel
set_option maxRecDepth 65536 in
set_option maxHeartbeats 40000000 in
theorem c_ci (l : Launch) (Z : State) (a0 : Array Value) (G : Gl Z a0) (i n : Int32) (h : Heap) (h0 : ¬ i < (0 : Int32)) (h1 : i < n) :
    Ctr l Z EL nw (⟨"java/lang/String", "checkIndex", "(II)V"⟩ : MethodName) jdk_42_method_155_code 2 (Option.none : Option Jvm.ClassFile.FieldType) ({ frames := 1, cells := 0, slots := 0, locals := 14 } : Room) #[.int i, .int n] h [] (VoidQ fun h' => h = h') := by
  obtain ⟨hw, hEL, hSA, ⟨zc, SC, hz⟩, ⟨fm, SF, hfm⟩⟩ := id G
  refine Ctr.enter (own := "java/lang/String") (nm := "checkIndex") rfl rfl hEL (plainFor_of_name pn_0) #[.val (.int i), .val (.int n)] (fun m => by first | rfl | (simp [entryFrame, mkF, argsToLocals, Value.category, maxLocals]; done)) ?_
  intro p e s m below meth c T X
  refine g_iloadN X d20_0 rfl 1 rfl ?_
  refine g_iloadN X d20_1 rfl 2 rfl ?_
  refine g_getS X (Or.inl (hw _ (List.mem_of_getElem? (i := 100) rfl))) (host := "") Via.refl (SF.ext X.old) d20_2 5 rfl ?_
  intro T1 X2
  refine g_callSp X2 (hw _ (List.mem_of_getElem? (i := 102) rfl)) (hw _ (List.mem_of_getElem? (i := 103) rfl)) (hw _ (List.mem_of_getElem? (i := 101) rfl)) (hw _ (List.mem_of_getElem? (i := 104) rfl)) (by decide) (c_pci l Z a0 G i n fm h hfm h0 h1) (by simp) (argsL := [.int i, .int n, fm]) (rest := []) pd_23 rfl rfl rfl rfl 0 (Nat.le_of_eq rfl) (by decide) (by decide) (ck := 0) rfl (cs := 0) rfl (by decide) (by decide) d20_5 8 rfl ?_
  intro w5 T3 X4 hq6
  subst hq6
  refine g_pop X4 d20_8 rfl 9 rfl ?_
  exact g_ret X4 rfl d20_9 (by decide) (by decide) ⟨rfl, rfl⟩
theorem d19_0 : decode jdk_43_method_2_code 0 = .ok (.iload_n 1, 1) := by decide +kernel
theorem d19_1 : decode jdk_43_method_2_code 1 = .ok (.aload_n 0, 1) := by decide +kernel
theorem d19_2 : decode jdk_43_method_2_code 2 = .ok (.arraylength, 1) := by decide +kernel
theorem d19_3 : decode jdk_43_method_2_code 3 = .ok (.invokestatic 9, 3) := by decide +kernel
theorem d19_6 : decode jdk_43_method_2_code 6 = .ok (.aload_n 0, 1) := by decide +kernel
theorem d19_7 : decode jdk_43_method_2_code 7 = .ok (.iload_n 1, 1) := by decide +kernel
theorem d19_8 : decode jdk_43_method_2_code 8 = .ok (.baload, 1) := by decide +kernel
theorem d19_9 : decode jdk_43_method_2_code 9 = .ok (.sipush 255, 3) := by decide +kernel
theorem d19_12 : decode jdk_43_method_2_code 12 = .ok (.iand, 1) := by decide +kernel
theorem d19_13 : decode jdk_43_method_2_code 13 = .ok (.i2c, 1) := by decide +kernel
theorem d19_14 : decode jdk_43_method_2_code 14 = .ok (.ireturn, 1) := by decide +kernel
theorem pn_2 : plainName "java/lang/StringLatin1" = true := by first | (simp [plainName, overriddenIn]; done) | decide +kernel
set_option maxRecDepth 65536 in
set_option maxHeartbeats 40000000 in
theorem c_lch (l : Launch) (Z : State) (a0 : Array Value) (G : Gl Z a0) (t : Addr) (kb : ClassId) (cs : List Int32) (i : Nat) (h : Heap) (A : Arv Z h t kb .byte (Int32.ofNat cs.length) (bys cs) (.int (0 : Int32))) (hcs : ∀ c ∈ cs, ¬ c < 0 ∧ ¬ (255 : Int32) < c) (hlen : cs.length ≤ 4000) (hi : i < cs.length) :
    Ctr l Z EL nw (⟨"java/lang/StringLatin1", "charAt", "([BI)C"⟩ : MethodName) jdk_43_method_2_code 2 (Option.some Jvm.ClassFile.FieldType.char) ({ frames := 2, cells := 0, slots := 0, locals := 27 } : Room) #[.ref t, .int (Int32.ofNat i)] h [] (PureQ h fun w => w = .int (cs.getD i 0)) := by
  obtain ⟨hw, hEL, hSA, ⟨zc, SC, hz⟩, ⟨fm, SF, hfm⟩⟩ := id G
  refine Ctr.enter (own := "java/lang/StringLatin1") (nm := "charAt") rfl rfl hEL (plainFor_of_name pn_2) #[.val (.ref t), .val (.int (Int32.ofNat i))] (fun m => by first | rfl | (simp [entryFrame, mkF, argsToLocals, Value.category, maxLocals]; done)) ?_
  intro p e s m below meth c T X
  refine g_iloadN X d19_0 rfl 1 rfl ?_
  refine g_aloadN X d19_1 rfl rfl 2 rfl ?_
  refine g_arrlen X A d19_2 3 rfl ?_
  refine g_callSn X (hw _ (List.mem_of_getElem? (i := 97) rfl)) (hw _ (List.mem_of_getElem? (i := 98) rfl)) (hw _ (List.mem_of_getElem? (i := 9) rfl)) (hw _ (List.mem_of_getElem? (i := 99) rfl)) (by decide) (c_ci l Z a0 G _ _ h (of_nn (by omega)) (of_lt hi hlen)) (by simp) (argsL := [.int (Int32.ofNat i), .int (Int32.ofNat cs.length)]) (rest := []) pd_22 rfl rfl rfl rfl 0 (Nat.le_of_eq rfl) (by decide) (by decide) (ck := 0) rfl (cs := 0) rfl (by decide) (by decide) d19_3 6 rfl ?_
  intro T1 h4 X2 hq3
  subst hq3
  refine g_aloadN X2 d19_6 rfl rfl 7 rfl ?_
  refine g_iloadN X2 d19_7 rfl 8 rfl ?_
  refine g_baload X2 A (of_nn (by omega)) (of_lt hi hlen) _ (bys_at cs i (by omega)) d19_8 9 rfl ?_
  refine g_sipush X2 (255 : Int32) d19_9 (by decide) 12 rfl ?_
  refine g_iand X2 d19_12 (cs.getD i 0) (lo_mask (hcs _ (mem_at hi))) 13 rfl ?_
  refine g_i2c X2 d19_13 (cs.getD i 0) (nar255 (hcs _ (mem_at hi))) 14 rfl ?_
  exact g_retN X2 (t := .char) rfl (by simp) d19_14 _ (nar255 (hcs _ (mem_at hi))) (by decide) (by decide) ⟨rfl, _, rfl, rfl⟩
theorem d17_0 : decode jdk_42_method_56_code 0 = .ok (.aload_n 0, 1) := by decide +kernel
theorem d17_1 : decode jdk_42_method_56_code 1 = .ok (.invokevirtual 492, 3) := by decide +kernel
theorem d17_4 : decode jdk_42_method_56_code 4 = .ok (.ifCond .eq 12, 3) := by decide +kernel
theorem d17_7 : decode jdk_42_method_56_code 7 = .ok (.aload_n 0, 1) := by decide +kernel
theorem d17_8 : decode jdk_42_method_56_code 8 = .ok (.getfield 9, 3) := by decide +kernel
theorem d17_11 : decode jdk_42_method_56_code 11 = .ok (.iload_n 1, 1) := by decide +kernel
theorem d17_12 : decode jdk_42_method_56_code 12 = .ok (.invokestatic 495, 3) := by decide +kernel
theorem d17_15 : decode jdk_42_method_56_code 15 = .ok (.ireturn, 1) := by decide +kernel
theorem d17_16 : decode jdk_42_method_56_code 16 = .ok (.aload_n 0, 1) := by decide +kernel
theorem d17_17 : decode jdk_42_method_56_code 17 = .ok (.getfield 9, 3) := by decide +kernel
theorem d17_20 : decode jdk_42_method_56_code 20 = .ok (.iload_n 1, 1) := by decide +kernel
theorem d17_21 : decode jdk_42_method_56_code 21 = .ok (.invokestatic 498, 3) := by decide +kernel
theorem d17_24 : decode jdk_42_method_56_code 24 = .ok (.ireturn, 1) := by decide +kernel
set_option maxRecDepth 65536 in
set_option maxHeartbeats 40000000 in
theorem c_cha (l : Launch) (Z : State) (a0 : Array Value) (G : Gl Z a0) (a t : Addr) (kb : ClassId) (cs : List Int32) (i : Nat) (h : Heap) (E : Exa Z h a "java/lang/String") (C : Fld Z h a "java/lang/String" "coder" "B" (.int (0 : Int32))) (V : Fld Z h a "java/lang/String" "value" "[B" (.ref t)) (A : Arv Z h t kb .byte (Int32.ofNat cs.length) (bys cs) (.int (0 : Int32))) (hcs : ∀ c ∈ cs, ¬ c < 0 ∧ ¬ (255 : Int32) < c) (hlen : cs.length ≤ 4000) (hi : i < cs.length) :
    Ctr l Z EL nw (⟨"java/lang/String", "charAt", "(I)C"⟩ : MethodName) jdk_42_method_56_code 2 (Option.some Jvm.ClassFile.FieldType.char) ({ frames := 3, cells := 0, slots := 0, locals := 40 } : Room) #[.ref a, .int (Int32.ofNat i)] h [] (PureQ h fun w => w = .int (cs.getD i 0)) := by
  obtain ⟨hw, hEL, hSA, ⟨zc, SC, hz⟩, ⟨fm, SF, hfm⟩⟩ := id G
  refine Ctr.enter (own := "java/lang/String") (nm := "charAt") rfl rfl hEL (plainFor_of_name pn_0) #[.val (.ref a), .val (.int (Int32.ofNat i))] (fun m => by first | rfl | (simp [entryFrame, mkF, argsToLocals, Value.category, maxLocals]; done)) ?_
  intro p e s m below meth c T X
  refine g_aloadN X d17_0 rfl rfl 1 rfl ?_
  refine g_callVp X (hw _ (List.mem_of_getElem? (i := 88) rfl)) (hw _ (List.mem_of_getElem? (i := 89) rfl)) (hw _ (List.mem_of_getElem? (i := 91) rfl)) (hw _ (List.mem_of_getElem? (i := 90) rfl)) (hw _ (List.mem_of_getElem? (i := 9) rfl)) (hw _ (List.mem_of_getElem? (i := 92) rfl)) (nfSel (hw _ (List.mem_of_getElem? (i := 91) rfl))) (by decide) E (c_isl l Z a0 G a h C) (by simp) (argsL := []) (rest := []) pd_19 rfl rfl rfl rfl 0 (Nat.le_of_eq rfl) (by decide) (by decide) (ck := 0) rfl (cs := 0) rfl (by decide) (by decide) d17_1 4 rfl ?_
  intro w3 T1 X2 hq4
  subst hq4
  refine g_ifNo X2 d17_4 (XT.ii_eq_f (by decide)) 7 rfl ?_
  refine g_aloadN X2 d17_7 rfl rfl 8 rfl ?_
  refine g_getF X2 (Or.inl (hw _ (List.mem_of_getElem? (i := 27) rfl))) (host := "") Via.refl V d17_8 11 rfl ?_
  intro T5 X6
  refine g_iloadN X6 d17_11 rfl 12 rfl ?_
  refine g_callSp X6 (hw _ (List.mem_of_getElem? (i := 93) rfl)) (hw _ (List.mem_of_getElem? (i := 94) rfl)) (hw _ (List.mem_of_getElem? (i := 95) rfl)) (hw _ (List.mem_of_getElem? (i := 96) rfl)) (by decide) (c_lch l Z a0 G t kb cs i h A hcs hlen hi) (by simp) (argsL := [.ref t, .int (Int32.ofNat i)]) (rest := []) pd_21 rfl rfl rfl rfl 0 (Nat.le_of_eq rfl) (by decide) (by decide) (ck := 0) rfl (cs := 0) rfl (by decide) (by decide) d17_12 15 rfl ?_
  intro w9 T7 X8 hq10
  subst hq10
  exact g_retN X8 (t := .char) rfl (by simp) d17_15 _ (nar255 (hcs _ (mem_at hi))) (by decide) (by decide) ⟨rfl, _, rfl, rfl⟩
theorem d33_0 : decode jdk_43_method_13_code 0 = .ok (.aload_n 0, 1) := by decide +kernel
theorem d33_1 : decode jdk_43_method_13_code 1 = .ok (.arraylength, 1) := by decide +kernel
theorem d33_2 : decode jdk_43_method_13_code 2 = .ok (.aload_n 1, 1) := by decide +kernel
theorem d33_3 : decode jdk_43_method_13_code 3 = .ok (.arraylength, 1) := by decide +kernel
theorem d33_4 : decode jdk_43_method_13_code 4 = .ok (.if_icmp .ne 30, 3) := by decide +kernel
theorem d33_7 : decode jdk_43_method_13_code 7 = .ok (.iconst 0, 1) := by decide +kernel
theorem d33_8 : decode jdk_43_method_13_code 8 = .ok (.istore_n 2, 1) := by decide +kernel
theorem d33_9 : decode jdk_43_method_13_code 9 = .ok (.iload_n 2, 1) := by decide +kernel
theorem d33_10 : decode jdk_43_method_13_code 10 = .ok (.aload_n 0, 1) := by decide +kernel
theorem d33_11 : decode jdk_43_method_13_code 11 = .ok (.arraylength, 1) := by decide +kernel
theorem d33_12 : decode jdk_43_method_13_code 12 = .ok (.if_icmp .ge 20, 3) := by decide +kernel
theorem d33_15 : decode jdk_43_method_13_code 15 = .ok (.aload_n 0, 1) := by decide +kernel
theorem d33_16 : decode jdk_43_method_13_code 16 = .ok (.iload_n 2, 1) := by decide +kernel
theorem d33_17 : decode jdk_43_method_13_code 17 = .ok (.baload, 1) := by decide +kernel
theorem d33_18 : decode jdk_43_method_13_code 18 = .ok (.aload_n 1, 1) := by decide +kernel
theorem d33_19 : decode jdk_43_method_13_code 19 = .ok (.iload_n 2, 1) := by decide +kernel
theorem d33_20 : decode jdk_43_method_13_code 20 = .ok (.baload, 1) := by decide +kernel
theorem d33_21 : decode jdk_43_method_13_code 21 = .ok (.if_icmp .eq 5, 3) := by decide +kernel
theorem d33_24 : decode jdk_43_method_13_code 24 = .ok (.iconst 0, 1) := by decide +kernel
theorem d33_25 : decode jdk_43_method_13_code 25 = .ok (.ireturn, 1) := by decide +kernel
theorem d33_26 : decode jdk_43_method_13_code 26 = .ok (.iinc 2 1, 3) := by decide +kernel
theorem d33_29 : decode jdk_43_method_13_code 29 = .ok (.goto (-20), 3) := by decide +kernel
theorem d33_32 : decode jdk_43_method_13_code 32 = .ok (.iconst 1, 1) := by decide +kernel
theorem d33_33 : decode jdk_43_method_13_code 33 = .ok (.ireturn, 1) := by decide +kernel
theorem d33_34 : decode jdk_43_method_13_code 34 = .ok (.iconst 0, 1) := by decide +kernel
theorem d33_35 : decode jdk_43_method_13_code 35 = .ok (.ireturn, 1) := by decide +kernel
set_option maxRecDepth 65536 in
set_option maxHeartbeats 40000000 in
theorem c_leq (l : Launch) (Z : State) (a0 : Array Value) (G : Gl Z a0) (t u : Addr) (kb kb' : ClassId) (cs ds : List Int32) (h : Heap) (A : Arv Z h t kb .byte (Int32.ofNat cs.length) (bys cs) (.int (0 : Int32))) (B : Arv Z h u kb' .byte (Int32.ofNat ds.length) (bys ds) (.int (0 : Int32))) (hcs : ∀ c ∈ cs, ¬ c < 0 ∧ ¬ (255 : Int32) < c) (hds : ∀ c ∈ ds, ¬ c < 0 ∧ ¬ (255 : Int32) < c) (hlen : cs.length ≤ 4000) (hlen' : ds.length ≤ 4000) :
    Ctr l Z EL nw (⟨"java/lang/StringLatin1", "equals", "([B[B)Z"⟩ : MethodName) jdk_43_method_13_code 3 (Option.some Jvm.ClassFile.FieldType.boolean) ({ frames := 0, cells := 0, slots := 0, locals := 0 } : Room) #[.ref t, .ref u] h [] (PureQ h fun w => w = .int (if cs = ds then 1 else 0)) := by
  obtain ⟨hw, hEL, hSA, ⟨zc, SC, hz⟩, ⟨fm, SF, hfm⟩⟩ := id G
  refine Ctr.enter (own := "java/lang/StringLatin1") (nm := "equals") rfl rfl hEL (plainFor_of_name pn_2) #[.val (.ref t), .val (.ref u), .unset] (fun m => by first | rfl | (simp [entryFrame, mkF, argsToLocals, Value.category, maxLocals]; done)) ?_
  intro p e s m below meth c T X
  refine g_aloadN X d33_0 rfl rfl 1 rfl ?_
  refine g_arrlen X A d33_1 2 rfl ?_
  refine g_aloadN X d33_2 rfl rfl 3 rfl ?_
  refine g_arrlen X B d33_3 4 rfl ?_
  by_cases hl : cs.length = ds.length
  · refine g_icmpNo X d33_4 (XT.ii_ne_f (by rw [hl])) 7 rfl ?_
    refine g_iconst X (0 : Int32) d33_7 (by decide) 8 rfl ?_
    refine g_istoreN X d33_8 (Ls' := #[.val (.ref t), .val (.ref u), .val (.int (0 : Int32))]) rfl 9 rfl ?_
    have loop : ∀ (k i : Nat) (T : State), St p l e ({ frames := 0, cells := 0, slots := 0, locals := 0 } : Room) s m #[.ref t, .ref u] below meth c "java/lang/StringLatin1" jdk_43_method_13_code 3 ((Option.some Jvm.ClassFile.FieldType.boolean)) "equals" Z EL nw [] [] T h 0 0 → i + k = cs.length → cs.take i = ds.take i → OwnKit.Goes p e below s Z EL nw (PureQ h fun w => w = .int (if cs = ds then 1 else 0)) (({ frames := 0, cells := 0, slots := 0, locals := 0 } : Room)).cells (({ frames := 0, cells := 0, slots := 0, locals := 0 } : Room)).slots (T.setTop (mkF m 9 #[.val (.ref t), .val (.ref u), .val (.int (Int32.ofNat i))] [])) := by
      intro k
      induction k with
      | zero =>
        intro i T' X' hk ht
        have e1 : cs.take cs.length = ds.take cs.length := by rw [← hk]; exact ht
        refine g_iloadN X' d33_9 rfl 10 rfl ?_
        refine g_aloadN X' d33_10 rfl rfl 11 rfl ?_
        refine g_arrlen X' A d33_11 12 rfl ?_
        refine g_icmpYes X' d33_12 (XT.ii_ge_t (of_le (by omega) (by omega))) 32 (by decide) (by decide) ?_
        refine g_iconst X' (1 : Int32) d33_32 (by decide) 33 rfl ?_
        exact g_retN X' (t := .boolean) rfl (by simp) d33_33 _ rfl (by decide) (by decide) ⟨rfl, _, rfl, (by rw [if_pos (take_eq hl e1)]; rfl)⟩
      | succ k ih =>
        intro i T' X' hk ht
        have hi : i < cs.length := by omega
        refine g_iloadN X' d33_9 rfl 10 rfl ?_
        refine g_aloadN X' d33_10 rfl rfl 11 rfl ?_
        refine g_arrlen X' A d33_11 12 rfl ?_
        refine g_icmpNo X' d33_12 (XT.ii_ge_f (of_lt hi hlen)) 15 rfl ?_
        refine g_aloadN X' d33_15 rfl rfl 16 rfl ?_
        refine g_iloadN X' d33_16 rfl 17 rfl ?_
        refine g_baload X' A (of_nn (by omega)) (of_lt (by omega) (by omega)) _ (bys_at cs i (by omega)) d33_17 18 rfl ?_
        refine g_aloadN X' d33_18 rfl rfl 19 rfl ?_
        refine g_iloadN X' d33_19 rfl 20 rfl ?_
        refine g_baload X' B (of_nn (by omega)) (of_lt (by omega) (by omega)) _ (bys_at ds i (by omega)) d33_20 21 rfl ?_
        by_cases hb21 : (lo (cs.getD i 0)) = (lo (ds.getD i 0))
        · refine g_icmpYes X' d33_21 (XT.ii_eq_t hb21) 26 (by decide) (by decide) ?_
          have heq : cs.getD i 0 = ds.getD i 0 := lo_inj (hcs _ (mem_at hi)) (hds _ (mem_at (by omega))) hb21
          refine g_iinc X' d33_26 rfl (Int32.ofNat (i + 1)) (of_succ i) (Ls' := #[.val (.ref t), .val (.ref u), .val (.int (Int32.ofNat (i + 1)))]) rfl 29 rfl ?_
          refine g_goto X' d33_29 9 (by decide) (by decide) ?_
          exact ih (i + 1) T' X' (by omega) (take_more (by omega) (by omega) ht heq)
        · refine g_icmpNo X' d33_21 (XT.ii_eq_f hb21) 24 rfl ?_
          refine g_iconst X' (0 : Int32) d33_24 (by decide) 25 rfl ?_
          exact g_retN X' (t := .boolean) rfl (by simp) d33_25 _ rfl (by decide) (by decide) ⟨rfl, _, rfl, (by rw [if_neg (fun q => hb21 (by rw [q]))]; rfl)⟩
    exact loop cs.length 0 T X (by omega) rfl
  · have hl0 := hl
    refine g_icmpYes X d33_4 (XT.ii_ne_t (fun q => hl (of_eq hlen hlen' q))) 34 (by decide) (by decide) ?_
    refine g_iconst X (0 : Int32) d33_34 (by decide) 35 rfl ?_
    exact g_retN X (t := .boolean) rfl (by simp) d33_35 _ rfl (by decide) (by decide) ⟨rfl, _, rfl, (by rw [if_neg (fun q => hl0 (by rw [q]))]; rfl)⟩
theorem d32_0 : decode jdk_42_method_66_code 0 = .ok (.aload_n 0, 1) := by decide +kernel
theorem d32_1 : decode jdk_42_method_66_code 1 = .ok (.aload_n 1, 1) := by decide +kernel
theorem d32_2 : decode jdk_42_method_66_code 2 = .ok (.if_acmp .ne 5, 3) := by decide +kernel
theorem d32_5 : decode jdk_42_method_66_code 5 = .ok (.iconst 1, 1) := by decide +kernel
theorem d32_6 : decode jdk_42_method_66_code 6 = .ok (.ireturn, 1) := by decide +kernel
theorem d32_7 : decode jdk_42_method_66_code 7 = .ok (.aload_n 1, 1) := by decide +kernel
theorem d32_8 : decode jdk_42_method_66_code 8 = .ok (.instanceof 10, 3) := by decide +kernel
theorem d32_11 : decode jdk_42_method_66_code 11 = .ok (.ifCond .eq 43, 3) := by decide +kernel
theorem d32_14 : decode jdk_42_method_66_code 14 = .ok (.aload_n 1, 1) := by decide +kernel
theorem d32_15 : decode jdk_42_method_66_code 15 = .ok (.checkcast 10, 3) := by decide +kernel
theorem d32_18 : decode jdk_42_method_66_code 18 = .ok (.astore_n 2, 1) := by decide +kernel
theorem d32_19 : decode jdk_42_method_66_code 19 = .ok (.getstatic 38, 3) := by decide +kernel
theorem d32_22 : decode jdk_42_method_66_code 22 = .ok (.ifCond .eq 14, 3) := by decide +kernel
theorem d32_25 : decode jdk_42_method_66_code 25 = .ok (.aload_n 0, 1) := by decide +kernel
theorem d32_26 : decode jdk_42_method_66_code 26 = .ok (.getfield 15, 3) := by decide +kernel
theorem d32_29 : decode jdk_42_method_66_code 29 = .ok (.aload_n 2, 1) := by decide +kernel
theorem d32_30 : decode jdk_42_method_66_code 30 = .ok (.getfield 15, 3) := by decide +kernel
theorem d32_33 : decode jdk_42_method_66_code 33 = .ok (.if_icmp .ne 21, 3) := by decide +kernel
theorem d32_36 : decode jdk_42_method_66_code 36 = .ok (.aload_n 0, 1) := by decide +kernel
theorem d32_37 : decode jdk_42_method_66_code 37 = .ok (.getfield 9, 3) := by decide +kernel
theorem d32_40 : decode jdk_42_method_66_code 40 = .ok (.aload_n 2, 1) := by decide +kernel
theorem d32_41 : decode jdk_42_method_66_code 41 = .ok (.getfield 9, 3) := by decide +kernel
theorem d32_44 : decode jdk_42_method_66_code 44 = .ok (.invokestatic 541, 3) := by decide +kernel
theorem d32_47 : decode jdk_42_method_66_code 47 = .ok (.ifCond .eq 7, 3) := by decide +kernel
theorem d32_50 : decode jdk_42_method_66_code 50 = .ok (.iconst 1, 1) := by decide +kernel
theorem d32_51 : decode jdk_42_method_66_code 51 = .ok (.goto 4, 3) := by decide +kernel
theorem d32_54 : decode jdk_42_method_66_code 54 = .ok (.iconst 0, 1) := by decide +kernel
theorem d32_55 : decode jdk_42_method_66_code 55 = .ok (.ireturn, 1) := by decide +kernel
set_option maxRecDepth 65536 in
set_option maxHeartbeats 40000000 in
theorem c_seq (l : Launch) (Z : State) (a0 : Array Value) (G : Gl Z a0) (a b t u : Addr) (kb kb' : ClassId) (cs ds : List Int32) (hab : a = b → cs = ds) (h : Heap) (E : Exa Z h a "java/lang/String") (C : Fld Z h a "java/lang/String" "coder" "B" (.int (0 : Int32))) (V : Fld Z h a "java/lang/String" "value" "[B" (.ref t)) (A : Arv Z h t kb .byte (Int32.ofNat cs.length) (bys cs) (.int (0 : Int32))) (hcs : ∀ c ∈ cs, ¬ c < 0 ∧ ¬ (255 : Int32) < c) (hlen : cs.length ≤ 4000) (E' : Exa Z h b "java/lang/String") (C' : Fld Z h b "java/lang/String" "coder" "B" (.int (0 : Int32))) (V' : Fld Z h b "java/lang/String" "value" "[B" (.ref u)) (A' : Arv Z h u kb' .byte (Int32.ofNat ds.length) (bys ds) (.int (0 : Int32))) (hds : ∀ c ∈ ds, ¬ c < 0 ∧ ¬ (255 : Int32) < c) (hlen' : ds.length ≤ 4000) :
    Ctr l Z EL nw (⟨"java/lang/String", "equals", "(Ljava/lang/Object;)Z"⟩ : MethodName) jdk_42_method_66_code 3 (Option.some Jvm.ClassFile.FieldType.boolean) ({ frames := 1, cells := 0, slots := 0, locals := 14 } : Room) #[.ref a, .ref b] h [] (PureQ h fun w => w = .int (if cs = ds then 1 else 0)) := by
  obtain ⟨hw, hEL, hSA, ⟨zc, SC, hz⟩, ⟨fm, SF, hfm⟩⟩ := id G
  refine Ctr.enter (own := "java/lang/String") (nm := "equals") rfl rfl hEL (plainFor_of_name pn_0) #[.val (.ref a), .val (.ref b), .unset] (fun m => by first | rfl | (simp [entryFrame, mkF, argsToLocals, Value.category, maxLocals]; done)) ?_
  intro p e s m below meth c T X
  refine g_aloadN X d32_0 rfl rfl 1 rfl ?_
  refine g_aloadN X d32_1 rfl rfl 2 rfl ?_
  by_cases hb2 : (.ref a : Value) = .ref b
  · refine g_acmpNo X d32_2 rfl rfl (XT.aa_ne_f hb2) 5 rfl ?_
    refine g_iconst X (1 : Int32) d32_5 (by decide) 6 rfl ?_
    exact g_retN X (t := .boolean) rfl (by simp) d32_6 _ rfl (by decide) (by decide) ⟨rfl, _, rfl, (by rw [if_pos (hab (Value.ref.inj hb2))]; rfl)⟩
  · refine g_acmpYes X d32_2 rfl rfl (XT.aa_ne_t hb2) 7 (by decide) (by decide) ?_
    refine g_aloadN X d32_7 rfl rfl 8 rfl ?_
    refine g_instY X (hw _ (List.mem_of_getElem? (i := 162) rfl)) (Ins.self E') d32_8 11 rfl ?_
    intro T1 X2
    refine g_ifNo X2 d32_11 (XT.ii_eq_f (by decide)) 14 rfl ?_
    refine g_aloadN X2 d32_14 rfl rfl 15 rfl ?_
    refine g_cast X2 (hw _ (List.mem_of_getElem? (i := 162) rfl)) (Ins.self E') d32_15 18 rfl ?_
    intro T3 X4
    refine g_astoreN X4 d32_18 rfl (Ls' := #[.val (.ref a), .val (.ref b), .val (.ref b)]) rfl 19 rfl ?_
    refine g_getS X4 (Or.inl (hw _ (List.mem_of_getElem? (i := 35) rfl))) (host := "") Via.refl (SC.ext X4.old) d32_19 22 rfl ?_
    intro T5 X6
    refine g_ifNo X6 d32_22 (XT.ii_eq_f hz) 25 rfl ?_
    refine g_aloadN X6 d32_25 rfl rfl 26 rfl ?_
    refine g_getF X6 (Or.inl (hw _ (List.mem_of_getElem? (i := 28) rfl))) (host := "") Via.refl C d32_26 29 rfl ?_
    intro T7 X8
    refine g_aloadN X8 d32_29 rfl rfl 30 rfl ?_
    refine g_getF X8 (Or.inl (hw _ (List.mem_of_getElem? (i := 28) rfl))) (host := "") Via.refl C' d32_30 33 rfl ?_
    intro T9 X10
    refine g_icmpNo X10 d32_33 (XT.ii_ne_f (by decide)) 36 rfl ?_
    refine g_aloadN X10 d32_36 rfl rfl 37 rfl ?_
    refine g_getF X10 (Or.inl (hw _ (List.mem_of_getElem? (i := 27) rfl))) (host := "") Via.refl V d32_37 40 rfl ?_
    intro T11 X12
    refine g_aloadN X12 d32_40 rfl rfl 41 rfl ?_
    refine g_getF X12 (Or.inl (hw _ (List.mem_of_getElem? (i := 27) rfl))) (host := "") Via.refl V' d32_41 44 rfl ?_
    intro T13 X14
    refine g_callSp X14 (hw _ (List.mem_of_getElem? (i := 163) rfl)) (hw _ (List.mem_of_getElem? (i := 164) rfl)) (hw _ (List.mem_of_getElem? (i := 95) rfl)) (hw _ (List.mem_of_getElem? (i := 165) rfl)) (by decide) (c_leq l Z a0 G t u kb kb' cs ds h A A' hcs hds hlen hlen') (by simp) (argsL := [.ref t, .ref u]) (rest := []) pd_24 rfl rfl rfl rfl 0 (Nat.le_of_eq rfl) (by decide) (by decide) (ck := 0) rfl (cs := 0) rfl (by decide) (by decide) d32_44 47 rfl ?_
    intro w17 T15 X16 hq18
    subst hq18
    by_cases hb47 : (if cs = ds then (1 : Int32) else 0) = (0 : Int32)
    · refine g_ifYes X16 d32_47 (XT.ii_eq_t hb47) 54 (by decide) (by decide) ?_
      refine g_iconst X16 (0 : Int32) d32_54 (by decide) 55 rfl ?_
      exact g_retN X16 (t := .boolean) rfl (by simp) d32_55 _ rfl (by decide) (by decide) ⟨rfl, _, rfl, (by by_cases q : cs = ds <;> simp [q] at hb47 ⊢ <;> rfl)⟩
    · refine g_ifNo X16 d32_47 (XT.ii_eq_f hb47) 50 rfl ?_
      refine g_iconst X16 (1 : Int32) d32_50 (by decide) 51 rfl ?_
      refine g_goto X16 d32_51 55 (by decide) (by decide) ?_
      exact g_retN X16 (t := .boolean) rfl (by simp) d32_55 _ rfl (by decide) (by decide) ⟨rfl, _, rfl, (by by_cases q : cs = ds <;> simp [q] at hb47 ⊢ <;> rfl)⟩
theorem pd_25 : parseMethodDescriptor "([C)V" = some ⟨[(.array .char)], none⟩ := by decide +kernel
theorem pd_26 : parseMethodDescriptor "([CIILjava/lang/Void;)V" = some ⟨[(.array .char), .int, .int, (.object "java/lang/Void")], none⟩ := by decide +kernel
theorem d4_0 : decode jdk_42_method_149_code 0 = .ok (.aload_n 0, 1) := by decide +kernel
theorem d4_1 : decode jdk_42_method_149_code 1 = .ok (.invokespecial 1, 3) := by decide +kernel
theorem d4_4 : decode jdk_42_method_149_code 4 = .ok (.iload_n 3, 1) := by decide +kernel
theorem d4_5 : decode jdk_42_method_149_code 5 = .ok (.ifCond .ne 22, 3) := by decide +kernel
theorem d4_8 : decode jdk_42_method_149_code 8 = .ok (.aload_n 0, 1) := by decide +kernel
theorem d4_9 : decode jdk_42_method_149_code 9 = .ok (.ldc 7, 2) := by decide +kernel
theorem d4_11 : decode jdk_42_method_149_code 11 = .ok (.getfield 9, 3) := by decide +kernel
theorem d4_14 : decode jdk_42_method_149_code 14 = .ok (.putfield 9, 3) := by decide +kernel
theorem d4_17 : decode jdk_42_method_149_code 17 = .ok (.aload_n 0, 1) := by decide +kernel
theorem d4_18 : decode jdk_42_method_149_code 18 = .ok (.ldc 7, 2) := by decide +kernel
theorem d4_20 : decode jdk_42_method_149_code 20 = .ok (.getfield 15, 3) := by decide +kernel
theorem d4_23 : decode jdk_42_method_149_code 23 = .ok (.putfield 15, 3) := by decide +kernel
theorem d4_26 : decode jdk_42_method_149_code 26 = .ok (.return_, 1) := by decide +kernel
theorem d4_27 : decode jdk_42_method_149_code 27 = .ok (.getstatic 38, 3) := by decide +kernel
theorem d4_30 : decode jdk_42_method_149_code 30 = .ok (.ifCond .eq 28, 3) := by decide +kernel
theorem d4_33 : decode jdk_42_method_149_code 33 = .ok (.aload_n 1, 1) := by decide +kernel
theorem d4_34 : decode jdk_42_method_149_code 34 = .ok (.iload_n 2, 1) := by decide +kernel
theorem d4_35 : decode jdk_42_method_149_code 35 = .ok (.iload_n 3, 1) := by decide +kernel
theorem d4_36 : decode jdk_42_method_149_code 36 = .ok (.invokestatic 177, 3) := by decide +kernel
theorem d4_39 : decode jdk_42_method_149_code 39 = .ok (.astore 5, 2) := by decide +kernel
theorem d4_41 : decode jdk_42_method_149_code 41 = .ok (.aload_n 0, 1) := by decide +kernel
theorem d4_42 : decode jdk_42_method_149_code 42 = .ok (.aload 5, 2) := by decide +kernel
theorem d4_44 : decode jdk_42_method_149_code 44 = .ok (.iload_n 3, 1) := by decide +kernel
theorem d4_45 : decode jdk_42_method_149_code 45 = .ok (.invokestatic 47, 3) := by decide +kernel
theorem d4_48 : decode jdk_42_method_149_code 48 = .ok (.putfield 15, 3) := by decide +kernel
theorem d4_51 : decode jdk_42_method_149_code 51 = .ok (.aload_n 0, 1) := by decide +kernel
theorem d4_52 : decode jdk_42_method_149_code 52 = .ok (.aload 5, 2) := by decide +kernel
theorem d4_54 : decode jdk_42_method_149_code 54 = .ok (.putfield 9, 3) := by decide +kernel
theorem d4_57 : decode jdk_42_method_149_code 57 = .ok (.return_, 1) := by decide +kernel
theorem d4_58 : decode jdk_42_method_149_code 58 = .ok (.aload_n 0, 1) := by decide +kernel
theorem d4_59 : decode jdk_42_method_149_code 59 = .ok (.iconst 1, 1) := by decide +kernel
theorem d4_60 : decode jdk_42_method_149_code 60 = .ok (.putfield 15, 3) := by decide +kernel
theorem d4_63 : decode jdk_42_method_149_code 63 = .ok (.aload_n 0, 1) := by decide +kernel
theorem d4_64 : decode jdk_42_method_149_code 64 = .ok (.aload_n 1, 1) := by decide +kernel
theorem d4_65 : decode jdk_42_method_149_code 65 = .ok (.iload_n 2, 1) := by decide +kernel
theorem d4_66 : decode jdk_42_method_149_code 66 = .ok (.iload_n 3, 1) := by decide +kernel
theorem d4_67 : decode jdk_42_method_149_code 67 = .ok (.invokestatic 180, 3) := by decide +kernel
theorem d4_70 : decode jdk_42_method_149_code 70 = .ok (.putfield 9, 3) := by decide +kernel
theorem d4_73 : decode jdk_42_method_149_code 73 = .ok (.return_, 1) := by decide +kernel
set_option maxRecDepth 65536 in
set_option maxHeartbeats 40000000 in
theorem c_s149 (l : Launch) (Z : State) (a0 : Array Value) (G : Gl Z a0) (a b : Addr) (us : List Addr) (h : Heap) (E : Exa Z h a "java/lang/String") (V : Fld Z h a "java/lang/String" "value" "[B" .null) (C : Fld Z h a "java/lang/String" "coder" "B" (.int (0 : Int32))) (hne : ∀ x ∈ us, x ≠ a) :
    Ctr l Z EL nw (⟨"java/lang/String", "<init>", "([CIILjava/lang/Void;)V"⟩ : MethodName) jdk_42_method_149_code 6 (Option.none : Option Jvm.ClassFile.FieldType) ({ frames := 1, cells := 2, slots := 4, locals := 12 } : Room) #[.ref a, .ref b, .int (0 : Int32), .int (0 : Int32), .null] h (a :: us) (VoidQ fun h' => Keep h h' [a] ∧ Str Z h' us a []) := by
  obtain ⟨hw, hEL, hSA, ⟨zc, SC, hz⟩, ⟨fm, SF, hfm⟩⟩ := id G
  refine Ctr.enter (own := "java/lang/String") (nm := "<init>") rfl rfl hEL (plainFor_of_name pn_0) #[.val (.ref a), .val (.ref b), .val (.int (0 : Int32)), .val (.int (0 : Int32)), .val (.null), .unset] (fun m => by first | rfl | (simp [entryFrame, mkF, argsToLocals, Value.category, maxLocals]; done)) ?_
  intro p e s m below meth c T X
  refine g_aloadN X d4_0 rfl rfl 1 rfl ?_
  refine g_initO X (hw _ (List.mem_of_getElem? (i := 18) rfl)) (hw _ (List.mem_of_getElem? (i := 19) rfl)) (hw _ (List.mem_of_getElem? (i := 20) rfl)) rfl d4_1 (by decide) 0 (Nat.le_of_eq rfl) (by decide) 4 rfl ?_
  intro T1 X2
  refine g_iloadN X2 d4_4 rfl 5 rfl ?_
  refine g_ifNo X2 d4_5 (XT.ii_ne_f (by decide)) 8 rfl ?_
  refine g_aloadN X2 d4_8 rfl rfl 9 rfl ?_
  refine g_ldcS X2 (cs := []) rfl (hw _ (List.mem_of_getElem? (i := 21) rfl)) hSA (by simp [EL, consts_1]) ⟨by decide, by decide⟩ (by decide) (by decide) d4_9 0 (by decide) (by decide) (ck := 2) rfl (cs' := 4) rfl (by decide) (by decide) 11 rfl ?_
  intro s3 T4 h5 X6 E7 S8
  obtain ⟨t11, kb12, e13, f14, f15, k16, b17, l18, n19⟩ := id S8
  refine g_getF X6 (Or.inl (hw _ (List.mem_of_getElem? (i := 27) rfl))) (host := "") Via.refl f15 d4_11 14 rfl ?_
  intro T9 X10
  refine g_putF X10 (Or.inl (hw _ (List.mem_of_getElem? (i := 27) rfl))) (host := "") Via.refl (V.ext E7) (E.ext E7) (Or.inr ⟨(hw _ (List.mem_of_getElem? (i := 23) rfl)), rfl, rfl⟩) (hw _ (List.mem_of_getElem? (i := 8) rfl)) (ty := (.array .byte)) (by rfl) rfl rfl (by simp) d4_14 17 rfl ?_
  intro T20 h21 X22 W23 F24 E25
  refine g_aloadN X22 d4_17 rfl rfl 18 rfl ?_
  refine g_ldcA X22 (hw _ (List.mem_of_getElem? (i := 21) rfl)) (a := s3) (by simp) d4_18 20 rfl ?_
  refine g_getF X22 (Or.inl (hw _ (List.mem_of_getElem? (i := 28) rfl))) (host := "") Via.refl (f14.other W23 (Or.inl (Ne.symm (n19 a (by simp)).1))) d4_20 23 rfl ?_
  intro T26 X27
  refine g_putF X27 (Or.inl (hw _ (List.mem_of_getElem? (i := 28) rfl))) (host := "") Via.refl ((C.ext E7).other W23 (Or.inr (slot_ne (Or.inr (hw _ (List.mem_of_getElem? (i := 24) rfl))) (Or.inr (hw _ (List.mem_of_getElem? (i := 23) rfl))) (by decide) (by rfl) (by rfl)))) E25 (Or.inr ⟨(hw _ (List.mem_of_getElem? (i := 24) rfl)), rfl, rfl⟩) (hw _ (List.mem_of_getElem? (i := 8) rfl)) (ty := .byte) (by rfl) rfl rfl (by simp) d4_23 26 rfl ?_
  intro T28 h29 X30 W31 F32 E33
  exact g_ret X30 rfl d4_26 (by decide) (by decide) ⟨rfl, ⟨((((Keep.refl h [a]).ext E7).wr W23 (Or.inl (by simp))).wr W31 (Or.inl (by simp))), t11, kb12, E33, F32, (F24.other W31 (Or.inr (slot_ne (Or.inr (hw _ (List.mem_of_getElem? (i := 23) rfl))) (Or.inr (hw _ (List.mem_of_getElem? (i := 24) rfl))) (by decide) (by rfl) (by rfl)))), ((k16.other W23 (Ne.symm (n19 a (by simp)).2)).other W31 (Ne.symm (n19 a (by simp)).2)), b17, l18, fun x hx => ⟨hne x hx, (n19 x (List.mem_cons_of_mem _ hx)).2⟩⟩⟩
theorem d3_0 : decode jdk_42_method_3_code 0 = .ok (.aload_n 0, 1) := by decide +kernel
theorem d3_1 : decode jdk_42_method_3_code 1 = .ok (.aload_n 1, 1) := by decide +kernel
theorem d3_2 : decode jdk_42_method_3_code 2 = .ok (.iconst 0, 1) := by decide +kernel
theorem d3_3 : decode jdk_42_method_3_code 3 = .ok (.aload_n 1, 1) := by decide +kernel
theorem d3_4 : decode jdk_42_method_3_code 4 = .ok (.arraylength, 1) := by decide +kernel
theorem d3_5 : decode jdk_42_method_3_code 5 = .ok (.aconst_null, 1) := by decide +kernel
theorem d3_6 : decode jdk_42_method_3_code 6 = .ok (.invokespecial 27, 3) := by decide +kernel
theorem d3_9 : decode jdk_42_method_3_code 9 = .ok (.return_, 1) := by decide +kernel
set_option maxRecDepth 65536 in
set_option maxHeartbeats 40000000 in
theorem c_s3 (l : Launch) (Z : State) (a0 : Array Value) (G : Gl Z a0) (a b : Addr) (kb : ClassId) (us : List Addr) (h : Heap) (E : Exa Z h a "java/lang/String") (V : Fld Z h a "java/lang/String" "value" "[B" .null) (C : Fld Z h a "java/lang/String" "coder" "B" (.int (0 : Int32))) (hne : ∀ x ∈ us, x ≠ a) (A : Arv Z h b kb .char (0 : Int32) [] (.int (0 : Int32))) :
    Ctr l Z EL nw (⟨"java/lang/String", "<init>", "([C)V"⟩ : MethodName) jdk_42_method_3_code 2 (Option.none : Option Jvm.ClassFile.FieldType) ({ frames := 2, cells := 2, slots := 4, locals := 29 } : Room) #[.ref a, .ref b] h (a :: us) (VoidQ fun h' => Keep h h' [a] ∧ Str Z h' us a []) := by
  obtain ⟨hw, hEL, hSA, ⟨zc, SC, hz⟩, ⟨fm, SF, hfm⟩⟩ := id G
  refine Ctr.enter (own := "java/lang/String") (nm := "<init>") rfl rfl hEL (plainFor_of_name pn_0) #[.val (.ref a), .val (.ref b)] (fun m => by first | rfl | (simp [entryFrame, mkF, argsToLocals, Value.category, maxLocals]; done)) ?_
  intro p e s m below meth c T X
  refine g_aloadN X d3_0 rfl rfl 1 rfl ?_
  refine g_aloadN X d3_1 rfl rfl 2 rfl ?_
  refine g_iconst X (0 : Int32) d3_2 (by decide) 3 rfl ?_
  refine g_aloadN X d3_3 rfl rfl 4 rfl ?_
  refine g_arrlen X A d3_4 5 rfl ?_
  refine g_aconstNull X d3_5 6 rfl ?_
  refine g_callIn X rfl (hw _ (List.mem_of_getElem? (i := 14) rfl)) (hw _ (List.mem_of_getElem? (i := 15) rfl)) (hw _ (List.mem_of_getElem? (i := 9) rfl)) (hw _ (List.mem_of_getElem? (i := 17) rfl)) (by decide) (c_s149 l Z a0 G a b us h E V C hne) (fun _ q => q) (argsL := [.ref b, .int (0 : Int32), .int (0 : Int32), .null]) (rest := []) pd_26 rfl rfl rfl rfl 0 (Nat.le_of_eq rfl) (by decide) (by decide) (ck := 2) rfl (cs := 4) rfl (by decide) (by decide) d3_6 9 rfl ?_
  intro T1 h4 X2 hq3
  obtain ⟨K5, S6⟩ := hq3
  exact g_ret X2 rfl d3_9 (by decide) (by decide) ⟨rfl, ⟨K5, S6⟩⟩
theorem d23_0 : decode jdk_89_method_89_code 0 = .ok (.iload_n 0, 1) := by decide +kernel
theorem d23_1 : decode jdk_89_method_89_code 1 = .ok (.sipush 159, 3) := by decide +kernel
theorem d23_4 : decode jdk_89_method_89_code 4 = .ok (.if_icmp .gt 19, 3) := by decide +kernel
theorem d23_7 : decode jdk_89_method_89_code 7 = .ok (.iload_n 0, 1) := by decide +kernel
theorem d23_8 : decode jdk_89_method_89_code 8 = .ok (.bipush 127, 2) := by decide +kernel
theorem d23_10 : decode jdk_89_method_89_code 10 = .ok (.if_icmp .ge 9, 3) := by decide +kernel
theorem d23_13 : decode jdk_89_method_89_code 13 = .ok (.iload_n 0, 1) := by decide +kernel
theorem d23_14 : decode jdk_89_method_89_code 14 = .ok (.iconst 5, 1) := by decide +kernel
theorem d23_15 : decode jdk_89_method_89_code 15 = .ok (.iushr, 1) := by decide +kernel
theorem d23_16 : decode jdk_89_method_89_code 16 = .ok (.ifCond .ne 7, 3) := by decide +kernel
theorem d23_19 : decode jdk_89_method_89_code 19 = .ok (.iconst 1, 1) := by decide +kernel
theorem d23_20 : decode jdk_89_method_89_code 20 = .ok (.goto 4, 3) := by decide +kernel
theorem d23_23 : decode jdk_89_method_89_code 23 = .ok (.iconst 0, 1) := by decide +kernel
theorem d23_24 : decode jdk_89_method_89_code 24 = .ok (.ireturn, 1) := by decide +kernel
theorem pn_3 : plainName "java/lang/Character" = true := by first | (simp [plainName, overriddenIn]; done) | decide +kernel
set_option maxRecDepth 65536 in
set_option maxHeartbeats 40000000 in
theorem c_iso2 (l : Launch) (Z : State) (a0 : Array Value) (G : Gl Z a0) (c0 : Int32) (h : Heap)  :
    Ctr l Z EL nw (⟨"java/lang/Character", "isISOControl", "(I)Z"⟩ : MethodName) jdk_89_method_89_code 1 (Option.some Jvm.ClassFile.FieldType.boolean) ({ frames := 0, cells := 0, slots := 0, locals := 0 } : Room) #[.int c0] h [] (PureQ h fun v => v = .int (isoI c0)) := by
  obtain ⟨hw, hEL, hSA, ⟨zc, SC, hz⟩, ⟨fm, SF, hfm⟩⟩ := id G
  refine Ctr.enter (own := "java/lang/Character") (nm := "isISOControl") rfl rfl hEL (plainFor_of_name pn_3) #[.val (.int c0)] (fun m => by first | rfl | (simp [entryFrame, mkF, argsToLocals, Value.category, maxLocals]; done)) ?_
  intro p e s m below meth c T X
  refine g_iloadN X d23_0 rfl 1 rfl ?_
  refine g_sipush X (159 : Int32) d23_1 (by decide) 4 rfl ?_
  by_cases hb4 : (159 : Int32) < c0
  · refine g_icmpYes X d23_4 (XT.ii_gt_t hb4) 23 (by decide) (by decide) ?_
    refine g_iconst X (0 : Int32) d23_23 (by decide) 24 rfl ?_
    exact g_retN X (t := .boolean) rfl (by simp) d23_24 _ rfl (by decide) (by decide) ⟨rfl, _, rfl, (by rw [show isoI c0 = 0 from by simp [isoI, hb4]]; rfl)⟩
  · refine g_icmpNo X d23_4 (XT.ii_gt_f hb4) 7 rfl ?_
    refine g_iloadN X d23_7 rfl 8 rfl ?_
    refine g_bipush X (127 : Int32) d23_8 (by decide) 10 rfl ?_
    by_cases hb10 : c0 < (127 : Int32)
    · refine g_icmpNo X d23_10 (XT.ii_ge_f hb10) 13 rfl ?_
      refine g_iloadN X d23_13 rfl 14 rfl ?_
      refine g_iconst X (5 : Int32) d23_14 (by decide) 15 rfl ?_
      refine g_iushr X d23_15 _ rfl 16 rfl ?_
      by_cases hb16 : (XT.ushr c0 (5 : Int32)) = (0 : Int32)
      · refine g_ifNo X d23_16 (XT.ii_ne_f hb16) 19 rfl ?_
        refine g_iconst X (1 : Int32) d23_19 (by decide) 20 rfl ?_
        refine g_goto X d23_20 24 (by decide) (by decide) ?_
        exact g_retN X (t := .boolean) rfl (by simp) d23_24 _ rfl (by decide) (by decide) ⟨rfl, _, rfl, (by rw [show isoI c0 = 1 from by simp [isoI, hb10, hb16, hb4]]; rfl)⟩
      · refine g_ifYes X d23_16 (XT.ii_ne_t hb16) 23 (by decide) (by decide) ?_
        refine g_iconst X (0 : Int32) d23_23 (by decide) 24 rfl ?_
        exact g_retN X (t := .boolean) rfl (by simp) d23_24 _ rfl (by decide) (by decide) ⟨rfl, _, rfl, (by rw [show isoI c0 = 0 from by simp [isoI, hb10, hb16, hb4]]; rfl)⟩
    · refine g_icmpYes X d23_10 (XT.ii_ge_t hb10) 19 (by decide) (by decide) ?_
      refine g_iconst X (1 : Int32) d23_19 (by decide) 20 rfl ?_
      refine g_goto X d23_20 24 (by decide) (by decide) ?_
      exact g_retN X (t := .boolean) rfl (by simp) d23_24 _ rfl (by decide) (by decide) ⟨rfl, _, rfl, (by rw [show isoI c0 = 1 from by simp [isoI, hb10, hb4]]; rfl)⟩
theorem d22_0 : decode jdk_89_method_88_code 0 = .ok (.iload_n 0, 1) := by decide +kernel
theorem d22_1 : decode jdk_89_method_88_code 1 = .ok (.invokestatic 266, 3) := by decide +kernel
theorem d22_4 : decode jdk_89_method_88_code 4 = .ok (.ireturn, 1) := by decide +kernel
set_option maxRecDepth 65536 in
set_option maxHeartbeats 40000000 in
theorem c_iso1 (l : Launch) (Z : State) (a0 : Array Value) (G : Gl Z a0) (c0 : Int32) (h : Heap)  :
    Ctr l Z EL nw (⟨"java/lang/Character", "isISOControl", "(C)Z"⟩ : MethodName) jdk_89_method_88_code 1 (Option.some Jvm.ClassFile.FieldType.boolean) ({ frames := 1, cells := 0, slots := 0, locals := 12 } : Room) #[.int c0] h [] (PureQ h fun v => v = .int (isoI c0)) := by
  obtain ⟨hw, hEL, hSA, ⟨zc, SC, hz⟩, ⟨fm, SF, hfm⟩⟩ := id G
  refine Ctr.enter (own := "java/lang/Character") (nm := "isISOControl") rfl rfl hEL (plainFor_of_name pn_3) #[.val (.int c0)] (fun m => by first | rfl | (simp [entryFrame, mkF, argsToLocals, Value.category, maxLocals]; done)) ?_
  intro p e s m below meth c T X
  refine g_iloadN X d22_0 rfl 1 rfl ?_
  refine g_callSp X (hw _ (List.mem_of_getElem? (i := 109) rfl)) (hw _ (List.mem_of_getElem? (i := 110) rfl)) (hw _ (List.mem_of_getElem? (i := 107) rfl)) (hw _ (List.mem_of_getElem? (i := 111) rfl)) (by decide) (c_iso2 l Z a0 G c0 h) (by simp) (argsL := [.int c0]) (rest := []) pd_5 rfl rfl rfl rfl 0 (Nat.le_of_eq rfl) (by decide) (by decide) (ck := 0) rfl (cs := 0) rfl (by decide) (by decide) d22_1 4 rfl ?_
  intro w3 T1 X2 hq4
  subst hq4
  exact g_retN X2 (t := .boolean) rfl (by simp) d22_4 _ (nar_iso _) (by decide) (by decide) ⟨rfl, _, rfl, rfl⟩
theorem d14_0 : decode prog_14_method_2_code 0 = .ok (.iconst 0, 1) := by decide +kernel
theorem d14_1 : decode prog_14_method_2_code 1 = .ok (.istore_n 1, 1) := by decide +kernel
theorem d14_2 : decode prog_14_method_2_code 2 = .ok (.iload_n 1, 1) := by decide +kernel
theorem d14_3 : decode prog_14_method_2_code 3 = .ok (.aload_n 0, 1) := by decide +kernel
theorem d14_4 : decode prog_14_method_2_code 4 = .ok (.invokevirtual 7, 3) := by decide +kernel
theorem d14_7 : decode prog_14_method_2_code 7 = .ok (.if_icmp .ge 22, 3) := by decide +kernel
theorem d14_10 : decode prog_14_method_2_code 10 = .ok (.aload_n 0, 1) := by decide +kernel
theorem d14_11 : decode prog_14_method_2_code 11 = .ok (.iload_n 1, 1) := by decide +kernel
theorem d14_12 : decode prog_14_method_2_code 12 = .ok (.invokevirtual 13, 3) := by decide +kernel
theorem d14_15 : decode prog_14_method_2_code 15 = .ok (.invokestatic 17, 3) := by decide +kernel
theorem d14_18 : decode prog_14_method_2_code 18 = .ok (.ifCond .eq 5, 3) := by decide +kernel
theorem d14_21 : decode prog_14_method_2_code 21 = .ok (.iconst 1, 1) := by decide +kernel
theorem d14_22 : decode prog_14_method_2_code 22 = .ok (.ireturn, 1) := by decide +kernel
theorem d14_23 : decode prog_14_method_2_code 23 = .ok (.iinc 1 1, 3) := by decide +kernel
theorem d14_26 : decode prog_14_method_2_code 26 = .ok (.goto (-24), 3) := by decide +kernel
theorem d14_29 : decode prog_14_method_2_code 29 = .ok (.iconst 0, 1) := by decide +kernel
theorem d14_30 : decode prog_14_method_2_code 30 = .ok (.ireturn, 1) := by decide +kernel
theorem pn_4 : plainName "com/example/pegwright/pegwright/Names" = true := by first | (simp [plainName, overriddenIn]; done) | decide +kernel
set_option maxRecDepth 65536 in
set_option maxHeartbeats 40000000 in
theorem c_hold (l : Launch) (Z : State) (a0 : Array Value) (G : Gl Z a0) (a t : Addr) (kb : ClassId) (cs : List Int32) (h : Heap) (E : Exa Z h a "java/lang/String") (C : Fld Z h a "java/lang/String" "coder" "B" (.int (0 : Int32))) (V : Fld Z h a "java/lang/String" "value" "[B" (.ref t)) (A : Arv Z h t kb .byte (Int32.ofNat cs.length) (bys cs) (.int (0 : Int32))) (hcs : ∀ c ∈ cs, ¬ c < 0 ∧ ¬ (255 : Int32) < c) (hlen : cs.length ≤ 4000) (hiso : ∀ c ∈ cs, isoI c = 0) :
    Ctr l Z EL nw (⟨"com/example/pegwright/pegwright/Names", "holdsControlCharacter", "(Ljava/lang/String;)Z"⟩ : MethodName) prog_14_method_2_code 2 (Option.some Jvm.ClassFile.FieldType.boolean) ({ frames := 4, cells := 0, slots := 0, locals := 53 } : Room) #[.ref a] h [] (PureQ h fun v => v = .int 0) := by
  obtain ⟨hw, hEL, hSA, ⟨zc, SC, hz⟩, ⟨fm, SF, hfm⟩⟩ := id G
  refine Ctr.enter (own := "com/example/pegwright/pegwright/Names") (nm := "holdsControlCharacter") rfl rfl hEL (plainFor_of_name pn_4) #[.val (.ref a), .unset] (fun m => by first | rfl | (simp [entryFrame, mkF, argsToLocals, Value.category, maxLocals]; done)) ?_
  intro p e s m below meth c T X
  refine g_iconst X (0 : Int32) d14_0 (by decide) 1 rfl ?_
  refine g_istoreN X d14_1 (Ls' := #[.val (.ref a), .val (.int (0 : Int32))]) rfl 2 rfl ?_
  have loop : ∀ (k i : Nat) (T : State), St p l e ({ frames := 4, cells := 0, slots := 0, locals := 53 } : Room) s m #[.ref a] below meth c "com/example/pegwright/pegwright/Names" prog_14_method_2_code 2 ((Option.some Jvm.ClassFile.FieldType.boolean)) "holdsControlCharacter" Z EL nw [] [] T h 0 0 → i + k = cs.length → OwnKit.Goes p e below s Z EL nw (PureQ h fun v => v = .int 0) (({ frames := 4, cells := 0, slots := 0, locals := 53 } : Room)).cells (({ frames := 4, cells := 0, slots := 0, locals := 53 } : Room)).slots (T.setTop (mkF m 2 #[.val (.ref a), .val (.int (Int32.ofNat i))] [])) := by
    intro k
    induction k with
    | zero =>
      intro i T' X' hk
      refine g_iloadN X' d14_2 rfl 3 rfl ?_
      refine g_aloadN X' d14_3 rfl rfl 4 rfl ?_
      refine g_callVp X' (hw _ (List.mem_of_getElem? (i := 69) rfl)) (hw _ (List.mem_of_getElem? (i := 70) rfl)) (hw _ (List.mem_of_getElem? (i := 72) rfl)) (hw _ (List.mem_of_getElem? (i := 71) rfl)) (hw _ (List.mem_of_getElem? (i := 9) rfl)) (hw _ (List.mem_of_getElem? (i := 73) rfl)) (nfSel (hw _ (List.mem_of_getElem? (i := 72) rfl))) (by decide) E (c_len l Z a0 G a t kb cs h E C V A hcs hlen) (by simp) (argsL := []) (rest := [.int (Int32.ofNat i)]) pd_17 rfl rfl rfl rfl 1 (Nat.le_of_eq rfl) (by decide) (by decide) (ck := 0) rfl (cs := 0) rfl (by decide) (by decide) d14_4 7 rfl ?_
      intro w3 T1 X2 hq4
      subst hq4
      refine g_icmpYes X2 d14_7 (XT.ii_ge_t (of_le (by omega) (by omega))) 29 (by decide) (by decide) ?_
      refine g_iconst X2 (0 : Int32) d14_29 (by decide) 30 rfl ?_
      exact g_retN X2 (t := .boolean) rfl (by simp) d14_30 _ rfl (by decide) (by decide) ⟨rfl, _, rfl, rfl⟩
    | succ k ih =>
      intro i T' X' hk
      have hi : i < cs.length := by omega
      refine g_iloadN X' d14_2 rfl 3 rfl ?_
      refine g_aloadN X' d14_3 rfl rfl 4 rfl ?_
      refine g_callVp X' (hw _ (List.mem_of_getElem? (i := 69) rfl)) (hw _ (List.mem_of_getElem? (i := 70) rfl)) (hw _ (List.mem_of_getElem? (i := 72) rfl)) (hw _ (List.mem_of_getElem? (i := 71) rfl)) (hw _ (List.mem_of_getElem? (i := 9) rfl)) (hw _ (List.mem_of_getElem? (i := 73) rfl)) (nfSel (hw _ (List.mem_of_getElem? (i := 72) rfl))) (by decide) E (c_len l Z a0 G a t kb cs h E C V A hcs hlen) (by simp) (argsL := []) (rest := [.int (Int32.ofNat i)]) pd_17 rfl rfl rfl rfl 1 (Nat.le_of_eq rfl) (by decide) (by decide) (ck := 0) rfl (cs := 0) rfl (by decide) (by decide) d14_4 7 rfl ?_
      intro w7 T5 X6 hq8
      subst hq8
      refine g_icmpNo X6 d14_7 (XT.ii_ge_f (of_lt hi hlen)) 10 rfl ?_
      refine g_aloadN X6 d14_10 rfl rfl 11 rfl ?_
      refine g_iloadN X6 d14_11 rfl 12 rfl ?_
      refine g_callVp X6 (hw _ (List.mem_of_getElem? (i := 83) rfl)) (hw _ (List.mem_of_getElem? (i := 84) rfl)) (hw _ (List.mem_of_getElem? (i := 86) rfl)) (hw _ (List.mem_of_getElem? (i := 85) rfl)) (hw _ (List.mem_of_getElem? (i := 9) rfl)) (hw _ (List.mem_of_getElem? (i := 87) rfl)) (nfSel (hw _ (List.mem_of_getElem? (i := 86) rfl))) (by decide) E (c_cha l Z a0 G a t kb cs i h E C V A hcs hlen hi) (by simp) (argsL := [.int (Int32.ofNat i)]) (rest := []) pd_20 rfl rfl rfl rfl 0 (Nat.le_of_eq rfl) (by decide) (by decide) (ck := 0) rfl (cs := 0) rfl (by decide) (by decide) d14_12 15 rfl ?_
      intro w11 T9 X10 hq12
      subst hq12
      refine g_callSp X10 (hw _ (List.mem_of_getElem? (i := 105) rfl)) (hw _ (List.mem_of_getElem? (i := 106) rfl)) (hw _ (List.mem_of_getElem? (i := 107) rfl)) (hw _ (List.mem_of_getElem? (i := 108) rfl)) (by decide) (c_iso1 l Z a0 G (cs.getD i 0) h) (by simp) (argsL := [.int (cs.getD i 0)]) (rest := []) pd_4 rfl rfl rfl rfl 0 (Nat.le_of_eq rfl) (by decide) (by decide) (ck := 0) rfl (cs := 0) rfl (by decide) (by decide) d14_15 18 rfl ?_
      intro w15 T13 X14 hq16
      subst hq16
      refine g_ifYes X14 d14_18 (XT.ii_eq_t (hiso _ (mem_at hi))) 23 (by decide) (by decide) ?_
      refine g_iinc X14 d14_23 rfl (Int32.ofNat (i + 1)) (of_succ i) (Ls' := #[.val (.ref a), .val (.int (Int32.ofNat (i + 1)))]) rfl 26 rfl ?_
      refine g_goto X14 d14_26 2 (by decide) (by decide) ?_
      exact ih (i + 1) T13 X14 (by omega)
  exact loop cs.length 0 T X (by omega)
theorem d13_0 : decode prog_14_method_5_code 0 = .ok (.aload_n 1, 1) := by decide +kernel
theorem d13_1 : decode prog_14_method_5_code 1 = .ok (.invokestatic 33, 3) := by decide +kernel
theorem d13_4 : decode prog_14_method_5_code 4 = .ok (.ifCond .eq 18, 3) := by decide +kernel
theorem d13_7 : decode prog_14_method_5_code 7 = .ok (.new 37, 3) := by decide +kernel
theorem d13_10 : decode prog_14_method_5_code 10 = .ok (.dup, 1) := by decide +kernel
theorem d13_11 : decode prog_14_method_5_code 11 = .ok (.aload_n 0, 1) := by decide +kernel
theorem d13_12 : decode prog_14_method_5_code 12 = .ok (.aload_n 1, 1) := by decide +kernel
theorem d13_13 : decode prog_14_method_5_code 13 = .ok (.invokedynamic 39, 5) := by decide +kernel
theorem d13_18 : decode prog_14_method_5_code 18 = .ok (.invokespecial 42, 3) := by decide +kernel
theorem d13_21 : decode prog_14_method_5_code 21 = .ok (.athrow, 1) := by decide +kernel
theorem d13_22 : decode prog_14_method_5_code 22 = .ok (.aload_n 1, 1) := by decide +kernel
theorem d13_23 : decode prog_14_method_5_code 23 = .ok (.areturn, 1) := by decide +kernel
set_option maxRecDepth 65536 in
set_option maxHeartbeats 40000000 in
theorem c_rnc (l : Launch) (Z : State) (a0 : Array Value) (G : Gl Z a0) (b a t : Addr) (kb : ClassId) (cs : List Int32) (h : Heap) (E : Exa Z h a "java/lang/String") (C : Fld Z h a "java/lang/String" "coder" "B" (.int (0 : Int32))) (V : Fld Z h a "java/lang/String" "value" "[B" (.ref t)) (A : Arv Z h t kb .byte (Int32.ofNat cs.length) (bys cs) (.int (0 : Int32))) (hcs : ∀ c ∈ cs, ¬ c < 0 ∧ ¬ (255 : Int32) < c) (hlen : cs.length ≤ 4000) (hiso : ∀ c ∈ cs, isoI c = 0) :
    Ctr l Z EL nw (⟨"com/example/pegwright/pegwright/Names", "requireNoControlCharacter", "(Ljava/lang/String;Ljava/lang/String;)Ljava/lang/String;"⟩ : MethodName) prog_14_method_5_code 2 (Option.some (Jvm.ClassFile.FieldType.object "java/lang/String")) ({ frames := 5, cells := 0, slots := 0, locals := 66 } : Room) #[.ref b, .ref a] h [] (PureQ h fun v => v = .ref a) := by
  obtain ⟨hw, hEL, hSA, ⟨zc, SC, hz⟩, ⟨fm, SF, hfm⟩⟩ := id G
  refine Ctr.enter (own := "com/example/pegwright/pegwright/Names") (nm := "requireNoControlCharacter") rfl rfl hEL (plainFor_of_name pn_4) #[.val (.ref b), .val (.ref a)] (fun m => by first | rfl | (simp [entryFrame, mkF, argsToLocals, Value.category, maxLocals]; done)) ?_
  intro p e s m below meth c T X
  refine g_aloadN X d13_0 rfl rfl 1 rfl ?_
  refine g_callSp X (hw _ (List.mem_of_getElem? (i := 66) rfl)) (hw _ (List.mem_of_getElem? (i := 67) rfl)) (hw _ (List.mem_of_getElem? (i := 64) rfl)) (hw _ (List.mem_of_getElem? (i := 68) rfl)) (by decide) (c_hold l Z a0 G a t kb cs h E C V A hcs hlen hiso) (by simp) (argsL := [.ref a]) (rest := []) pd_6 rfl rfl rfl rfl 0 (Nat.le_of_eq rfl) (by decide) (by decide) (ck := 0) rfl (cs := 0) rfl (by decide) (by decide) d13_1 4 rfl ?_
  intro w3 T1 X2 hq4
  subst hq4
  refine g_ifYes X2 d13_4 (XT.ii_eq_t (by decide)) 22 (by decide) (by decide) ?_
  refine g_aloadN X2 d13_22 rfl rfl 23 rfl ?_
  exact g_retA X2 rfl rfl rfl d13_23 (by decide) (by decide) ⟨rfl, _, rfl, rfl⟩
theorem d12_0 : decode jdk_31_method_11_code 0 = .ok (.aload_n 0, 1) := by decide +kernel
theorem d12_1 : decode jdk_31_method_11_code 1 = .ok (.ifnonnull 12, 3) := by decide +kernel
theorem d12_4 : decode jdk_31_method_11_code 4 = .ok (.new 84, 3) := by decide +kernel
theorem d12_7 : decode jdk_31_method_11_code 7 = .ok (.dup, 1) := by decide +kernel
theorem d12_8 : decode jdk_31_method_11_code 8 = .ok (.aload_n 1, 1) := by decide +kernel
theorem d12_9 : decode jdk_31_method_11_code 9 = .ok (.invokespecial 87, 3) := by decide +kernel
theorem d12_12 : decode jdk_31_method_11_code 12 = .ok (.athrow, 1) := by decide +kernel
theorem d12_13 : decode jdk_31_method_11_code 13 = .ok (.aload_n 0, 1) := by decide +kernel
theorem d12_14 : decode jdk_31_method_11_code 14 = .ok (.areturn, 1) := by decide +kernel
theorem pn_5 : plainName "java/util/Objects" = true := by first | (simp [plainName, overriddenIn]; done) | decide +kernel
set_option maxRecDepth 65536 in
set_option maxHeartbeats 40000000 in
theorem c_rnn (l : Launch) (Z : State) (a0 : Array Value) (G : Gl Z a0) (a b : Addr) (h : Heap)  :
    Ctr l Z EL nw (⟨"java/util/Objects", "requireNonNull", "(Ljava/lang/Object;Ljava/lang/String;)Ljava/lang/Object;"⟩ : MethodName) jdk_31_method_11_code 2 (Option.some (Jvm.ClassFile.FieldType.object "java/lang/Object")) ({ frames := 0, cells := 0, slots := 0, locals := 0 } : Room) #[.ref a, .ref b] h [] (PureQ h fun v => v = .ref a) := by
  obtain ⟨hw, hEL, hSA, ⟨zc, SC, hz⟩, ⟨fm, SF, hfm⟩⟩ := id G
  refine Ctr.enter (own := "java/util/Objects") (nm := "requireNonNull") rfl rfl hEL (plainFor_of_name pn_5) #[.val (.ref a), .val (.ref b)] (fun m => by first | rfl | (simp [entryFrame, mkF, argsToLocals, Value.category, maxLocals]; done)) ?_
  intro p e s m below meth c T X
  refine g_aloadN X d12_0 rfl rfl 1 rfl ?_
  refine g_ifnonnullYes X d12_1 13 (by decide) (by decide) ?_
  refine g_aloadN X d12_13 rfl rfl 14 rfl ?_
  exact g_retA X rfl rfl rfl d12_14 (by decide) (by decide) ⟨rfl, _, rfl, rfl⟩
theorem d11_0 : decode jdk_30_method_1_code 0 = .ok (.aload_n 0, 1) := by decide +kernel
theorem d11_1 : decode jdk_30_method_1_code 1 = .ok (.invokespecial 1, 3) := by decide +kernel
theorem d11_4 : decode jdk_30_method_1_code 4 = .ok (.return_, 1) := by decide +kernel
theorem pn_6 : plainName "java/lang/Record" = true := by first | (simp [plainName, overriddenIn]; done) | decide +kernel
set_option maxRecDepth 65536 in
set_option maxHeartbeats 40000000 in
theorem c_rec (l : Launch) (Z : State) (a0 : Array Value) (G : Gl Z a0) (j : Addr) (h : Heap)  :
    Ctr l Z EL nw (⟨"java/lang/Record", "<init>", "()V"⟩ : MethodName) jdk_30_method_1_code 1 (Option.none : Option Jvm.ClassFile.FieldType) ({ frames := 1, cells := 0, slots := 0, locals := 12 } : Room) #[.ref j] h [j] (VoidQ fun h' => h = h') := by
  obtain ⟨hw, hEL, hSA, ⟨zc, SC, hz⟩, ⟨fm, SF, hfm⟩⟩ := id G
  refine Ctr.enter (own := "java/lang/Record") (nm := "<init>") rfl rfl hEL (plainFor_of_name pn_6) #[.val (.ref j)] (fun m => by first | rfl | (simp [entryFrame, mkF, argsToLocals, Value.category, maxLocals]; done)) ?_
  intro p e s m below meth c T X
  refine g_aloadN X d11_0 rfl rfl 1 rfl ?_
  refine g_initO X (hw _ (List.mem_of_getElem? (i := 54) rfl)) (hw _ (List.mem_of_getElem? (i := 19) rfl)) (hw _ (List.mem_of_getElem? (i := 20) rfl)) rfl d11_1 (by decide) 0 (Nat.le_of_eq rfl) (by decide) 4 rfl ?_
  intro T1 X2
  exact g_ret X2 rfl d11_4 (by decide) (by decide) ⟨rfl, rfl⟩
theorem d29_0 : decode jdk_43_method_25_code 0 = .ok (.aload_n 2, 1) := by decide +kernel
theorem d29_1 : decode jdk_43_method_25_code 1 = .ok (.iconst 0, 1) := by decide +kernel
theorem d29_2 : decode jdk_43_method_25_code 2 = .ok (.baload, 1) := by decide +kernel
theorem d29_3 : decode jdk_43_method_25_code 3 = .ok (.istore 5, 2) := by decide +kernel
theorem d29_5 : decode jdk_43_method_25_code 5 = .ok (.iload_n 1, 1) := by decide +kernel
theorem d29_6 : decode jdk_43_method_25_code 6 = .ok (.iload_n 3, 1) := by decide +kernel
theorem d29_7 : decode jdk_43_method_25_code 7 = .ok (.isub, 1) := by decide +kernel
theorem d29_8 : decode jdk_43_method_25_code 8 = .ok (.istore 6, 2) := by decide +kernel
theorem d29_10 : decode jdk_43_method_25_code 10 = .ok (.iload 4, 2) := by decide +kernel
theorem d29_12 : decode jdk_43_method_25_code 12 = .ok (.istore 7, 2) := by decide +kernel
theorem d29_14 : decode jdk_43_method_25_code 14 = .ok (.iload 7, 2) := by decide +kernel
theorem d29_16 : decode jdk_43_method_25_code 16 = .ok (.iload 6, 2) := by decide +kernel
theorem d29_18 : decode jdk_43_method_25_code 18 = .ok (.if_icmp .gt 101, 3) := by decide +kernel
theorem d29_21 : decode jdk_43_method_25_code 21 = .ok (.aload_n 0, 1) := by decide +kernel
theorem d29_22 : decode jdk_43_method_25_code 22 = .ok (.iload 7, 2) := by decide +kernel
theorem d29_24 : decode jdk_43_method_25_code 24 = .ok (.baload, 1) := by decide +kernel
theorem d29_25 : decode jdk_43_method_25_code 25 = .ok (.iload 5, 2) := by decide +kernel
theorem d29_27 : decode jdk_43_method_25_code 27 = .ok (.if_icmp .eq 25, 3) := by decide +kernel
theorem d29_30 : decode jdk_43_method_25_code 30 = .ok (.iinc 7 1, 3) := by decide +kernel
theorem d29_33 : decode jdk_43_method_25_code 33 = .ok (.iload 7, 2) := by decide +kernel
theorem d29_35 : decode jdk_43_method_25_code 35 = .ok (.iload 6, 2) := by decide +kernel
theorem d29_37 : decode jdk_43_method_25_code 37 = .ok (.if_icmp .gt 15, 3) := by decide +kernel
theorem d29_40 : decode jdk_43_method_25_code 40 = .ok (.aload_n 0, 1) := by decide +kernel
theorem d29_41 : decode jdk_43_method_25_code 41 = .ok (.iload 7, 2) := by decide +kernel
theorem d29_43 : decode jdk_43_method_25_code 43 = .ok (.baload, 1) := by decide +kernel
theorem d29_44 : decode jdk_43_method_25_code 44 = .ok (.iload 5, 2) := by decide +kernel
theorem d29_46 : decode jdk_43_method_25_code 46 = .ok (.if_icmp .eq 6, 3) := by decide +kernel
theorem d29_49 : decode jdk_43_method_25_code 49 = .ok (.goto (-19), 3) := by decide +kernel
theorem d29_52 : decode jdk_43_method_25_code 52 = .ok (.iload 7, 2) := by decide +kernel
theorem d29_54 : decode jdk_43_method_25_code 54 = .ok (.iload 6, 2) := by decide +kernel
theorem d29_56 : decode jdk_43_method_25_code 56 = .ok (.if_icmp .gt 57, 3) := by decide +kernel
theorem d29_59 : decode jdk_43_method_25_code 59 = .ok (.iload 7, 2) := by decide +kernel
theorem d29_61 : decode jdk_43_method_25_code 61 = .ok (.iconst 1, 1) := by decide +kernel
theorem d29_62 : decode jdk_43_method_25_code 62 = .ok (.iadd, 1) := by decide +kernel
theorem d29_63 : decode jdk_43_method_25_code 63 = .ok (.istore 8, 2) := by decide +kernel
theorem d29_65 : decode jdk_43_method_25_code 65 = .ok (.iload 8, 2) := by decide +kernel
theorem d29_67 : decode jdk_43_method_25_code 67 = .ok (.iload_n 3, 1) := by decide +kernel
theorem d29_68 : decode jdk_43_method_25_code 68 = .ok (.iadd, 1) := by decide +kernel
theorem d29_69 : decode jdk_43_method_25_code 69 = .ok (.iconst 1, 1) := by decide +kernel
theorem d29_70 : decode jdk_43_method_25_code 70 = .ok (.isub, 1) := by decide +kernel
theorem d29_71 : decode jdk_43_method_25_code 71 = .ok (.istore 9, 2) := by decide +kernel
theorem d29_73 : decode jdk_43_method_25_code 73 = .ok (.iconst 1, 1) := by decide +kernel
theorem d29_74 : decode jdk_43_method_25_code 74 = .ok (.istore 10, 2) := by decide +kernel
theorem d29_76 : decode jdk_43_method_25_code 76 = .ok (.iload 8, 2) := by decide +kernel
theorem d29_78 : decode jdk_43_method_25_code 78 = .ok (.iload 9, 2) := by decide +kernel
theorem d29_80 : decode jdk_43_method_25_code 80 = .ok (.if_icmp .ge 23, 3) := by decide +kernel
theorem d29_83 : decode jdk_43_method_25_code 83 = .ok (.aload_n 0, 1) := by decide +kernel
theorem d29_84 : decode jdk_43_method_25_code 84 = .ok (.iload 8, 2) := by decide +kernel
theorem d29_86 : decode jdk_43_method_25_code 86 = .ok (.baload, 1) := by decide +kernel
theorem d29_87 : decode jdk_43_method_25_code 87 = .ok (.aload_n 2, 1) := by decide +kernel
theorem d29_88 : decode jdk_43_method_25_code 88 = .ok (.iload 10, 2) := by decide +kernel
theorem d29_90 : decode jdk_43_method_25_code 90 = .ok (.baload, 1) := by decide +kernel
theorem d29_91 : decode jdk_43_method_25_code 91 = .ok (.if_icmp .ne 12, 3) := by decide +kernel
theorem d29_94 : decode jdk_43_method_25_code 94 = .ok (.iinc 8 1, 3) := by decide +kernel
theorem d29_97 : decode jdk_43_method_25_code 97 = .ok (.iinc 10 1, 3) := by decide +kernel
theorem d29_100 : decode jdk_43_method_25_code 100 = .ok (.goto (-24), 3) := by decide +kernel
theorem d29_103 : decode jdk_43_method_25_code 103 = .ok (.iload 8, 2) := by decide +kernel
theorem d29_105 : decode jdk_43_method_25_code 105 = .ok (.iload 9, 2) := by decide +kernel
theorem d29_107 : decode jdk_43_method_25_code 107 = .ok (.if_icmp .ne 6, 3) := by decide +kernel
theorem d29_110 : decode jdk_43_method_25_code 110 = .ok (.iload 7, 2) := by decide +kernel
theorem d29_112 : decode jdk_43_method_25_code 112 = .ok (.ireturn, 1) := by decide +kernel
theorem d29_113 : decode jdk_43_method_25_code 113 = .ok (.iinc 7 1, 3) := by decide +kernel
theorem d29_116 : decode jdk_43_method_25_code 116 = .ok (.goto (-102), 3) := by decide +kernel
theorem d29_119 : decode jdk_43_method_25_code 119 = .ok (.iconst (-1), 1) := by decide +kernel
theorem d29_120 : decode jdk_43_method_25_code 120 = .ok (.ireturn, 1) := by decide +kernel
set_option maxRecDepth 65536 in
set_option maxHeartbeats 40000000 in
theorem c_ix5 (l : Launch) (Z : State) (a0 : Array Value) (G : Gl Z a0) (t u : Addr) (kb kb' : ClassId) (cs : List Int32) (h : Heap) (A : Arv Z h t kb .byte (Int32.ofNat cs.length) (bys cs) (.int (0 : Int32))) (B : Arv Z h u kb' .byte (Int32.ofNat [(47 : Int32)].length) (bys [(47 : Int32)]) (.int (0 : Int32))) (hcs : ∀ c ∈ cs, ¬ c < 0 ∧ ¬ (255 : Int32) < c) (hsm : cs.length ≤ 3000) (hns : ∀ c ∈ cs, ¬ c = 47) (hpos : 0 < cs.length) :
    Ctr l Z EL nw (⟨"java/lang/StringLatin1", "indexOf", "([BI[BII)I"⟩ : MethodName) jdk_43_method_25_code 11 (Option.some Jvm.ClassFile.FieldType.int) ({ frames := 0, cells := 0, slots := 0, locals := 0 } : Room) #[.ref t, .int (Int32.ofNat cs.length), .ref u, .int (1 : Int32), .int (0 : Int32)] h [] (PureQ h fun v => v = .int (-1)) := by
  obtain ⟨hw, hEL, hSA, ⟨zc, SC, hz⟩, ⟨fm, SF, hfm⟩⟩ := id G
  refine Ctr.enter (own := "java/lang/StringLatin1") (nm := "indexOf") rfl rfl hEL (plainFor_of_name pn_2) #[.val (.ref t), .val (.int (Int32.ofNat cs.length)), .val (.ref u), .val (.int (1 : Int32)), .val (.int (0 : Int32)), .unset, .unset, .unset, .unset, .unset, .unset] (fun m => by first | rfl | (simp [entryFrame, mkF, argsToLocals, Value.category, maxLocals]; done)) ?_
  intro p e s m below meth c T X
  refine g_aloadN X d29_0 rfl rfl 1 rfl ?_
  refine g_iconst X (0 : Int32) d29_1 (by decide) 2 rfl ?_
  refine g_baload X B (by decide) (by decide) (.int (47 : Int32)) rfl d29_2 3 rfl ?_
  refine g_istore X d29_3 (Ls' := #[.val (.ref t), .val (.int (Int32.ofNat cs.length)), .val (.ref u), .val (.int (1 : Int32)), .val (.int (0 : Int32)), .val (.int (47 : Int32)), .unset, .unset, .unset, .unset, .unset]) rfl 5 rfl ?_
  refine g_iloadN X d29_5 rfl 6 rfl ?_
  refine g_iloadN X d29_6 rfl 7 rfl ?_
  refine g_isub X d29_7 (Int32.ofNat (cs.length - 1)) (of_pred hpos) 8 rfl ?_
  refine g_istore X d29_8 (Ls' := #[.val (.ref t), .val (.int (Int32.ofNat cs.length)), .val (.ref u), .val (.int (1 : Int32)), .val (.int (0 : Int32)), .val (.int (47 : Int32)), .val (.int (Int32.ofNat (cs.length - 1))), .unset, .unset, .unset, .unset]) rfl 10 rfl ?_
  refine g_iload X d29_10 rfl 12 rfl ?_
  refine g_istore X d29_12 (Ls' := #[.val (.ref t), .val (.int (Int32.ofNat cs.length)), .val (.ref u), .val (.int (1 : Int32)), .val (.int (0 : Int32)), .val (.int (47 : Int32)), .val (.int (Int32.ofNat (cs.length - 1))), .val (.int (0 : Int32)), .unset, .unset, .unset]) rfl 14 rfl ?_
  refine g_iload X d29_14 rfl 16 rfl ?_
  refine g_iload X d29_16 rfl 18 rfl ?_
  refine g_icmpNo X d29_18 (XT.ii_gt_f (of_nn (by omega))) 21 rfl ?_
  refine g_aloadN X d29_21 rfl rfl 22 rfl ?_
  refine g_iload X d29_22 rfl 24 rfl ?_
  refine g_baload X A (by decide) (of_lt hpos (by omega)) _ (bys_at cs 0 (by omega)) d29_24 25 rfl ?_
  refine g_iload X d29_25 rfl 27 rfl ?_
  refine g_icmpNo X d29_27 (XT.ii_eq_f (lo47 (hcs _ (mem_at hpos)) (hns _ (mem_at hpos)))) 30 rfl ?_
  have loop : ∀ (k i : Nat) (T : State), St p l e ({ frames := 0, cells := 0, slots := 0, locals := 0 } : Room) s m #[.ref t, .int (Int32.ofNat cs.length), .ref u, .int (1 : Int32), .int (0 : Int32)] below meth c "java/lang/StringLatin1" jdk_43_method_25_code 11 ((Option.some Jvm.ClassFile.FieldType.int)) "indexOf" Z EL nw [] [] T h 0 0 → i + 1 + k = cs.length → OwnKit.Goes p e below s Z EL nw (PureQ h fun v => v = .int (-1)) (({ frames := 0, cells := 0, slots := 0, locals := 0 } : Room)).cells (({ frames := 0, cells := 0, slots := 0, locals := 0 } : Room)).slots (T.setTop (mkF m 30 #[.val (.ref t), .val (.int (Int32.ofNat cs.length)), .val (.ref u), .val (.int (1 : Int32)), .val (.int (0 : Int32)), .val (.int (47 : Int32)), .val (.int (Int32.ofNat (cs.length - 1))), .val (.int (Int32.ofNat i)), .unset, .unset, .unset] [])) := by
    intro k
    induction k with
    | zero =>
      intro i T' X' hk
      refine g_iinc X' d29_30 rfl (Int32.ofNat (i + 1)) (of_succ i) (Ls' := #[.val (.ref t), .val (.int (Int32.ofNat cs.length)), .val (.ref u), .val (.int (1 : Int32)), .val (.int (0 : Int32)), .val (.int (47 : Int32)), .val (.int (Int32.ofNat (cs.length - 1))), .val (.int (Int32.ofNat (i + 1))), .unset, .unset, .unset]) rfl 33 rfl ?_
      refine g_iload X' d29_33 rfl 35 rfl ?_
      refine g_iload X' d29_35 rfl 37 rfl ?_
      refine g_icmpYes X' d29_37 (XT.ii_gt_t (of_lt (by omega) (by omega))) 52 (by decide) (by decide) ?_
      refine g_iload X' d29_52 rfl 54 rfl ?_
      refine g_iload X' d29_54 rfl 56 rfl ?_
      refine g_icmpYes X' d29_56 (XT.ii_gt_t (of_lt (by omega) (by omega))) 113 (by decide) (by decide) ?_
      refine g_iinc X' d29_113 rfl (Int32.ofNat (i + 1 + 1)) (of_succ (i + 1)) (Ls' := #[.val (.ref t), .val (.int (Int32.ofNat cs.length)), .val (.ref u), .val (.int (1 : Int32)), .val (.int (0 : Int32)), .val (.int (47 : Int32)), .val (.int (Int32.ofNat (cs.length - 1))), .val (.int (Int32.ofNat (i + 1 + 1))), .unset, .unset, .unset]) rfl 116 rfl ?_
      refine g_goto X' d29_116 14 (by decide) (by decide) ?_
      refine g_iload X' d29_14 rfl 16 rfl ?_
      refine g_iload X' d29_16 rfl 18 rfl ?_
      refine g_icmpYes X' d29_18 (XT.ii_gt_t (of_lt (by omega) (by omega))) 119 (by decide) (by decide) ?_
      refine g_iconst X' (-1 : Int32) d29_119 (by decide) 120 rfl ?_
      exact g_retI X' rfl d29_120 (by decide) (by decide) ⟨rfl, _, rfl, rfl⟩
    | succ k ih =>
      intro i T' X' hk
      have hi : i + 1 < cs.length := by omega
      refine g_iinc X' d29_30 rfl (Int32.ofNat (i + 1)) (of_succ i) (Ls' := #[.val (.ref t), .val (.int (Int32.ofNat cs.length)), .val (.ref u), .val (.int (1 : Int32)), .val (.int (0 : Int32)), .val (.int (47 : Int32)), .val (.int (Int32.ofNat (cs.length - 1))), .val (.int (Int32.ofNat (i + 1))), .unset, .unset, .unset]) rfl 33 rfl ?_
      refine g_iload X' d29_33 rfl 35 rfl ?_
      refine g_iload X' d29_35 rfl 37 rfl ?_
      refine g_icmpNo X' d29_37 (XT.ii_gt_f (of_le (by omega) (by omega))) 40 rfl ?_
      refine g_aloadN X' d29_40 rfl rfl 41 rfl ?_
      refine g_iload X' d29_41 rfl 43 rfl ?_
      refine g_baload X' A (of_nn (by omega)) (of_lt hi (by omega)) _ (bys_at cs (i + 1) (by omega)) d29_43 44 rfl ?_
      refine g_iload X' d29_44 rfl 46 rfl ?_
      refine g_icmpNo X' d29_46 (XT.ii_eq_f (lo47 (hcs _ (mem_at hi)) (hns _ (mem_at hi)))) 49 rfl ?_
      refine g_goto X' d29_49 30 (by decide) (by decide) ?_
      exact ih (i + 1) T' X' (by omega)
  exact loop (cs.length - 1) 0 T X (by omega)
theorem d28_0 : decode jdk_43_method_24_code 0 = .ok (.aload_n 1, 1) := by decide +kernel
theorem d28_1 : decode jdk_43_method_24_code 1 = .ok (.arraylength, 1) := by decide +kernel
theorem d28_2 : decode jdk_43_method_24_code 2 = .ok (.ifCond .ne 5, 3) := by decide +kernel
theorem d28_5 : decode jdk_43_method_24_code 5 = .ok (.iconst 0, 1) := by decide +kernel
theorem d28_6 : decode jdk_43_method_24_code 6 = .ok (.ireturn, 1) := by decide +kernel
theorem d28_7 : decode jdk_43_method_24_code 7 = .ok (.aload_n 0, 1) := by decide +kernel
theorem d28_8 : decode jdk_43_method_24_code 8 = .ok (.arraylength, 1) := by decide +kernel
theorem d28_9 : decode jdk_43_method_24_code 9 = .ok (.ifCond .ne 5, 3) := by decide +kernel
theorem d28_12 : decode jdk_43_method_24_code 12 = .ok (.iconst (-1), 1) := by decide +kernel
theorem d28_13 : decode jdk_43_method_24_code 13 = .ok (.ireturn, 1) := by decide +kernel
theorem d28_14 : decode jdk_43_method_24_code 14 = .ok (.aload_n 0, 1) := by decide +kernel
theorem d28_15 : decode jdk_43_method_24_code 15 = .ok (.aload_n 0, 1) := by decide +kernel
theorem d28_16 : decode jdk_43_method_24_code 16 = .ok (.arraylength, 1) := by decide +kernel
theorem d28_17 : decode jdk_43_method_24_code 17 = .ok (.aload_n 1, 1) := by decide +kernel
theorem d28_18 : decode jdk_43_method_24_code 18 = .ok (.aload_n 1, 1) := by decide +kernel
theorem d28_19 : decode jdk_43_method_24_code 19 = .ok (.arraylength, 1) := by decide +kernel
theorem d28_20 : decode jdk_43_method_24_code 20 = .ok (.iconst 0, 1) := by decide +kernel
theorem d28_21 : decode jdk_43_method_24_code 21 = .ok (.invokestatic 99, 3) := by decide +kernel
theorem d28_24 : decode jdk_43_method_24_code 24 = .ok (.ireturn, 1) := by decide +kernel
set_option maxRecDepth 65536 in
set_option maxHeartbeats 40000000 in
theorem c_ix2 (l : Launch) (Z : State) (a0 : Array Value) (G : Gl Z a0) (t u : Addr) (kb kb' : ClassId) (cs : List Int32) (h : Heap) (A : Arv Z h t kb .byte (Int32.ofNat cs.length) (bys cs) (.int (0 : Int32))) (B : Arv Z h u kb' .byte (Int32.ofNat [(47 : Int32)].length) (bys [(47 : Int32)]) (.int (0 : Int32))) (hcs : ∀ c ∈ cs, ¬ c < 0 ∧ ¬ (255 : Int32) < c) (hsm : cs.length ≤ 3000) (hns : ∀ c ∈ cs, ¬ c = 47) :
    Ctr l Z EL nw (⟨"java/lang/StringLatin1", "indexOf", "([B[B)I"⟩ : MethodName) jdk_43_method_24_code 2 (Option.some Jvm.ClassFile.FieldType.int) ({ frames := 1, cells := 0, slots := 0, locals := 22 } : Room) #[.ref t, .ref u] h [] (PureQ h fun v => v = .int (-1)) := by
  obtain ⟨hw, hEL, hSA, ⟨zc, SC, hz⟩, ⟨fm, SF, hfm⟩⟩ := id G
  refine Ctr.enter (own := "java/lang/StringLatin1") (nm := "indexOf") rfl rfl hEL (plainFor_of_name pn_2) #[.val (.ref t), .val (.ref u)] (fun m => by first | rfl | (simp [entryFrame, mkF, argsToLocals, Value.category, maxLocals]; done)) ?_
  intro p e s m below meth c T X
  refine g_aloadN X d28_0 rfl rfl 1 rfl ?_
  refine g_arrlen X B d28_1 2 rfl ?_
  refine g_ifYes X d28_2 (XT.ii_ne_t (by decide)) 7 (by decide) (by decide) ?_
  refine g_aloadN X d28_7 rfl rfl 8 rfl ?_
  refine g_arrlen X A d28_8 9 rfl ?_
  by_cases hb9 : (Int32.ofNat cs.length) = (0 : Int32)
  · refine g_ifNo X d28_9 (XT.ii_ne_f hb9) 12 rfl ?_
    refine g_iconst X (-1 : Int32) d28_12 (by decide) 13 rfl ?_
    exact g_retI X rfl d28_13 (by decide) (by decide) ⟨rfl, _, rfl, rfl⟩
  · refine g_ifYes X d28_9 (XT.ii_ne_t hb9) 14 (by decide) (by decide) ?_
    refine g_aloadN X d28_14 rfl rfl 15 rfl ?_
    refine g_aloadN X d28_15 rfl rfl 16 rfl ?_
    refine g_arrlen X A d28_16 17 rfl ?_
    refine g_aloadN X d28_17 rfl rfl 18 rfl ?_
    refine g_aloadN X d28_18 rfl rfl 19 rfl ?_
    refine g_arrlen X B d28_19 20 rfl ?_
    refine g_iconst X (0 : Int32) d28_20 (by decide) 21 rfl ?_
    refine g_callSp X (hw _ (List.mem_of_getElem? (i := 138) rfl)) (hw _ (List.mem_of_getElem? (i := 139) rfl)) (hw _ (List.mem_of_getElem? (i := 95) rfl)) (hw _ (List.mem_of_getElem? (i := 140) rfl)) (by decide) (c_ix5 l Z a0 G t u kb kb' cs h A B hcs hsm hns (Nat.pos_of_ne_zero (fun q => hb9 (by rw [q]; rfl)))) (by simp) (argsL := [.ref t, .int (Int32.ofNat cs.length), .ref u, .int (Int32.ofNat [(47 : Int32)].length), .int (0 : Int32)]) (rest := []) pd_16 rfl rfl rfl rfl 0 (Nat.le_of_eq rfl) (by decide) (by decide) (ck := 0) rfl (cs := 0) rfl (by decide) (by decide) d28_21 24 rfl ?_
    intro w3 T1 X2 hq4
    subst hq4
    exact g_retI X2 rfl d28_24 (by decide) (by decide) ⟨rfl, _, rfl, rfl⟩
theorem d27_0 : decode jdk_42_method_84_code 0 = .ok (.aload_n 0, 1) := by decide +kernel
theorem d27_1 : decode jdk_42_method_84_code 1 = .ok (.invokevirtual 335, 3) := by decide +kernel
theorem d27_4 : decode jdk_42_method_84_code 4 = .ok (.istore_n 2, 1) := by decide +kernel
theorem d27_5 : decode jdk_42_method_84_code 5 = .ok (.iload_n 2, 1) := by decide +kernel
theorem d27_6 : decode jdk_42_method_84_code 6 = .ok (.aload_n 1, 1) := by decide +kernel
theorem d27_7 : decode jdk_42_method_84_code 7 = .ok (.invokevirtual 335, 3) := by decide +kernel
theorem d27_10 : decode jdk_42_method_84_code 10 = .ok (.if_icmp .ne 36, 3) := by decide +kernel
theorem d27_13 : decode jdk_42_method_84_code 13 = .ok (.aload_n 0, 1) := by decide +kernel
theorem d27_14 : decode jdk_42_method_84_code 14 = .ok (.invokevirtual 492, 3) := by decide +kernel
theorem d27_17 : decode jdk_42_method_84_code 17 = .ok (.ifCond .eq 17, 3) := by decide +kernel
theorem d27_20 : decode jdk_42_method_84_code 20 = .ok (.aload_n 0, 1) := by decide +kernel
theorem d27_21 : decode jdk_42_method_84_code 21 = .ok (.getfield 9, 3) := by decide +kernel
theorem d27_24 : decode jdk_42_method_84_code 24 = .ok (.aload_n 1, 1) := by decide +kernel
theorem d27_25 : decode jdk_42_method_84_code 25 = .ok (.getfield 9, 3) := by decide +kernel
theorem d27_28 : decode jdk_42_method_84_code 28 = .ok (.invokestatic 647, 3) := by decide +kernel
theorem d27_31 : decode jdk_42_method_84_code 31 = .ok (.goto 14, 3) := by decide +kernel
theorem d27_34 : decode jdk_42_method_84_code 34 = .ok (.aload_n 0, 1) := by decide +kernel
theorem d27_35 : decode jdk_42_method_84_code 35 = .ok (.getfield 9, 3) := by decide +kernel
theorem d27_38 : decode jdk_42_method_84_code 38 = .ok (.aload_n 1, 1) := by decide +kernel
theorem d27_39 : decode jdk_42_method_84_code 39 = .ok (.getfield 9, 3) := by decide +kernel
theorem d27_42 : decode jdk_42_method_84_code 42 = .ok (.invokestatic 649, 3) := by decide +kernel
theorem d27_45 : decode jdk_42_method_84_code 45 = .ok (.ireturn, 1) := by decide +kernel
theorem d27_46 : decode jdk_42_method_84_code 46 = .ok (.iload_n 2, 1) := by decide +kernel
theorem d27_47 : decode jdk_42_method_84_code 47 = .ok (.ifCond .ne 5, 3) := by decide +kernel
theorem d27_50 : decode jdk_42_method_84_code 50 = .ok (.iconst (-1), 1) := by decide +kernel
theorem d27_51 : decode jdk_42_method_84_code 51 = .ok (.ireturn, 1) := by decide +kernel
theorem d27_52 : decode jdk_42_method_84_code 52 = .ok (.aload_n 0, 1) := by decide +kernel
theorem d27_53 : decode jdk_42_method_84_code 53 = .ok (.getfield 9, 3) := by decide +kernel
theorem d27_56 : decode jdk_42_method_84_code 56 = .ok (.aload_n 1, 1) := by decide +kernel
theorem d27_57 : decode jdk_42_method_84_code 57 = .ok (.getfield 9, 3) := by decide +kernel
theorem d27_60 : decode jdk_42_method_84_code 60 = .ok (.invokestatic 650, 3) := by decide +kernel
theorem d27_63 : decode jdk_42_method_84_code 63 = .ok (.ireturn, 1) := by decide +kernel
set_option maxRecDepth 65536 in
set_option maxHeartbeats 40000000 in
theorem c_ix1 (l : Launch) (Z : State) (a0 : Array Value) (G : Gl Z a0) (a b t u : Addr) (kb kb' : ClassId) (cs : List Int32) (h : Heap) (E : Exa Z h a "java/lang/String") (C : Fld Z h a "java/lang/String" "coder" "B" (.int (0 : Int32))) (V : Fld Z h a "java/lang/String" "value" "[B" (.ref t)) (A : Arv Z h t kb .byte (Int32.ofNat cs.length) (bys cs) (.int (0 : Int32))) (hcs : ∀ c ∈ cs, ¬ c < 0 ∧ ¬ (255 : Int32) < c) (hlen : cs.length ≤ 4000) (E' : Exa Z h b "java/lang/String") (C' : Fld Z h b "java/lang/String" "coder" "B" (.int (0 : Int32))) (V' : Fld Z h b "java/lang/String" "value" "[B" (.ref u)) (A' : Arv Z h u kb' .byte (Int32.ofNat [(47 : Int32)].length) (bys [(47 : Int32)]) (.int (0 : Int32))) (hds : ∀ c ∈ [(47 : Int32)], ¬ c < 0 ∧ ¬ (255 : Int32) < c) (hlen' : [(47 : Int32)].length ≤ 4000) (hsm : cs.length ≤ 3000) (hns : ∀ c ∈ cs, ¬ c = 47) :
    Ctr l Z EL nw (⟨"java/lang/String", "indexOf", "(Ljava/lang/String;)I"⟩ : MethodName) jdk_42_method_84_code 3 (Option.some Jvm.ClassFile.FieldType.int) ({ frames := 2, cells := 0, slots := 0, locals := 35 } : Room) #[.ref a, .ref b] h [] (PureQ h fun v => v = .int (-1)) := by
  obtain ⟨hw, hEL, hSA, ⟨zc, SC, hz⟩, ⟨fm, SF, hfm⟩⟩ := id G
  refine Ctr.enter (own := "java/lang/String") (nm := "indexOf") rfl rfl hEL (plainFor_of_name pn_0) #[.val (.ref a), .val (.ref b), .unset] (fun m => by first | rfl | (simp [entryFrame, mkF, argsToLocals, Value.category, maxLocals]; done)) ?_
  intro p e s m below meth c T X
  refine g_aloadN X d27_0 rfl rfl 1 rfl ?_
  refine g_callVp X (hw _ (List.mem_of_getElem? (i := 74) rfl)) (hw _ (List.mem_of_getElem? (i := 75) rfl)) (hw _ (List.mem_of_getElem? (i := 77) rfl)) (hw _ (List.mem_of_getElem? (i := 76) rfl)) (hw _ (List.mem_of_getElem? (i := 9) rfl)) (hw _ (List.mem_of_getElem? (i := 78) rfl)) (nfSel (hw _ (List.mem_of_getElem? (i := 77) rfl))) (by decide) E (c_cod l Z a0 G a h C) (by simp) (argsL := []) (rest := []) pd_18 rfl rfl rfl rfl 0 (Nat.le_of_eq rfl) (by decide) (by decide) (ck := 0) rfl (cs := 0) rfl (by decide) (by decide) d27_1 4 rfl ?_
  intro w3 T1 X2 hq4
  subst hq4
  refine g_istoreN X2 d27_4 (Ls' := #[.val (.ref a), .val (.ref b), .val (.int (0 : Int32))]) rfl 5 rfl ?_
  refine g_iloadN X2 d27_5 rfl 6 rfl ?_
  refine g_aloadN X2 d27_6 rfl rfl 7 rfl ?_
  refine g_callVp X2 (hw _ (List.mem_of_getElem? (i := 74) rfl)) (hw _ (List.mem_of_getElem? (i := 75) rfl)) (hw _ (List.mem_of_getElem? (i := 77) rfl)) (hw _ (List.mem_of_getElem? (i := 76) rfl)) (hw _ (List.mem_of_getElem? (i := 9) rfl)) (hw _ (List.mem_of_getElem? (i := 78) rfl)) (nfSel (hw _ (List.mem_of_getElem? (i := 77) rfl))) (by decide) E' (c_cod l Z a0 G b h C') (by simp) (argsL := []) (rest := [.int (0 : Int32)]) pd_18 rfl rfl rfl rfl 1 (Nat.le_of_eq rfl) (by decide) (by decide) (ck := 0) rfl (cs := 0) rfl (by decide) (by decide) d27_7 10 rfl ?_
  intro w7 T5 X6 hq8
  subst hq8
  refine g_icmpNo X6 d27_10 (XT.ii_ne_f (by decide)) 13 rfl ?_
  refine g_aloadN X6 d27_13 rfl rfl 14 rfl ?_
  refine g_callVp X6 (hw _ (List.mem_of_getElem? (i := 88) rfl)) (hw _ (List.mem_of_getElem? (i := 89) rfl)) (hw _ (List.mem_of_getElem? (i := 91) rfl)) (hw _ (List.mem_of_getElem? (i := 90) rfl)) (hw _ (List.mem_of_getElem? (i := 9) rfl)) (hw _ (List.mem_of_getElem? (i := 92) rfl)) (nfSel (hw _ (List.mem_of_getElem? (i := 91) rfl))) (by decide) E (c_isl l Z a0 G a h C) (by simp) (argsL := []) (rest := []) pd_19 rfl rfl rfl rfl 0 (Nat.le_of_eq rfl) (by decide) (by decide) (ck := 0) rfl (cs := 0) rfl (by decide) (by decide) d27_14 17 rfl ?_
  intro w11 T9 X10 hq12
  subst hq12
  refine g_ifNo X10 d27_17 (XT.ii_eq_f (by decide)) 20 rfl ?_
  refine g_aloadN X10 d27_20 rfl rfl 21 rfl ?_
  refine g_getF X10 (Or.inl (hw _ (List.mem_of_getElem? (i := 27) rfl))) (host := "") Via.refl V d27_21 24 rfl ?_
  intro T13 X14
  refine g_aloadN X14 d27_24 rfl rfl 25 rfl ?_
  refine g_getF X14 (Or.inl (hw _ (List.mem_of_getElem? (i := 27) rfl))) (host := "") Via.refl V' d27_25 28 rfl ?_
  intro T15 X16
  refine g_callSp X16 (hw _ (List.mem_of_getElem? (i := 135) rfl)) (hw _ (List.mem_of_getElem? (i := 136) rfl)) (hw _ (List.mem_of_getElem? (i := 95) rfl)) (hw _ (List.mem_of_getElem? (i := 137) rfl)) (by decide) (c_ix2 l Z a0 G t u kb kb' cs h A A' hcs hsm hns) (by simp) (argsL := [.ref t, .ref u]) (rest := []) pd_15 rfl rfl rfl rfl 0 (Nat.le_of_eq rfl) (by decide) (by decide) (ck := 0) rfl (cs := 0) rfl (by decide) (by decide) d27_28 31 rfl ?_
  intro w19 T17 X18 hq20
  subst hq20
  refine g_goto X18 d27_31 45 (by decide) (by decide) ?_
  exact g_retI X18 rfl d27_45 (by decide) (by decide) ⟨rfl, _, rfl, rfl⟩
theorem d26_0 : decode jdk_42_method_126_code 0 = .ok (.aload_n 0, 1) := by decide +kernel
theorem d26_1 : decode jdk_42_method_126_code 1 = .ok (.areturn, 1) := by decide +kernel
set_option maxRecDepth 65536 in
set_option maxHeartbeats 40000000 in
theorem c_ts (l : Launch) (Z : State) (a0 : Array Value) (G : Gl Z a0) (a : Addr) (h : Heap)  :
    Ctr l Z EL nw (⟨"java/lang/String", "toString", "()Ljava/lang/String;"⟩ : MethodName) jdk_42_method_126_code 1 (Option.some (Jvm.ClassFile.FieldType.object "java/lang/String")) ({ frames := 0, cells := 0, slots := 0, locals := 0 } : Room) #[.ref a] h [] (PureQ h fun v => v = .ref a) := by
  obtain ⟨hw, hEL, hSA, ⟨zc, SC, hz⟩, ⟨fm, SF, hfm⟩⟩ := id G
  refine Ctr.enter (own := "java/lang/String") (nm := "toString") rfl rfl hEL (plainFor_of_name pn_0) #[.val (.ref a)] (fun m => by first | rfl | (simp [entryFrame, mkF, argsToLocals, Value.category, maxLocals]; done)) ?_
  intro p e s m below meth c T X
  refine g_aloadN X d26_0 rfl rfl 1 rfl ?_
  exact g_retA X rfl rfl rfl d26_1 (by decide) (by decide) ⟨rfl, _, rfl, rfl⟩
theorem d25_0 : decode jdk_42_method_97_code 0 = .ok (.aload_n 0, 1) := by decide +kernel
theorem d25_1 : decode jdk_42_method_97_code 1 = .ok (.aload_n 1, 1) := by decide +kernel
theorem d25_2 : decode jdk_42_method_97_code 2 = .ok (.invokeinterface 710 1, 5) := by decide +kernel
theorem d25_7 : decode jdk_42_method_97_code 7 = .ok (.invokevirtual 711, 3) := by decide +kernel
theorem d25_10 : decode jdk_42_method_97_code 10 = .ok (.ifCond .lt 7, 3) := by decide +kernel
theorem d25_13 : decode jdk_42_method_97_code 13 = .ok (.iconst 1, 1) := by decide +kernel
theorem d25_14 : decode jdk_42_method_97_code 14 = .ok (.goto 4, 3) := by decide +kernel
theorem d25_17 : decode jdk_42_method_97_code 17 = .ok (.iconst 0, 1) := by decide +kernel
theorem d25_18 : decode jdk_42_method_97_code 18 = .ok (.ireturn, 1) := by decide +kernel
set_option maxRecDepth 65536 in
set_option maxHeartbeats 40000000 in
theorem c_cont (l : Launch) (Z : State) (a0 : Array Value) (G : Gl Z a0) (a b t u : Addr) (kb kb' : ClassId) (cs : List Int32) (h : Heap) (E : Exa Z h a "java/lang/String") (C : Fld Z h a "java/lang/String" "coder" "B" (.int (0 : Int32))) (V : Fld Z h a "java/lang/String" "value" "[B" (.ref t)) (A : Arv Z h t kb .byte (Int32.ofNat cs.length) (bys cs) (.int (0 : Int32))) (hcs : ∀ c ∈ cs, ¬ c < 0 ∧ ¬ (255 : Int32) < c) (hlen : cs.length ≤ 4000) (E' : Exa Z h b "java/lang/String") (C' : Fld Z h b "java/lang/String" "coder" "B" (.int (0 : Int32))) (V' : Fld Z h b "java/lang/String" "value" "[B" (.ref u)) (A' : Arv Z h u kb' .byte (Int32.ofNat [(47 : Int32)].length) (bys [(47 : Int32)]) (.int (0 : Int32))) (hds : ∀ c ∈ [(47 : Int32)], ¬ c < 0 ∧ ¬ (255 : Int32) < c) (hlen' : [(47 : Int32)].length ≤ 4000) (hsm : cs.length ≤ 3000) (hns : ∀ c ∈ cs, ¬ c = 47) :
    Ctr l Z EL nw (⟨"java/lang/String", "contains", "(Ljava/lang/CharSequence;)Z"⟩ : MethodName) jdk_42_method_97_code 2 (Option.some Jvm.ClassFile.FieldType.boolean) ({ frames := 3, cells := 0, slots := 0, locals := 49 } : Room) #[.ref a, .ref b] h [] (PureQ h fun v => v = .int 0) := by
  obtain ⟨hw, hEL, hSA, ⟨zc, SC, hz⟩, ⟨fm, SF, hfm⟩⟩ := id G
  refine Ctr.enter (own := "java/lang/String") (nm := "contains") rfl rfl hEL (plainFor_of_name pn_0) #[.val (.ref a), .val (.ref b)] (fun m => by first | rfl | (simp [entryFrame, mkF, argsToLocals, Value.category, maxLocals]; done)) ?_
  intro p e s m below meth c T X
  refine g_aloadN X d25_0 rfl rfl 1 rfl ?_
  refine g_aloadN X d25_1 rfl rfl 2 rfl ?_
  refine g_callFp X (hw _ (List.mem_of_getElem? (i := 121) rfl)) (hw _ (List.mem_of_getElem? (i := 122) rfl)) (hw _ (List.mem_of_getElem? (i := 123) rfl)) (hw _ (List.mem_of_getElem? (i := 124) rfl)) (hw _ (List.mem_of_getElem? (i := 125) rfl)) (hw _ (List.mem_of_getElem? (i := 126) rfl)) (hw _ (List.mem_of_getElem? (i := 127) rfl)) (hw _ (List.mem_of_getElem? (i := 128) rfl)) (hw _ (List.mem_of_getElem? (i := 9) rfl)) (hw _ (List.mem_of_getElem? (i := 129) rfl)) (by decide) E' (c_ts l Z a0 G b h) (by simp) (argsL := []) (rest := [.ref a]) pd_13 rfl rfl rfl rfl 1 (Nat.le_of_eq rfl) (by decide) (by decide) (ck := 0) rfl (cs := 0) rfl (by decide) (by decide) d25_2 7 rfl ?_
  intro w3 T1 X2 hq4
  subst hq4
  refine g_callVp X2 (hw _ (List.mem_of_getElem? (i := 130) rfl)) (hw _ (List.mem_of_getElem? (i := 131) rfl)) (hw _ (List.mem_of_getElem? (i := 133) rfl)) (hw _ (List.mem_of_getElem? (i := 132) rfl)) (hw _ (List.mem_of_getElem? (i := 9) rfl)) (hw _ (List.mem_of_getElem? (i := 134) rfl)) (nfSel (hw _ (List.mem_of_getElem? (i := 133) rfl))) (by decide) E (c_ix1 l Z a0 G a b t u kb kb' cs h E C V A hcs hlen E' C' V' A' hds hlen' hsm hns) (by simp) (argsL := [.ref b]) (rest := []) pd_14 rfl rfl rfl rfl 0 (Nat.le_of_eq rfl) (by decide) (by decide) (ck := 0) rfl (cs := 0) rfl (by decide) (by decide) d25_7 10 rfl ?_
  intro w7 T5 X6 hq8
  subst hq8
  refine g_ifYes X6 d25_10 (XT.ii_lt_t (by decide)) 17 (by decide) (by decide) ?_
  refine g_iconst X6 (0 : Int32) d25_17 (by decide) 18 rfl ?_
  exact g_retN X6 (t := .boolean) rfl (by simp) d25_18 _ rfl (by decide) (by decide) ⟨rfl, _, rfl, rfl⟩
theorem d24_0 : decode prog_14_method_8_code 0 = .ok (.aload_n 1, 1) := by decide +kernel
theorem d24_1 : decode prog_14_method_8_code 1 = .ok (.ldc 50, 2) := by decide +kernel
theorem d24_3 : decode prog_14_method_8_code 3 = .ok (.invokevirtual 98, 3) := by decide +kernel
theorem d24_6 : decode prog_14_method_8_code 6 = .ok (.ifCond .eq 18, 3) := by decide +kernel
theorem d24_9 : decode prog_14_method_8_code 9 = .ok (.new 37, 3) := by decide +kernel
theorem d24_12 : decode prog_14_method_8_code 12 = .ok (.dup, 1) := by decide +kernel
theorem d24_13 : decode prog_14_method_8_code 13 = .ok (.aload_n 0, 1) := by decide +kernel
theorem d24_14 : decode prog_14_method_8_code 14 = .ok (.aload_n 1, 1) := by decide +kernel
theorem d24_15 : decode prog_14_method_8_code 15 = .ok (.invokedynamic 102, 5) := by decide +kernel
theorem d24_20 : decode prog_14_method_8_code 20 = .ok (.invokespecial 42, 3) := by decide +kernel
theorem d24_23 : decode prog_14_method_8_code 23 = .ok (.athrow, 1) := by decide +kernel
theorem d24_24 : decode prog_14_method_8_code 24 = .ok (.aload_n 1, 1) := by decide +kernel
theorem d24_25 : decode prog_14_method_8_code 25 = .ok (.areturn, 1) := by decide +kernel
set_option maxRecDepth 65536 in
set_option maxHeartbeats 40000000 in
theorem c_rns (l : Launch) (Z : State) (a0 : Array Value) (G : Gl Z a0) (b a : Addr) (us : List Addr) (cs : List Int32) (h : Heap) (S : Str Z h us a cs) (hsm : cs.length ≤ 3000) (hns : ∀ c ∈ cs, ¬ c = 47) :
    Ctr l Z EL nw (⟨"com/example/pegwright/pegwright/Names", "requireNoSlash", "(Ljava/lang/String;Ljava/lang/String;)Ljava/lang/String;"⟩ : MethodName) prog_14_method_8_code 2 (Option.some (Jvm.ClassFile.FieldType.object "java/lang/String")) ({ frames := 4, cells := 2, slots := 8, locals := 62 } : Room) #[.ref b, .ref a] h us (ValQ fun w h' => w = .ref a ∧ Ext h h') := by
  obtain ⟨hw, hEL, hSA, ⟨zc, SC, hz⟩, ⟨fm, SF, hfm⟩⟩ := id G
  refine Ctr.enter (own := "com/example/pegwright/pegwright/Names") (nm := "requireNoSlash") rfl rfl hEL (plainFor_of_name pn_4) #[.val (.ref b), .val (.ref a)] (fun m => by first | rfl | (simp [entryFrame, mkF, argsToLocals, Value.category, maxLocals]; done)) ?_
  intro p e s m below meth c T X
  refine g_aloadN X d24_0 rfl rfl 1 rfl ?_
  refine g_ldcS X (cs := [(47 : Int32)]) rfl (hw _ (List.mem_of_getElem? (i := 115) rfl)) hSA (by simp [EL, consts_1]) ⟨by decide, by decide⟩ (by decide) (by decide) d24_1 4 (by decide) (by decide) (ck := 2) rfl (cs' := 8) rfl (by decide) (by decide) 3 rfl ?_
  intro s1 T2 h3 X4 E5 S6
  obtain ⟨t7, kb8, e9, f10, f11, k12, b13, l14, n15⟩ := id (S.ext E5)
  obtain ⟨t16, kb17, e18, f19, f20, k21, b22, l23, n24⟩ := id S6
  refine g_callVp X4 (hw _ (List.mem_of_getElem? (i := 116) rfl)) (hw _ (List.mem_of_getElem? (i := 117) rfl)) (hw _ (List.mem_of_getElem? (i := 119) rfl)) (hw _ (List.mem_of_getElem? (i := 118) rfl)) (hw _ (List.mem_of_getElem? (i := 9) rfl)) (hw _ (List.mem_of_getElem? (i := 120) rfl)) (nfSel (hw _ (List.mem_of_getElem? (i := 119) rfl))) (by decide) e9 (c_cont l Z a0 G a s1 t7 t16 kb8 kb17 cs h3 e9 f10 f11 k12 b13 l14 e18 f19 f20 k21 b22 l23 hsm hns) (by simp) (argsL := [.ref s1]) (rest := []) pd_12 rfl rfl rfl rfl 0 (Nat.le_of_eq rfl) (by decide) (by decide) (ck := 2) rfl (cs := 8) rfl (by decide) (by decide) d24_3 6 rfl ?_
  intro w27 T25 X26 hq28
  subst hq28
  refine g_ifYes X26 d24_6 (XT.ii_eq_t (by decide)) 24 (by decide) (by decide) ?_
  refine g_aloadN X26 d24_24 rfl rfl 25 rfl ?_
  exact g_retA X26 rfl rfl rfl d24_25 (by decide) (by decide) ⟨_, rfl, ⟨rfl, ((Ext.refl h).trans E5)⟩⟩
theorem d10_0 : decode prog_17_method_1_code 0 = .ok (.aload_n 0, 1) := by decide +kernel
theorem d10_1 : decode prog_17_method_1_code 1 = .ok (.invokespecial 1, 3) := by decide +kernel
theorem d10_4 : decode prog_17_method_1_code 4 = .ok (.ldc 9, 2) := by decide +kernel
theorem d10_6 : decode prog_17_method_1_code 6 = .ok (.aload_n 1, 1) := by decide +kernel
theorem d10_7 : decode prog_17_method_1_code 7 = .ok (.ldc 11, 2) := by decide +kernel
theorem d10_9 : decode prog_17_method_1_code 9 = .ok (.invokestatic 13, 3) := by decide +kernel
theorem d10_12 : decode prog_17_method_1_code 12 = .ok (.checkcast 19, 3) := by decide +kernel
theorem d10_15 : decode prog_17_method_1_code 15 = .ok (.invokestatic 21, 3) := by decide +kernel
theorem d10_18 : decode prog_17_method_1_code 18 = .ok (.pop, 1) := by decide +kernel
theorem d10_19 : decode prog_17_method_1_code 19 = .ok (.ldc 27, 2) := by decide +kernel
theorem d10_21 : decode prog_17_method_1_code 21 = .ok (.aload_n 2, 1) := by decide +kernel
theorem d10_22 : decode prog_17_method_1_code 22 = .ok (.ldc 29, 2) := by decide +kernel
theorem d10_24 : decode prog_17_method_1_code 24 = .ok (.invokestatic 13, 3) := by decide +kernel
theorem d10_27 : decode prog_17_method_1_code 27 = .ok (.checkcast 19, 3) := by decide +kernel
theorem d10_30 : decode prog_17_method_1_code 30 = .ok (.invokestatic 21, 3) := by decide +kernel
theorem d10_33 : decode prog_17_method_1_code 33 = .ok (.pop, 1) := by decide +kernel
theorem d10_34 : decode prog_17_method_1_code 34 = .ok (.ldc 31, 2) := by decide +kernel
theorem d10_36 : decode prog_17_method_1_code 36 = .ok (.aload_n 3, 1) := by decide +kernel
theorem d10_37 : decode prog_17_method_1_code 37 = .ok (.ldc 33, 2) := by decide +kernel
theorem d10_39 : decode prog_17_method_1_code 39 = .ok (.invokestatic 13, 3) := by decide +kernel
theorem d10_42 : decode prog_17_method_1_code 42 = .ok (.checkcast 19, 3) := by decide +kernel
theorem d10_45 : decode prog_17_method_1_code 45 = .ok (.invokestatic 21, 3) := by decide +kernel
theorem d10_48 : decode prog_17_method_1_code 48 = .ok (.pop, 1) := by decide +kernel
theorem d10_49 : decode prog_17_method_1_code 49 = .ok (.ldc 27, 2) := by decide +kernel
theorem d10_51 : decode prog_17_method_1_code 51 = .ok (.aload_n 2, 1) := by decide +kernel
theorem d10_52 : decode prog_17_method_1_code 52 = .ok (.invokestatic 35, 3) := by decide +kernel
theorem d10_55 : decode prog_17_method_1_code 55 = .ok (.pop, 1) := by decide +kernel
theorem d10_56 : decode prog_17_method_1_code 56 = .ok (.ldc 31, 2) := by decide +kernel
theorem d10_58 : decode prog_17_method_1_code 58 = .ok (.aload_n 3, 1) := by decide +kernel
theorem d10_59 : decode prog_17_method_1_code 59 = .ok (.invokestatic 35, 3) := by decide +kernel
theorem d10_62 : decode prog_17_method_1_code 62 = .ok (.pop, 1) := by decide +kernel
theorem d10_63 : decode prog_17_method_1_code 63 = .ok (.aload_n 0, 1) := by decide +kernel
theorem d10_64 : decode prog_17_method_1_code 64 = .ok (.aload_n 1, 1) := by decide +kernel
theorem d10_65 : decode prog_17_method_1_code 65 = .ok (.putfield 38, 3) := by decide +kernel
theorem d10_68 : decode prog_17_method_1_code 68 = .ok (.aload_n 0, 1) := by decide +kernel
theorem d10_69 : decode prog_17_method_1_code 69 = .ok (.aload_n 2, 1) := by decide +kernel
theorem d10_70 : decode prog_17_method_1_code 70 = .ok (.putfield 41, 3) := by decide +kernel
theorem d10_73 : decode prog_17_method_1_code 73 = .ok (.aload_n 0, 1) := by decide +kernel
theorem d10_74 : decode prog_17_method_1_code 74 = .ok (.aload_n 3, 1) := by decide +kernel
theorem d10_75 : decode prog_17_method_1_code 75 = .ok (.putfield 43, 3) := by decide +kernel
theorem d10_78 : decode prog_17_method_1_code 78 = .ok (.return_, 1) := by decide +kernel
theorem pn_7 : plainName "com/example/pegwright/pegwright/Peg" = true := by first | (simp [plainName, overriddenIn]; done) | decide +kernel
set_option maxRecDepth 65536 in
set_option maxHeartbeats 40000000 in
theorem c_pinit (l : Launch) (Z : State) (a0 : Array Value) (G : Gl Z a0) (j a b d : Addr) (us : List Addr) (cs1 cs2 cs3 : List Int32) (h : Heap) (E : Exa Z h j "com/example/pegwright/pegwright/Peg") (F0 : Fld Z h j "com/example/pegwright/pegwright/Peg" "project" "Ljava/lang/String;" .null) (F1 : Fld Z h j "com/example/pegwright/pegwright/Peg" "element" "Ljava/lang/String;" .null) (F2 : Fld Z h j "com/example/pegwright/pegwright/Peg" "activity" "Ljava/lang/String;" .null) (S1 : Str Z h (j :: us) a cs1) (S2 : Str Z h (j :: us) b cs2) (S3 : Str Z h (j :: us) d cs3) (i1 : ∀ c ∈ cs1, isoI c = 0) (i2 : ∀ c ∈ cs2, isoI c = 0) (i3 : ∀ c ∈ cs3, isoI c = 0) (m2 : cs2.length ≤ 3000) (n2 : ∀ c ∈ cs2, ¬ c = 47) (m3 : cs3.length ≤ 3000) (n3 : ∀ c ∈ cs3, ¬ c = 47) :
    Ctr l Z EL nw (⟨"com/example/pegwright/pegwright/Peg", "<init>", "(Ljava/lang/String;Ljava/lang/String;Ljava/lang/String;)V"⟩ : MethodName) prog_17_method_1_code 4 (Option.none : Option Jvm.ClassFile.FieldType) ({ frames := 6, cells := 16, slots := 312, locals := 79 } : Room) #[.ref j, .ref a, .ref b, .ref d] h (j :: us) (VoidQ fun h' => Keep h h' [j] ∧ Exa Z h' j "com/example/pegwright/pegwright/Peg" ∧ Fld Z h' j "com/example/pegwright/pegwright/Peg" "project" "Ljava/lang/String;" (.ref a) ∧ Fld Z h' j "com/example/pegwright/pegwright/Peg" "element" "Ljava/lang/String;" (.ref b) ∧ Fld Z h' j "com/example/pegwright/pegwright/Peg" "activity" "Ljava/lang/String;" (.ref d)) := by
  obtain ⟨hw, hEL, hSA, ⟨zc, SC, hz⟩, ⟨fm, SF, hfm⟩⟩ := id G
  refine Ctr.enter (own := "com/example/pegwright/pegwright/Peg") (nm := "<init>") rfl rfl hEL (plainFor_of_name pn_7) #[.val (.ref j), .val (.ref a), .val (.ref b), .val (.ref d)] (fun m => by first | rfl | (simp [entryFrame, mkF, argsToLocals, Value.category, maxLocals]; done)) ?_
  intro p e s m below meth c T X
  refine g_aloadN X d10_0 rfl rfl 1 rfl ?_
  refine g_callIn X rfl (hw _ (List.mem_of_getElem? (i := 49) rfl)) (hw _ (List.mem_of_getElem? (i := 50) rfl)) (hw _ (List.mem_of_getElem? (i := 52) rfl)) (hw _ (List.mem_of_getElem? (i := 53) rfl)) (by decide) (c_rec l Z a0 G j h) (by simp) (argsL := []) (rest := []) pd_9 rfl rfl rfl rfl 0 (Nat.le_of_eq rfl) (by decide) (by decide) (ck := 0) rfl (cs := 0) rfl (by decide) (by decide) d10_1 4 rfl ?_
  intro T1 h4 X2 hq3
  subst hq3
  refine g_ldcS X2 (cs := [(97 : Int32), (32 : Int32), (112 : Int32), (101 : Int32), (103 : Int32), (39 : Int32), (115 : Int32), (32 : Int32), (112 : Int32), (114 : Int32), (111 : Int32), (106 : Int32), (101 : Int32), (99 : Int32), (116 : Int32)]) rfl (hw _ (List.mem_of_getElem? (i := 55) rfl)) hSA (by simp [EL, consts_1]) ⟨by decide, by decide⟩ (by decide) (by decide) d10_4 60 (by decide) (by decide) (ck := 2) rfl (cs' := 64) rfl (by decide) (by decide) 6 rfl ?_
  intro s5 T6 h7 X8 E9 S10
  refine g_aloadN X8 d10_6 rfl rfl 7 rfl ?_
  refine g_ldcS X8 (cs := [(112 : Int32), (114 : Int32), (111 : Int32), (106 : Int32), (101 : Int32), (99 : Int32), (116 : Int32)]) rfl (hw _ (List.mem_of_getElem? (i := 56) rfl)) hSA (by simp [EL, consts_1]) ⟨by decide, by decide⟩ (by decide) (by decide) d10_7 28 (by decide) (by decide) (ck := 4) rfl (cs' := 96) rfl (by decide) (by decide) 9 rfl ?_
  intro s11 T12 h13 X14 E15 S16
  refine g_callSp X14 (hw _ (List.mem_of_getElem? (i := 57) rfl)) (hw _ (List.mem_of_getElem? (i := 58) rfl)) (hw _ (List.mem_of_getElem? (i := 59) rfl)) (hw _ (List.mem_of_getElem? (i := 60) rfl)) (by decide) (c_rnn l Z a0 G a s11 h13) (by simp) (argsL := [.ref a, .ref s11]) (rest := [.ref s5]) pd_8 rfl rfl rfl rfl 1 (Nat.le_of_eq rfl) (by decide) (by decide) (ck := 4) rfl (cs := 96) rfl (by decide) (by decide) d10_9 12 rfl ?_
  intro w19 T17 X18 hq20
  subst hq20
  refine g_cast X18 (hw _ (List.mem_of_getElem? (i := 61) rfl)) (Ins.self ((S1.ext E9).ext E15).exa) d10_12 15 rfl ?_
  intro T21 X22
  obtain ⟨t23, kb24, e25, f26, f27, k28, b29, l30, n31⟩ := id ((S1.ext E9).ext E15)
  refine g_callSp X22 (hw _ (List.mem_of_getElem? (i := 62) rfl)) (hw _ (List.mem_of_getElem? (i := 63) rfl)) (hw _ (List.mem_of_getElem? (i := 64) rfl)) (hw _ (List.mem_of_getElem? (i := 65) rfl)) (by decide) (c_rnc l Z a0 G s5 a t23 kb24 cs1 h13 e25 f26 f27 k28 b29 l30 i1) (by simp) (argsL := [.ref s5, .ref a]) (rest := []) pd_7 rfl rfl rfl rfl 0 (Nat.le_of_eq rfl) (by decide) (by decide) (ck := 4) rfl (cs := 96) rfl (by decide) (by decide) d10_15 18 rfl ?_
  intro w34 T32 X33 hq35
  subst hq35
  refine g_pop X33 d10_18 rfl 19 rfl ?_
  refine g_ldcS X33 (cs := [(97 : Int32), (32 : Int32), (112 : Int32), (101 : Int32), (103 : Int32), (39 : Int32), (115 : Int32), (32 : Int32), (101 : Int32), (108 : Int32), (101 : Int32), (109 : Int32), (101 : Int32), (110 : Int32), (116 : Int32)]) rfl (hw _ (List.mem_of_getElem? (i := 79) rfl)) hSA (by simp [EL, consts_1]) ⟨by decide, by decide⟩ (by decide) (by decide) d10_19 60 (by decide) (by decide) (ck := 6) rfl (cs' := 160) rfl (by decide) (by decide) 21 rfl ?_
  intro s36 T37 h38 X39 E40 S41
  refine g_aloadN X39 d10_21 rfl rfl 22 rfl ?_
  refine g_ldcS X39 (cs := [(101 : Int32), (108 : Int32), (101 : Int32), (109 : Int32), (101 : Int32), (110 : Int32), (116 : Int32)]) rfl (hw _ (List.mem_of_getElem? (i := 80) rfl)) hSA (by simp [EL, consts_1]) ⟨by decide, by decide⟩ (by decide) (by decide) d10_22 28 (by decide) (by decide) (ck := 8) rfl (cs' := 192) rfl (by decide) (by decide) 24 rfl ?_
  intro s42 T43 h44 X45 E46 S47
  refine g_callSp X45 (hw _ (List.mem_of_getElem? (i := 57) rfl)) (hw _ (List.mem_of_getElem? (i := 58) rfl)) (hw _ (List.mem_of_getElem? (i := 59) rfl)) (hw _ (List.mem_of_getElem? (i := 60) rfl)) (by decide) (c_rnn l Z a0 G b s42 h44) (by simp) (argsL := [.ref b, .ref s42]) (rest := [.ref s36]) pd_8 rfl rfl rfl rfl 1 (Nat.le_of_eq rfl) (by decide) (by decide) (ck := 8) rfl (cs := 192) rfl (by decide) (by decide) d10_24 27 rfl ?_
  intro w50 T48 X49 hq51
  subst hq51
  refine g_cast X49 (hw _ (List.mem_of_getElem? (i := 61) rfl)) (Ins.self ((((S2.ext E9).ext E15).ext E40).ext E46).exa) d10_27 30 rfl ?_
  intro T52 X53
  obtain ⟨t54, kb55, e56, f57, f58, k59, b60, l61, n62⟩ := id ((((S2.ext E9).ext E15).ext E40).ext E46)
  refine g_callSp X53 (hw _ (List.mem_of_getElem? (i := 62) rfl)) (hw _ (List.mem_of_getElem? (i := 63) rfl)) (hw _ (List.mem_of_getElem? (i := 64) rfl)) (hw _ (List.mem_of_getElem? (i := 65) rfl)) (by decide) (c_rnc l Z a0 G s36 b t54 kb55 cs2 h44 e56 f57 f58 k59 b60 l61 i2) (by simp) (argsL := [.ref s36, .ref b]) (rest := []) pd_7 rfl rfl rfl rfl 0 (Nat.le_of_eq rfl) (by decide) (by decide) (ck := 8) rfl (cs := 192) rfl (by decide) (by decide) d10_30 33 rfl ?_
  intro w65 T63 X64 hq66
  subst hq66
  refine g_pop X64 d10_33 rfl 34 rfl ?_
  refine g_ldcS X64 (cs := [(97 : Int32), (32 : Int32), (112 : Int32), (101 : Int32), (103 : Int32), (39 : Int32), (115 : Int32), (32 : Int32), (97 : Int32), (99 : Int32), (116 : Int32), (105 : Int32), (118 : Int32), (105 : Int32), (116 : Int32), (121 : Int32)]) rfl (hw _ (List.mem_of_getElem? (i := 81) rfl)) hSA (by simp [EL, consts_1]) ⟨by decide, by decide⟩ (by decide) (by decide) d10_34 64 (by decide) (by decide) (ck := 10) rfl (cs' := 260) rfl (by decide) (by decide) 36 rfl ?_
  intro s67 T68 h69 X70 E71 S72
  refine g_aloadN X70 d10_36 rfl rfl 37 rfl ?_
  refine g_ldcS X70 (cs := [(97 : Int32), (99 : Int32), (116 : Int32), (105 : Int32), (118 : Int32), (105 : Int32), (116 : Int32), (121 : Int32)]) rfl (hw _ (List.mem_of_getElem? (i := 82) rfl)) hSA (by simp [EL, consts_1]) ⟨by decide, by decide⟩ (by decide) (by decide) d10_37 32 (by decide) (by decide) (ck := 12) rfl (cs' := 296) rfl (by decide) (by decide) 39 rfl ?_
  intro s73 T74 h75 X76 E77 S78
  refine g_callSp X76 (hw _ (List.mem_of_getElem? (i := 57) rfl)) (hw _ (List.mem_of_getElem? (i := 58) rfl)) (hw _ (List.mem_of_getElem? (i := 59) rfl)) (hw _ (List.mem_of_getElem? (i := 60) rfl)) (by decide) (c_rnn l Z a0 G d s73 h75) (by simp) (argsL := [.ref d, .ref s73]) (rest := [.ref s67]) pd_8 rfl rfl rfl rfl 1 (Nat.le_of_eq rfl) (by decide) (by decide) (ck := 12) rfl (cs := 296) rfl (by decide) (by decide) d10_39 42 rfl ?_
  intro w81 T79 X80 hq82
  subst hq82
  refine g_cast X80 (hw _ (List.mem_of_getElem? (i := 61) rfl)) (Ins.self ((((((S3.ext E9).ext E15).ext E40).ext E46).ext E71).ext E77).exa) d10_42 45 rfl ?_
  intro T83 X84
  obtain ⟨t85, kb86, e87, f88, f89, k90, b91, l92, n93⟩ := id ((((((S3.ext E9).ext E15).ext E40).ext E46).ext E71).ext E77)
  refine g_callSp X84 (hw _ (List.mem_of_getElem? (i := 62) rfl)) (hw _ (List.mem_of_getElem? (i := 63) rfl)) (hw _ (List.mem_of_getElem? (i := 64) rfl)) (hw _ (List.mem_of_getElem? (i := 65) rfl)) (by decide) (c_rnc l Z a0 G s67 d t85 kb86 cs3 h75 e87 f88 f89 k90 b91 l92 i3) (by simp) (argsL := [.ref s67, .ref d]) (rest := []) pd_7 rfl rfl rfl rfl 0 (Nat.le_of_eq rfl) (by decide) (by decide) (ck := 12) rfl (cs := 296) rfl (by decide) (by decide) d10_45 48 rfl ?_
  intro w96 T94 X95 hq97
  subst hq97
  refine g_pop X95 d10_48 rfl 49 rfl ?_
  refine g_ldcA X95 (hw _ (List.mem_of_getElem? (i := 79) rfl)) (a := s36) (by simp) d10_49 51 rfl ?_
  refine g_aloadN X95 d10_51 rfl rfl 52 rfl ?_
  refine g_callSv X95 (hw _ (List.mem_of_getElem? (i := 112) rfl)) (hw _ (List.mem_of_getElem? (i := 113) rfl)) (hw _ (List.mem_of_getElem? (i := 64) rfl)) (hw _ (List.mem_of_getElem? (i := 114) rfl)) (by decide) (c_rns l Z a0 G s36 b (j :: us) cs2 h75 ((((((S2.ext E9).ext E15).ext E40).ext E46).ext E71).ext E77) m2 n2) (fun _ q => q) (argsL := [.ref s36, .ref b]) (rest := []) pd_7 rfl rfl rfl rfl 0 (Nat.le_of_eq rfl) (by decide) (by decide) (ck := 14) rfl (cs := 304) rfl (by decide) (by decide) d10_52 55 rfl ?_
  intro w100 T98 h102 X99 hq101
  obtain ⟨rfl, E103⟩ := hq101
  refine g_pop X99 d10_55 rfl 56 rfl ?_
  refine g_ldcA X99 (hw _ (List.mem_of_getElem? (i := 81) rfl)) (a := s67) (by simp) d10_56 58 rfl ?_
  refine g_aloadN X99 d10_58 rfl rfl 59 rfl ?_
  refine g_callSv X99 (hw _ (List.mem_of_getElem? (i := 112) rfl)) (hw _ (List.mem_of_getElem? (i := 113) rfl)) (hw _ (List.mem_of_getElem? (i := 64) rfl)) (hw _ (List.mem_of_getElem? (i := 114) rfl)) (by decide) (c_rns l Z a0 G s67 d (j :: us) cs3 h102 (((((((S3.ext E9).ext E15).ext E40).ext E46).ext E71).ext E77).ext E103) m3 n3) (fun _ q => q) (argsL := [.ref s67, .ref d]) (rest := []) pd_7 rfl rfl rfl rfl 0 (Nat.le_of_eq rfl) (by decide) (by decide) (ck := 16) rfl (cs := 312) rfl (by decide) (by decide) d10_59 62 rfl ?_
  intro w106 T104 h108 X105 hq107
  obtain ⟨rfl, E109⟩ := hq107
  refine g_pop X105 d10_62 rfl 63 rfl ?_
  refine g_aloadN X105 d10_63 rfl rfl 64 rfl ?_
  refine g_aloadN X105 d10_64 rfl rfl 65 rfl ?_
  refine g_putF X105 (Or.inl (hw _ (List.mem_of_getElem? (i := 141) rfl))) (host := "") Via.refl ((((((((F0.ext E9).ext E15).ext E40).ext E46).ext E71).ext E77).ext E103).ext E109) ((((((((E.ext E9).ext E15).ext E40).ext E46).ext E71).ext E77).ext E103).ext E109) (Or.inr ⟨(hw _ (List.mem_of_getElem? (i := 142) rfl)), rfl, rfl⟩) (hw _ (List.mem_of_getElem? (i := 30) rfl)) (ty := (.object "java/lang/String")) (by rfl) rfl rfl (by simp) d10_65 68 rfl ?_
  intro T110 h111 X112 W113 F114 E115
  refine g_aloadN X112 d10_68 rfl rfl 69 rfl ?_
  refine g_aloadN X112 d10_69 rfl rfl 70 rfl ?_
  refine g_putF X112 (Or.inl (hw _ (List.mem_of_getElem? (i := 143) rfl))) (host := "") Via.refl (((((((((F1.ext E9).ext E15).ext E40).ext E46).ext E71).ext E77).ext E103).ext E109).other W113 (Or.inr (slot_ne (Or.inr (hw _ (List.mem_of_getElem? (i := 144) rfl))) (Or.inr (hw _ (List.mem_of_getElem? (i := 142) rfl))) (by decide) (by rfl) (by rfl)))) E115 (Or.inr ⟨(hw _ (List.mem_of_getElem? (i := 144) rfl)), rfl, rfl⟩) (hw _ (List.mem_of_getElem? (i := 30) rfl)) (ty := (.object "java/lang/String")) (by rfl) rfl rfl (by simp) d10_70 73 rfl ?_
  intro T116 h117 X118 W119 F120 E121
  refine g_aloadN X118 d10_73 rfl rfl 74 rfl ?_
  refine g_aloadN X118 d10_74 rfl rfl 75 rfl ?_
  refine g_putF X118 (Or.inl (hw _ (List.mem_of_getElem? (i := 145) rfl))) (host := "") Via.refl ((((((((((F2.ext E9).ext E15).ext E40).ext E46).ext E71).ext E77).ext E103).ext E109).other W113 (Or.inr (slot_ne (Or.inr (hw _ (List.mem_of_getElem? (i := 146) rfl))) (Or.inr (hw _ (List.mem_of_getElem? (i := 142) rfl))) (by decide) (by rfl) (by rfl)))).other W119 (Or.inr (slot_ne (Or.inr (hw _ (List.mem_of_getElem? (i := 146) rfl))) (Or.inr (hw _ (List.mem_of_getElem? (i := 144) rfl))) (by decide) (by rfl) (by rfl)))) E121 (Or.inr ⟨(hw _ (List.mem_of_getElem? (i := 146) rfl)), rfl, rfl⟩) (hw _ (List.mem_of_getElem? (i := 30) rfl)) (ty := (.object "java/lang/String")) (by rfl) rfl rfl (by simp) d10_75 78 rfl ?_
  intro T122 h123 X124 W125 F126 E127
  exact g_ret X124 rfl d10_78 (by decide) (by decide) ⟨rfl, ⟨((((((((((((Keep.refl h [j]).ext E9).ext E15).ext E40).ext E46).ext E71).ext E77).ext E103).ext E109).wr W113 (Or.inl (by simp))).wr W119 (Or.inl (by simp))).wr W125 (Or.inl (by simp))), E127, ((F114.other W119 (Or.inr (slot_ne (Or.inr (hw _ (List.mem_of_getElem? (i := 142) rfl))) (Or.inr (hw _ (List.mem_of_getElem? (i := 144) rfl))) (by decide) (by rfl) (by rfl)))).other W125 (Or.inr (slot_ne (Or.inr (hw _ (List.mem_of_getElem? (i := 142) rfl))) (Or.inr (hw _ (List.mem_of_getElem? (i := 146) rfl))) (by decide) (by rfl) (by rfl)))), (F120.other W125 (Or.inr (slot_ne (Or.inr (hw _ (List.mem_of_getElem? (i := 144) rfl))) (Or.inr (hw _ (List.mem_of_getElem? (i := 146) rfl))) (by decide) (by rfl) (by rfl)))), F126⟩⟩
theorem d31_0 : decode prog_17_method_4_code 0 = .ok (.aload_n 1, 1) := by decide +kernel
theorem d31_1 : decode prog_17_method_4_code 1 = .ok (.instanceof 7, 3) := by decide +kernel
theorem d31_4 : decode prog_17_method_4_code 4 = .ok (.ifCond .eq 54, 3) := by decide +kernel
theorem d31_7 : decode prog_17_method_4_code 7 = .ok (.aload_n 1, 1) := by decide +kernel
theorem d31_8 : decode prog_17_method_4_code 8 = .ok (.checkcast 7, 3) := by decide +kernel
theorem d31_11 : decode prog_17_method_4_code 11 = .ok (.astore_n 2, 1) := by decide +kernel
theorem d31_12 : decode prog_17_method_4_code 12 = .ok (.aload_n 0, 1) := by decide +kernel
theorem d31_13 : decode prog_17_method_4_code 13 = .ok (.getfield 38, 3) := by decide +kernel
theorem d31_16 : decode prog_17_method_4_code 16 = .ok (.aload_n 2, 1) := by decide +kernel
theorem d31_17 : decode prog_17_method_4_code 17 = .ok (.getfield 38, 3) := by decide +kernel
theorem d31_20 : decode prog_17_method_4_code 20 = .ok (.invokevirtual 80, 3) := by decide +kernel
theorem d31_23 : decode prog_17_method_4_code 23 = .ok (.ifCond .eq 35, 3) := by decide +kernel
theorem d31_26 : decode prog_17_method_4_code 26 = .ok (.aload_n 0, 1) := by decide +kernel
theorem d31_27 : decode prog_17_method_4_code 27 = .ok (.getfield 41, 3) := by decide +kernel
theorem d31_30 : decode prog_17_method_4_code 30 = .ok (.aload_n 2, 1) := by decide +kernel
theorem d31_31 : decode prog_17_method_4_code 31 = .ok (.getfield 41, 3) := by decide +kernel
theorem d31_34 : decode prog_17_method_4_code 34 = .ok (.invokevirtual 80, 3) := by decide +kernel
theorem d31_37 : decode prog_17_method_4_code 37 = .ok (.ifCond .eq 21, 3) := by decide +kernel
theorem d31_40 : decode prog_17_method_4_code 40 = .ok (.aload_n 0, 1) := by decide +kernel
theorem d31_41 : decode prog_17_method_4_code 41 = .ok (.getfield 43, 3) := by decide +kernel
theorem d31_44 : decode prog_17_method_4_code 44 = .ok (.aload_n 2, 1) := by decide +kernel
theorem d31_45 : decode prog_17_method_4_code 45 = .ok (.getfield 43, 3) := by decide +kernel
theorem d31_48 : decode prog_17_method_4_code 48 = .ok (.invokevirtual 80, 3) := by decide +kernel
theorem d31_51 : decode prog_17_method_4_code 51 = .ok (.ifCond .eq 7, 3) := by decide +kernel
theorem d31_54 : decode prog_17_method_4_code 54 = .ok (.iconst 1, 1) := by decide +kernel
theorem d31_55 : decode prog_17_method_4_code 55 = .ok (.goto 4, 3) := by decide +kernel
theorem d31_58 : decode prog_17_method_4_code 58 = .ok (.iconst 0, 1) := by decide +kernel
theorem d31_59 : decode prog_17_method_4_code 59 = .ok (.ireturn, 1) := by decide +kernel
set_option maxRecDepth 65536 in
set_option maxHeartbeats 40000000 in
theorem c_pe0 (l : Launch) (Z : State) (a0 : Array Value) (G : Gl Z a0) (j : Addr) (h : Heap)  :
    Ctr l Z EL nw (⟨"com/example/pegwright/pegwright/Peg", "equals", "(Ljava/lang/Object;)Z"⟩ : MethodName) prog_17_method_4_code 3 (Option.some Jvm.ClassFile.FieldType.boolean) ({ frames := 0, cells := 0, slots := 0, locals := 0 } : Room) #[.ref j, .null] h [] (PureQ h fun v => v = .int 0) := by
  obtain ⟨hw, hEL, hSA, ⟨zc, SC, hz⟩, ⟨fm, SF, hfm⟩⟩ := id G
  refine Ctr.enter (own := "com/example/pegwright/pegwright/Peg") (nm := "equals") rfl rfl hEL (plainFor_of_name pn_7) #[.val (.ref j), .val (.null), .unset] (fun m => by first | rfl | (simp [entryFrame, mkF, argsToLocals, Value.category, maxLocals]; done)) ?_
  intro p e s m below meth c T X
  refine g_aloadN X d31_0 rfl rfl 1 rfl ?_
  refine g_instNull X d31_1 4 rfl ?_
  refine g_ifYes X d31_4 (XT.ii_eq_t (by decide)) 58 (by decide) (by decide) ?_
  refine g_iconst X (0 : Int32) d31_58 (by decide) 59 rfl ?_
  exact g_retN X (t := .boolean) rfl (by simp) d31_59 _ rfl (by decide) (by decide) ⟨rfl, _, rfl, rfl⟩
set_option maxRecDepth 65536 in
set_option maxHeartbeats 40000000 in
theorem c_pe2 (l : Launch) (Z : State) (a0 : Array Value) (G : Gl Z a0) (j1 j2 x10 x11 x12 x20 x21 x22 : Addr) (us : List Addr) (c10 c11 c12 c20 c21 c22 : List Int32) (h : Heap) (FE1 : Exa Z h j1 "com/example/pegwright/pegwright/Peg") (FF10 : Fld Z h j1 "com/example/pegwright/pegwright/Peg" "project" "Ljava/lang/String;" (.ref x10)) (FF11 : Fld Z h j1 "com/example/pegwright/pegwright/Peg" "element" "Ljava/lang/String;" (.ref x11)) (FF12 : Fld Z h j1 "com/example/pegwright/pegwright/Peg" "activity" "Ljava/lang/String;" (.ref x12)) (SS10 : Str Z h us x10 c10) (SS11 : Str Z h us x11 c11) (SS12 : Str Z h us x12 c12) (FE2 : Exa Z h j2 "com/example/pegwright/pegwright/Peg") (FF20 : Fld Z h j2 "com/example/pegwright/pegwright/Peg" "project" "Ljava/lang/String;" (.ref x20)) (FF21 : Fld Z h j2 "com/example/pegwright/pegwright/Peg" "element" "Ljava/lang/String;" (.ref x21)) (FF22 : Fld Z h j2 "com/example/pegwright/pegwright/Peg" "activity" "Ljava/lang/String;" (.ref x22)) (SS20 : Str Z h us x20 c20) (SS21 : Str Z h us x21 c21) (SS22 : Str Z h us x22 c22) :
    Ctr l Z EL nw (⟨"com/example/pegwright/pegwright/Peg", "equals", "(Ljava/lang/Object;)Z"⟩ : MethodName) prog_17_method_4_code 3 (Option.some Jvm.ClassFile.FieldType.boolean) ({ frames := 2, cells := 0, slots := 0, locals := 28 } : Room) #[.ref j1, .ref j2] h [] (PureQ h fun v => v = .int (if c10 = c20 ∧ c11 = c21 ∧ c12 = c22 then 1 else 0)) := by
  obtain ⟨hw, hEL, hSA, ⟨zc, SC, hz⟩, ⟨fm, SF, hfm⟩⟩ := id G
  refine Ctr.enter (own := "com/example/pegwright/pegwright/Peg") (nm := "equals") rfl rfl hEL (plainFor_of_name pn_7) #[.val (.ref j1), .val (.ref j2), .unset] (fun m => by first | rfl | (simp [entryFrame, mkF, argsToLocals, Value.category, maxLocals]; done)) ?_
  intro p e s m below meth c T X
  refine g_aloadN X d31_0 rfl rfl 1 rfl ?_
  refine g_instY X (hw _ (List.mem_of_getElem? (i := 155) rfl)) (Ins.self FE2) d31_1 4 rfl ?_
  intro T1 X2
  refine g_ifNo X2 d31_4 (XT.ii_eq_f (by decide)) 7 rfl ?_
  refine g_aloadN X2 d31_7 rfl rfl 8 rfl ?_
  refine g_cast X2 (hw _ (List.mem_of_getElem? (i := 155) rfl)) (Ins.self FE2) d31_8 11 rfl ?_
  intro T3 X4
  refine g_astoreN X4 d31_11 rfl (Ls' := #[.val (.ref j1), .val (.ref j2), .val (.ref j2)]) rfl 12 rfl ?_
  refine g_aloadN X4 d31_12 rfl rfl 13 rfl ?_
  refine g_getF X4 (Or.inl (hw _ (List.mem_of_getElem? (i := 141) rfl))) (host := "") Via.refl FF10 d31_13 16 rfl ?_
  intro T5 X6
  refine g_aloadN X6 d31_16 rfl rfl 17 rfl ?_
  refine g_getF X6 (Or.inl (hw _ (List.mem_of_getElem? (i := 141) rfl))) (host := "") Via.refl FF20 d31_17 20 rfl ?_
  intro T7 X8
  obtain ⟨t9, kb10, e11, f12, f13, k14, b15, l16, n17⟩ := id SS10
  obtain ⟨t18, kb19, e20, f21, f22, k23, b24, l25, n26⟩ := id SS20
  refine g_callVp X8 (hw _ (List.mem_of_getElem? (i := 157) rfl)) (hw _ (List.mem_of_getElem? (i := 158) rfl)) (hw _ (List.mem_of_getElem? (i := 160) rfl)) (hw _ (List.mem_of_getElem? (i := 159) rfl)) (hw _ (List.mem_of_getElem? (i := 9) rfl)) (hw _ (List.mem_of_getElem? (i := 161) rfl)) (nfSel (hw _ (List.mem_of_getElem? (i := 160) rfl))) (by decide) e11 (c_seq l Z a0 G x10 x20 t9 t18 kb10 kb19 c10 c20 (str_inj SS10 SS20) h e11 f12 f13 k14 b15 l16 e20 f21 f22 k23 b24 l25) (by simp) (argsL := [.ref x20]) (rest := []) pd_11 rfl rfl rfl rfl 0 (Nat.le_of_eq rfl) (by decide) (by decide) (ck := 0) rfl (cs := 0) rfl (by decide) (by decide) d31_20 23 rfl ?_
  intro w29 T27 X28 hq30
  subst hq30
  by_cases hb23 : (if c10 = c20 then (1 : Int32) else 0) = (0 : Int32)
  · refine g_ifYes X28 d31_23 (XT.ii_eq_t hb23) 58 (by decide) (by decide) ?_
    refine g_iconst X28 (0 : Int32) d31_58 (by decide) 59 rfl ?_
    exact g_retN X28 (t := .boolean) rfl (by simp) d31_59 _ rfl (by decide) (by decide) ⟨rfl, _, rfl, (by by_cases q1 : c10 = c20 <;> by_cases q2 : c11 = c21 <;> by_cases q3 : c12 = c22 <;> simp [q1, q2, q3] at hb23 ⊢ <;> rfl)⟩
  · refine g_ifNo X28 d31_23 (XT.ii_eq_f hb23) 26 rfl ?_
    refine g_aloadN X28 d31_26 rfl rfl 27 rfl ?_
    refine g_getF X28 (Or.inl (hw _ (List.mem_of_getElem? (i := 143) rfl))) (host := "") Via.refl FF11 d31_27 30 rfl ?_
    intro T31 X32
    refine g_aloadN X32 d31_30 rfl rfl 31 rfl ?_
    refine g_getF X32 (Or.inl (hw _ (List.mem_of_getElem? (i := 143) rfl))) (host := "") Via.refl FF21 d31_31 34 rfl ?_
    intro T33 X34
    obtain ⟨t35, kb36, e37, f38, f39, k40, b41, l42, n43⟩ := id SS11
    obtain ⟨t44, kb45, e46, f47, f48, k49, b50, l51, n52⟩ := id SS21
    refine g_callVp X34 (hw _ (List.mem_of_getElem? (i := 157) rfl)) (hw _ (List.mem_of_getElem? (i := 158) rfl)) (hw _ (List.mem_of_getElem? (i := 160) rfl)) (hw _ (List.mem_of_getElem? (i := 159) rfl)) (hw _ (List.mem_of_getElem? (i := 9) rfl)) (hw _ (List.mem_of_getElem? (i := 161) rfl)) (nfSel (hw _ (List.mem_of_getElem? (i := 160) rfl))) (by decide) e37 (c_seq l Z a0 G x11 x21 t35 t44 kb36 kb45 c11 c21 (str_inj SS11 SS21) h e37 f38 f39 k40 b41 l42 e46 f47 f48 k49 b50 l51) (by simp) (argsL := [.ref x21]) (rest := []) pd_11 rfl rfl rfl rfl 0 (Nat.le_of_eq rfl) (by decide) (by decide) (ck := 0) rfl (cs := 0) rfl (by decide) (by decide) d31_34 37 rfl ?_
    intro w55 T53 X54 hq56
    subst hq56
    by_cases hb37 : (if c11 = c21 then (1 : Int32) else 0) = (0 : Int32)
    · refine g_ifYes X54 d31_37 (XT.ii_eq_t hb37) 58 (by decide) (by decide) ?_
      refine g_iconst X54 (0 : Int32) d31_58 (by decide) 59 rfl ?_
      exact g_retN X54 (t := .boolean) rfl (by simp) d31_59 _ rfl (by decide) (by decide) ⟨rfl, _, rfl, (by by_cases q1 : c10 = c20 <;> by_cases q2 : c11 = c21 <;> by_cases q3 : c12 = c22 <;> simp [q1, q2, q3] at hb23 hb37 ⊢ <;> rfl)⟩
    · refine g_ifNo X54 d31_37 (XT.ii_eq_f hb37) 40 rfl ?_
      refine g_aloadN X54 d31_40 rfl rfl 41 rfl ?_
      refine g_getF X54 (Or.inl (hw _ (List.mem_of_getElem? (i := 145) rfl))) (host := "") Via.refl FF12 d31_41 44 rfl ?_
      intro T57 X58
      refine g_aloadN X58 d31_44 rfl rfl 45 rfl ?_
      refine g_getF X58 (Or.inl (hw _ (List.mem_of_getElem? (i := 145) rfl))) (host := "") Via.refl FF22 d31_45 48 rfl ?_
      intro T59 X60
      obtain ⟨t61, kb62, e63, f64, f65, k66, b67, l68, n69⟩ := id SS12
      obtain ⟨t70, kb71, e72, f73, f74, k75, b76, l77, n78⟩ := id SS22
      refine g_callVp X60 (hw _ (List.mem_of_getElem? (i := 157) rfl)) (hw _ (List.mem_of_getElem? (i := 158) rfl)) (hw _ (List.mem_of_getElem? (i := 160) rfl)) (hw _ (List.mem_of_getElem? (i := 159) rfl)) (hw _ (List.mem_of_getElem? (i := 9) rfl)) (hw _ (List.mem_of_getElem? (i := 161) rfl)) (nfSel (hw _ (List.mem_of_getElem? (i := 160) rfl))) (by decide) e63 (c_seq l Z a0 G x12 x22 t61 t70 kb62 kb71 c12 c22 (str_inj SS12 SS22) h e63 f64 f65 k66 b67 l68 e72 f73 f74 k75 b76 l77) (by simp) (argsL := [.ref x22]) (rest := []) pd_11 rfl rfl rfl rfl 0 (Nat.le_of_eq rfl) (by decide) (by decide) (ck := 0) rfl (cs := 0) rfl (by decide) (by decide) d31_48 51 rfl ?_
      intro w81 T79 X80 hq82
      subst hq82
      by_cases hb51 : (if c12 = c22 then (1 : Int32) else 0) = (0 : Int32)
      · refine g_ifYes X80 d31_51 (XT.ii_eq_t hb51) 58 (by decide) (by decide) ?_
        refine g_iconst X80 (0 : Int32) d31_58 (by decide) 59 rfl ?_
        exact g_retN X80 (t := .boolean) rfl (by simp) d31_59 _ rfl (by decide) (by decide) ⟨rfl, _, rfl, (by by_cases q1 : c10 = c20 <;> by_cases q2 : c11 = c21 <;> by_cases q3 : c12 = c22 <;> simp [q1, q2, q3] at hb23 hb37 hb51 ⊢ <;> rfl)⟩
      · refine g_ifNo X80 d31_51 (XT.ii_eq_f hb51) 54 rfl ?_
        refine g_iconst X80 (1 : Int32) d31_54 (by decide) 55 rfl ?_
        refine g_goto X80 d31_55 59 (by decide) (by decide) ?_
        exact g_retN X80 (t := .boolean) rfl (by simp) d31_59 _ rfl (by decide) (by decide) ⟨rfl, _, rfl, (by by_cases q1 : c10 = c20 <;> by_cases q2 : c11 = c21 <;> by_cases q3 : c12 = c22 <;> simp [q1, q2, q3] at hb23 hb37 hb51 ⊢ <;> rfl)⟩
abbrev lenI (x : Int32) : Int32 := (x &&& (3 : Int32)) % (3 : Int32)
theorem and3 (x : Int32) : x &&& 3 = 0 ∨ x &&& 3 = 1 ∨ x &&& 3 = 2 ∨ x &&& 3 = 3 := by
  have h := c_and x 3 (by decide)
  have e3 : (3 : Int32).toInt = 3 := by decide
  have e : ∀ k : Int32, (x &&& 3).toInt = k.toInt → x &&& 3 = k := fun k q => Int32.toInt_inj.mp q
  by_cases q0 : (x &&& 3).toInt = 0
  · exact Or.inl (e 0 (by rw [q0]; decide))
  by_cases q1 : (x &&& 3).toInt = 1
  · exact Or.inr (Or.inl (e 1 (by rw [q1]; decide)))
  by_cases q2 : (x &&& 3).toInt = 2
  · exact Or.inr (Or.inr (Or.inl (e 2 (by rw [q2]; decide))))
  exact Or.inr (Or.inr (Or.inr (e 3 (by rw [e3]; omega))))
theorem len012 (x : Int32) : lenI x = 0 ∨ lenI x = 1 ∨ lenI x = 2 := by
  unfold lenI
  rcases and3 x with h | h | h | h <;> rw [h] <;> decide
def g0 (v : Int32) : Int32 := if v < 32 then v + 64 else if ¬ v < 127 ∧ v < 160 then v - 64 else v
theorem g0_tab : ∀ k : Fin 256, (¬ g0 (Int32.ofNat k.val) < 0 ∧ ¬ (255 : Int32) < g0 (Int32.ofNat k.val)) ∧ isoI (g0 (Int32.ofNat k.val)) = 0 := by decide +kernel
def chI (x sl : Int32) : Int32 := if g0 (x &&& 255) = 47 ∧ sl = 0 then 46 else g0 (x &&& 255)
theorem chI_both (x sl : Int32) : (¬ chI x sl < 0 ∧ ¬ (255 : Int32) < chI x sl) ∧ isoI (chI x sl) = 0 := by
  unfold chI
  split
  · decide
  · obtain ⟨k, e⟩ := fin256p (and255 x)
    rw [e]; exact g0_tab k
theorem chI_ok (x sl : Int32) : ¬ chI x sl < 0 ∧ ¬ (255 : Int32) < chI x sl := (chI_both x sl).1
theorem chI_ns (x : Int32) : ¬ chI x 0 = 47 := by
  unfold chI
  split
  · decide
  · rename_i h; intro e; exact h ⟨e, rfl⟩
def partL (p sl : Int32) : List Int32 := if lenI p = 0 then [] else if lenI p = 1 then [chI (XT.ushr p 2) sl] else [chI (XT.ushr p 2) sl, chI (XT.ushr p 10) sl]
theorem partL_iso (p sl : Int32) : ∀ c ∈ partL p sl, isoI c = 0 := by
  unfold partL
  intro c hc
  split at hc
  · simp at hc
  · split at hc
    · simp at hc; subst hc; exact (chI_both _ _).2
    · simp at hc; rcases hc with rfl | rfl <;> exact (chI_both _ _).2
theorem partL_ns (p : Int32) : ∀ c ∈ partL p 0, ¬ c = 47 := by
  unfold partL
  intro c hc
  split at hc
  · simp at hc
  · split at hc
    · simp at hc; subst hc; exact chI_ns _
    · simp at hc; rcases hc with rfl | rfl <;> exact chI_ns _
theorem partL_len (p sl : Int32) : (partL p sl).length ≤ 3000 := by
  unfold partL
  split
  · simp
  · split <;> simp
theorem same_key (p q sl : Int32) : partL p sl = partL q sl ↔ (lenI p = lenI q ∧ (lenI p < 1 ∨ chI (XT.ushr p 2) sl = chI (XT.ushr q 2) sl) ∧ (lenI p < 2 ∨ chI (XT.ushr p 10) sl = chI (XT.ushr q 10) sl)) := by
  have l01 : ((0 : Int32) < 1) = True := by decide
  have l02 : ((0 : Int32) < 2) = True := by decide
  have l11 : ((1 : Int32) < 1) = False := by decide
  have l12 : ((1 : Int32) < 2) = True := by decide
  have l21 : ((2 : Int32) < 1) = False := by decide
  have l22 : ((2 : Int32) < 2) = False := by decide
  unfold partL
  rcases len012 p with hp | hp | hp <;> rcases len012 q with hq | hq | hq <;> rw [hp, hq] <;> simp [l01, l02, l11, l12, l21, l22]
theorem d2_0 : decode method_3_code 0 = .ok (.iload_n 0, 1) := by decide +kernel
theorem d2_1 : decode method_3_code 1 = .ok (.iconst 3, 1) := by decide +kernel
theorem d2_2 : decode method_3_code 2 = .ok (.iand, 1) := by decide +kernel
theorem d2_3 : decode method_3_code 3 = .ok (.iconst 3, 1) := by decide +kernel
theorem d2_4 : decode method_3_code 4 = .ok (.irem, 1) := by decide +kernel
theorem d2_5 : decode method_3_code 5 = .ok (.ireturn, 1) := by decide +kernel
theorem pn_8 : plainName "com/example/pegwright/pegwright/PegEqualsPinLaw" = true := by first | (simp [plainName, overriddenIn]; done) | decide +kernel
set_option maxRecDepth 65536 in
set_option maxHeartbeats 40000000 in
theorem c_ln (l : Launch) (Z : State) (a0 : Array Value) (G : Gl Z a0) (c0 : Int32) (h : Heap)  :
    Ctr l Z EL nw (⟨"com/example/pegwright/pegwright/PegEqualsPinLaw", "len", "(I)I"⟩ : MethodName) method_3_code 1 (Option.some Jvm.ClassFile.FieldType.int) ({ frames := 0, cells := 0, slots := 0, locals := 0 } : Room) #[.int c0] h [] (PureQ h fun v => v = .int (lenI c0)) := by
  obtain ⟨hw, hEL, hSA, ⟨zc, SC, hz⟩, ⟨fm, SF, hfm⟩⟩ := id G
  refine Ctr.enter (own := "com/example/pegwright/pegwright/PegEqualsPinLaw") (nm := "len") rfl rfl hEL (plainFor_of_name pn_8) #[.val (.int c0)] (fun m => by first | rfl | (simp [entryFrame, mkF, argsToLocals, Value.category, maxLocals]; done)) ?_
  intro p e s m below meth c T X
  refine g_iloadN X d2_0 rfl 1 rfl ?_
  refine g_iconst X (3 : Int32) d2_1 (by decide) 2 rfl ?_
  refine g_iand X d2_2 _ rfl 3 rfl ?_
  refine g_iconst X (3 : Int32) d2_3 (by decide) 4 rfl ?_
  refine g_irem X d2_4 (by decide) _ rfl 5 rfl ?_
  exact g_retI X rfl d2_5 (by decide) (by decide) ⟨rfl, _, rfl, rfl⟩
theorem d6_0 : decode method_2_code 0 = .ok (.iload_n 0, 1) := by decide +kernel
theorem d6_1 : decode method_2_code 1 = .ok (.sipush 255, 3) := by decide +kernel
theorem d6_4 : decode method_2_code 4 = .ok (.iand, 1) := by decide +kernel
theorem d6_5 : decode method_2_code 5 = .ok (.istore_n 2, 1) := by decide +kernel
theorem d6_6 : decode method_2_code 6 = .ok (.iload_n 2, 1) := by decide +kernel
theorem d6_7 : decode method_2_code 7 = .ok (.bipush 32, 2) := by decide +kernel
theorem d6_9 : decode method_2_code 9 = .ok (.if_icmp .ge 11, 3) := by decide +kernel
theorem d6_12 : decode method_2_code 12 = .ok (.iload_n 2, 1) := by decide +kernel
theorem d6_13 : decode method_2_code 13 = .ok (.bipush 64, 2) := by decide +kernel
theorem d6_15 : decode method_2_code 15 = .ok (.iadd, 1) := by decide +kernel
theorem d6_16 : decode method_2_code 16 = .ok (.istore_n 2, 1) := by decide +kernel
theorem d6_17 : decode method_2_code 17 = .ok (.goto 21, 3) := by decide +kernel
theorem d6_20 : decode method_2_code 20 = .ok (.iload_n 2, 1) := by decide +kernel
theorem d6_21 : decode method_2_code 21 = .ok (.bipush 127, 2) := by decide +kernel
theorem d6_23 : decode method_2_code 23 = .ok (.if_icmp .lt 15, 3) := by decide +kernel
theorem d6_26 : decode method_2_code 26 = .ok (.iload_n 2, 1) := by decide +kernel
theorem d6_27 : decode method_2_code 27 = .ok (.sipush 160, 3) := by decide +kernel
theorem d6_30 : decode method_2_code 30 = .ok (.if_icmp .ge 8, 3) := by decide +kernel
theorem d6_33 : decode method_2_code 33 = .ok (.iload_n 2, 1) := by decide +kernel
theorem d6_34 : decode method_2_code 34 = .ok (.bipush 64, 2) := by decide +kernel
theorem d6_36 : decode method_2_code 36 = .ok (.isub, 1) := by decide +kernel
theorem d6_37 : decode method_2_code 37 = .ok (.istore_n 2, 1) := by decide +kernel
theorem d6_38 : decode method_2_code 38 = .ok (.iload_n 2, 1) := by decide +kernel
theorem d6_39 : decode method_2_code 39 = .ok (.bipush 47, 2) := by decide +kernel
theorem d6_41 : decode method_2_code 41 = .ok (.if_icmp .ne 10, 3) := by decide +kernel
theorem d6_44 : decode method_2_code 44 = .ok (.iload_n 1, 1) := by decide +kernel
theorem d6_45 : decode method_2_code 45 = .ok (.ifCond .ne 6, 3) := by decide +kernel
theorem d6_48 : decode method_2_code 48 = .ok (.bipush 46, 2) := by decide +kernel
theorem d6_50 : decode method_2_code 50 = .ok (.istore_n 2, 1) := by decide +kernel
theorem d6_51 : decode method_2_code 51 = .ok (.iload_n 2, 1) := by decide +kernel
theorem d6_52 : decode method_2_code 52 = .ok (.i2c, 1) := by decide +kernel
theorem d6_53 : decode method_2_code 53 = .ok (.ireturn, 1) := by decide +kernel
set_option maxRecDepth 65536 in
set_option maxHeartbeats 40000000 in
theorem c_ch (l : Launch) (Z : State) (a0 : Array Value) (G : Gl Z a0) (x0 s0 : Int32) (h : Heap)  :
    Ctr l Z EL nw (⟨"com/example/pegwright/pegwright/PegEqualsPinLaw", "ch", "(IZ)C"⟩ : MethodName) method_2_code 3 (Option.some Jvm.ClassFile.FieldType.char) ({ frames := 0, cells := 0, slots := 0, locals := 0 } : Room) #[.int x0, .int s0] h [] (PureQ h fun v => v = .int (chI x0 s0)) := by
  obtain ⟨hw, hEL, hSA, ⟨zc, SC, hz⟩, ⟨fm, SF, hfm⟩⟩ := id G
  refine Ctr.enter (own := "com/example/pegwright/pegwright/PegEqualsPinLaw") (nm := "ch") rfl rfl hEL (plainFor_of_name pn_8) #[.val (.int x0), .val (.int s0), .unset] (fun m => by first | rfl | (simp [entryFrame, mkF, argsToLocals, Value.category, maxLocals]; done)) ?_
  intro p e s m below meth c T X
  refine g_iloadN X d6_0 rfl 1 rfl ?_
  refine g_sipush X (255 : Int32) d6_1 (by decide) 4 rfl ?_
  refine g_iand X d6_4 _ rfl 5 rfl ?_
  refine g_istoreN X d6_5 (Ls' := #[.val (.int x0), .val (.int s0), .val (.int (x0 &&& (255 : Int32)))]) rfl 6 rfl ?_
  refine g_iloadN X d6_6 rfl 7 rfl ?_
  refine g_bipush X (32 : Int32) d6_7 (by decide) 9 rfl ?_
  by_cases hb9 : (x0 &&& (255 : Int32)) < (32 : Int32)
  · refine g_icmpNo X d6_9 (XT.ii_ge_f hb9) 12 rfl ?_
    refine g_iloadN X d6_12 rfl 13 rfl ?_
    refine g_bipush X (64 : Int32) d6_13 (by decide) 15 rfl ?_
    refine g_iadd X d6_15 _ rfl 16 rfl ?_
    refine g_istoreN X d6_16 (Ls' := #[.val (.int x0), .val (.int s0), .val (.int ((x0 &&& (255 : Int32)) + (64 : Int32)))]) rfl 17 rfl ?_
    refine g_goto X d6_17 38 (by decide) (by decide) ?_
    refine g_iloadN X d6_38 rfl 39 rfl ?_
    refine g_bipush X (47 : Int32) d6_39 (by decide) 41 rfl ?_
    by_cases hb41 : ((x0 &&& (255 : Int32)) + (64 : Int32)) = (47 : Int32)
    · refine g_icmpNo X d6_41 (XT.ii_ne_f hb41) 44 rfl ?_
      refine g_iloadN X d6_44 rfl 45 rfl ?_
      by_cases hb45 : s0 = (0 : Int32)
      · refine g_ifNo X d6_45 (XT.ii_ne_f hb45) 48 rfl ?_
        refine g_bipush X (46 : Int32) d6_48 (by decide) 50 rfl ?_
        refine g_istoreN X d6_50 (Ls' := #[.val (.int x0), .val (.int s0), .val (.int (46 : Int32))]) rfl 51 rfl ?_
        refine g_iloadN X d6_51 rfl 52 rfl ?_
        refine g_i2c X d6_52 (chI x0 s0) (by rw [show (46 : Int32) = chI x0 s0 from by simp [chI, g0, hb41, hb45, hb9]]; exact nar255 (chI_ok _ _)) 53 rfl ?_
        exact g_retN X (t := .char) rfl (by simp) d6_53 _ (nar255 (chI_ok _ _)) (by decide) (by decide) ⟨rfl, _, rfl, rfl⟩
      · refine g_ifYes X d6_45 (XT.ii_ne_t hb45) 51 (by decide) (by decide) ?_
        refine g_iloadN X d6_51 rfl 52 rfl ?_
        refine g_i2c X d6_52 (chI x0 s0) (by rw [show (x0 &&& (255 : Int32)) + (64 : Int32) = chI x0 s0 from by simp [chI, g0, hb41, hb45, hb9]]; exact nar255 (chI_ok _ _)) 53 rfl ?_
        exact g_retN X (t := .char) rfl (by simp) d6_53 _ (nar255 (chI_ok _ _)) (by decide) (by decide) ⟨rfl, _, rfl, rfl⟩
    · refine g_icmpYes X d6_41 (XT.ii_ne_t hb41) 51 (by decide) (by decide) ?_
      refine g_iloadN X d6_51 rfl 52 rfl ?_
      refine g_i2c X d6_52 (chI x0 s0) (by rw [show (x0 &&& (255 : Int32)) + (64 : Int32) = chI x0 s0 from by simp [chI, g0, hb41, hb9]]; exact nar255 (chI_ok _ _)) 53 rfl ?_
      exact g_retN X (t := .char) rfl (by simp) d6_53 _ (nar255 (chI_ok _ _)) (by decide) (by decide) ⟨rfl, _, rfl, rfl⟩
  · refine g_icmpYes X d6_9 (XT.ii_ge_t hb9) 20 (by decide) (by decide) ?_
    refine g_iloadN X d6_20 rfl 21 rfl ?_
    refine g_bipush X (127 : Int32) d6_21 (by decide) 23 rfl ?_
    by_cases hb23 : (x0 &&& (255 : Int32)) < (127 : Int32)
    · refine g_icmpYes X d6_23 (XT.ii_lt_t hb23) 38 (by decide) (by decide) ?_
      refine g_iloadN X d6_38 rfl 39 rfl ?_
      refine g_bipush X (47 : Int32) d6_39 (by decide) 41 rfl ?_
      by_cases hb41 : (x0 &&& (255 : Int32)) = (47 : Int32)
      · refine g_icmpNo X d6_41 (XT.ii_ne_f hb41) 44 rfl ?_
        refine g_iloadN X d6_44 rfl 45 rfl ?_
        by_cases hb45 : s0 = (0 : Int32)
        · refine g_ifNo X d6_45 (XT.ii_ne_f hb45) 48 rfl ?_
          refine g_bipush X (46 : Int32) d6_48 (by decide) 50 rfl ?_
          refine g_istoreN X d6_50 (Ls' := #[.val (.int x0), .val (.int s0), .val (.int (46 : Int32))]) rfl 51 rfl ?_
          refine g_iloadN X d6_51 rfl 52 rfl ?_
          refine g_i2c X d6_52 (chI x0 s0) (by rw [show (46 : Int32) = chI x0 s0 from by simp [chI, g0, hb23, hb41, hb45, hb9]]; exact nar255 (chI_ok _ _)) 53 rfl ?_
          exact g_retN X (t := .char) rfl (by simp) d6_53 _ (nar255 (chI_ok _ _)) (by decide) (by decide) ⟨rfl, _, rfl, rfl⟩
        · refine g_ifYes X d6_45 (XT.ii_ne_t hb45) 51 (by decide) (by decide) ?_
          refine g_iloadN X d6_51 rfl 52 rfl ?_
          refine g_i2c X d6_52 (chI x0 s0) (by rw [show x0 &&& (255 : Int32) = chI x0 s0 from by simp [chI, g0, hb23, hb41, hb45, hb9]]; exact nar255 (chI_ok _ _)) 53 rfl ?_
          exact g_retN X (t := .char) rfl (by simp) d6_53 _ (nar255 (chI_ok _ _)) (by decide) (by decide) ⟨rfl, _, rfl, rfl⟩
      · refine g_icmpYes X d6_41 (XT.ii_ne_t hb41) 51 (by decide) (by decide) ?_
        refine g_iloadN X d6_51 rfl 52 rfl ?_
        refine g_i2c X d6_52 (chI x0 s0) (by rw [show x0 &&& (255 : Int32) = chI x0 s0 from by simp [chI, g0, hb23, hb41, hb9]]; exact nar255 (chI_ok _ _)) 53 rfl ?_
        exact g_retN X (t := .char) rfl (by simp) d6_53 _ (nar255 (chI_ok _ _)) (by decide) (by decide) ⟨rfl, _, rfl, rfl⟩
    · refine g_icmpNo X d6_23 (XT.ii_lt_f hb23) 26 rfl ?_
      refine g_iloadN X d6_26 rfl 27 rfl ?_
      refine g_sipush X (160 : Int32) d6_27 (by decide) 30 rfl ?_
      by_cases hb30 : (x0 &&& (255 : Int32)) < (160 : Int32)
      · refine g_icmpNo X d6_30 (XT.ii_ge_f hb30) 33 rfl ?_
        refine g_iloadN X d6_33 rfl 34 rfl ?_
        refine g_bipush X (64 : Int32) d6_34 (by decide) 36 rfl ?_
        refine g_isub X d6_36 _ rfl 37 rfl ?_
        refine g_istoreN X d6_37 (Ls' := #[.val (.int x0), .val (.int s0), .val (.int ((x0 &&& (255 : Int32)) - (64 : Int32)))]) rfl 38 rfl ?_
        refine g_iloadN X d6_38 rfl 39 rfl ?_
        refine g_bipush X (47 : Int32) d6_39 (by decide) 41 rfl ?_
        by_cases hb41 : ((x0 &&& (255 : Int32)) - (64 : Int32)) = (47 : Int32)
        · refine g_icmpNo X d6_41 (XT.ii_ne_f hb41) 44 rfl ?_
          refine g_iloadN X d6_44 rfl 45 rfl ?_
          by_cases hb45 : s0 = (0 : Int32)
          · refine g_ifNo X d6_45 (XT.ii_ne_f hb45) 48 rfl ?_
            refine g_bipush X (46 : Int32) d6_48 (by decide) 50 rfl ?_
            refine g_istoreN X d6_50 (Ls' := #[.val (.int x0), .val (.int s0), .val (.int (46 : Int32))]) rfl 51 rfl ?_
            refine g_iloadN X d6_51 rfl 52 rfl ?_
            refine g_i2c X d6_52 (chI x0 s0) (by rw [show (46 : Int32) = chI x0 s0 from by simp [chI, g0, hb23, hb30, hb41, hb45, hb9]]; exact nar255 (chI_ok _ _)) 53 rfl ?_
            exact g_retN X (t := .char) rfl (by simp) d6_53 _ (nar255 (chI_ok _ _)) (by decide) (by decide) ⟨rfl, _, rfl, rfl⟩
          · refine g_ifYes X d6_45 (XT.ii_ne_t hb45) 51 (by decide) (by decide) ?_
            refine g_iloadN X d6_51 rfl 52 rfl ?_
            refine g_i2c X d6_52 (chI x0 s0) (by rw [show (x0 &&& (255 : Int32)) - (64 : Int32) = chI x0 s0 from by simp [chI, g0, hb23, hb30, hb41, hb45, hb9]]; exact nar255 (chI_ok _ _)) 53 rfl ?_
            exact g_retN X (t := .char) rfl (by simp) d6_53 _ (nar255 (chI_ok _ _)) (by decide) (by decide) ⟨rfl, _, rfl, rfl⟩
        · refine g_icmpYes X d6_41 (XT.ii_ne_t hb41) 51 (by decide) (by decide) ?_
          refine g_iloadN X d6_51 rfl 52 rfl ?_
          refine g_i2c X d6_52 (chI x0 s0) (by rw [show (x0 &&& (255 : Int32)) - (64 : Int32) = chI x0 s0 from by simp [chI, g0, hb23, hb30, hb41, hb9]]; exact nar255 (chI_ok _ _)) 53 rfl ?_
          exact g_retN X (t := .char) rfl (by simp) d6_53 _ (nar255 (chI_ok _ _)) (by decide) (by decide) ⟨rfl, _, rfl, rfl⟩
      · refine g_icmpYes X d6_30 (XT.ii_ge_t hb30) 38 (by decide) (by decide) ?_
        refine g_iloadN X d6_38 rfl 39 rfl ?_
        refine g_bipush X (47 : Int32) d6_39 (by decide) 41 rfl ?_
        by_cases hb41 : (x0 &&& (255 : Int32)) = (47 : Int32)
        · refine g_icmpNo X d6_41 (XT.ii_ne_f hb41) 44 rfl ?_
          refine g_iloadN X d6_44 rfl 45 rfl ?_
          by_cases hb45 : s0 = (0 : Int32)
          · refine g_ifNo X d6_45 (XT.ii_ne_f hb45) 48 rfl ?_
            refine g_bipush X (46 : Int32) d6_48 (by decide) 50 rfl ?_
            refine g_istoreN X d6_50 (Ls' := #[.val (.int x0), .val (.int s0), .val (.int (46 : Int32))]) rfl 51 rfl ?_
            refine g_iloadN X d6_51 rfl 52 rfl ?_
            refine g_i2c X d6_52 (chI x0 s0) (by rw [show (46 : Int32) = chI x0 s0 from by simp [chI, g0, hb23, hb30, hb41, hb45, hb9]]; exact nar255 (chI_ok _ _)) 53 rfl ?_
            exact g_retN X (t := .char) rfl (by simp) d6_53 _ (nar255 (chI_ok _ _)) (by decide) (by decide) ⟨rfl, _, rfl, rfl⟩
          · refine g_ifYes X d6_45 (XT.ii_ne_t hb45) 51 (by decide) (by decide) ?_
            refine g_iloadN X d6_51 rfl 52 rfl ?_
            refine g_i2c X d6_52 (chI x0 s0) (by rw [show x0 &&& (255 : Int32) = chI x0 s0 from by simp [chI, g0, hb23, hb30, hb41, hb45, hb9]]; exact nar255 (chI_ok _ _)) 53 rfl ?_
            exact g_retN X (t := .char) rfl (by simp) d6_53 _ (nar255 (chI_ok _ _)) (by decide) (by decide) ⟨rfl, _, rfl, rfl⟩
        · refine g_icmpYes X d6_41 (XT.ii_ne_t hb41) 51 (by decide) (by decide) ?_
          refine g_iloadN X d6_51 rfl 52 rfl ?_
          refine g_i2c X d6_52 (chI x0 s0) (by rw [show x0 &&& (255 : Int32) = chI x0 s0 from by simp [chI, g0, hb23, hb30, hb41, hb9]]; exact nar255 (chI_ok _ _)) 53 rfl ?_
          exact g_retN X (t := .char) rfl (by simp) d6_53 _ (nar255 (chI_ok _ _)) (by decide) (by decide) ⟨rfl, _, rfl, rfl⟩
theorem d1_0 : decode method_4_code 0 = .ok (.iload_n 0, 1) := by decide +kernel
theorem d1_1 : decode method_4_code 1 = .ok (.invokestatic 7, 3) := by decide +kernel
theorem d1_4 : decode method_4_code 4 = .ok (.istore_n 2, 1) := by decide +kernel
theorem d1_5 : decode method_4_code 5 = .ok (.iload_n 2, 1) := by decide +kernel
theorem d1_6 : decode method_4_code 6 = .ok (.ifCond .ne 14, 3) := by decide +kernel
theorem d1_9 : decode method_4_code 9 = .ok (.new 13, 3) := by decide +kernel
theorem d1_12 : decode method_4_code 12 = .ok (.dup, 1) := by decide +kernel
theorem d1_13 : decode method_4_code 13 = .ok (.iconst 0, 1) := by decide +kernel
theorem d1_14 : decode method_4_code 14 = .ok (.newarray .char, 2) := by decide +kernel
theorem d1_16 : decode method_4_code 16 = .ok (.invokespecial 15, 3) := by decide +kernel
theorem d1_19 : decode method_4_code 19 = .ok (.areturn, 1) := by decide +kernel
theorem d1_20 : decode method_4_code 20 = .ok (.iload_n 2, 1) := by decide +kernel
theorem d1_21 : decode method_4_code 21 = .ok (.iconst 1, 1) := by decide +kernel
theorem d1_22 : decode method_4_code 22 = .ok (.if_icmp .ne 26, 3) := by decide +kernel
theorem d1_25 : decode method_4_code 25 = .ok (.iconst 1, 1) := by decide +kernel
theorem d1_26 : decode method_4_code 26 = .ok (.newarray .char, 2) := by decide +kernel
theorem d1_28 : decode method_4_code 28 = .ok (.astore_n 3, 1) := by decide +kernel
theorem d1_29 : decode method_4_code 29 = .ok (.aload_n 3, 1) := by decide +kernel
theorem d1_30 : decode method_4_code 30 = .ok (.iconst 0, 1) := by decide +kernel
theorem d1_31 : decode method_4_code 31 = .ok (.iload_n 0, 1) := by decide +kernel
theorem d1_32 : decode method_4_code 32 = .ok (.iconst 2, 1) := by decide +kernel
theorem d1_33 : decode method_4_code 33 = .ok (.iushr, 1) := by decide +kernel
theorem d1_34 : decode method_4_code 34 = .ok (.iload_n 1, 1) := by decide +kernel
theorem d1_35 : decode method_4_code 35 = .ok (.invokestatic 18, 3) := by decide +kernel
theorem d1_38 : decode method_4_code 38 = .ok (.castore, 1) := by decide +kernel
theorem d1_39 : decode method_4_code 39 = .ok (.new 13, 3) := by decide +kernel
theorem d1_42 : decode method_4_code 42 = .ok (.dup, 1) := by decide +kernel
theorem d1_43 : decode method_4_code 43 = .ok (.aload_n 3, 1) := by decide +kernel
theorem d1_44 : decode method_4_code 44 = .ok (.invokespecial 15, 3) := by decide +kernel
theorem d1_47 : decode method_4_code 47 = .ok (.areturn, 1) := by decide +kernel
theorem d1_48 : decode method_4_code 48 = .ok (.iconst 2, 1) := by decide +kernel
theorem d1_49 : decode method_4_code 49 = .ok (.newarray .char, 2) := by decide +kernel
theorem d1_51 : decode method_4_code 51 = .ok (.astore_n 3, 1) := by decide +kernel
theorem d1_52 : decode method_4_code 52 = .ok (.aload_n 3, 1) := by decide +kernel
theorem d1_53 : decode method_4_code 53 = .ok (.iconst 0, 1) := by decide +kernel
theorem d1_54 : decode method_4_code 54 = .ok (.iload_n 0, 1) := by decide +kernel
theorem d1_55 : decode method_4_code 55 = .ok (.iconst 2, 1) := by decide +kernel
theorem d1_56 : decode method_4_code 56 = .ok (.iushr, 1) := by decide +kernel
theorem d1_57 : decode method_4_code 57 = .ok (.iload_n 1, 1) := by decide +kernel
theorem d1_58 : decode method_4_code 58 = .ok (.invokestatic 18, 3) := by decide +kernel
theorem d1_61 : decode method_4_code 61 = .ok (.castore, 1) := by decide +kernel
theorem d1_62 : decode method_4_code 62 = .ok (.aload_n 3, 1) := by decide +kernel
theorem d1_63 : decode method_4_code 63 = .ok (.iconst 1, 1) := by decide +kernel
theorem d1_64 : decode method_4_code 64 = .ok (.iload_n 0, 1) := by decide +kernel
theorem d1_65 : decode method_4_code 65 = .ok (.bipush 10, 2) := by decide +kernel
theorem d1_67 : decode method_4_code 67 = .ok (.iushr, 1) := by decide +kernel
theorem d1_68 : decode method_4_code 68 = .ok (.iload_n 1, 1) := by decide +kernel
theorem d1_69 : decode method_4_code 69 = .ok (.invokestatic 18, 3) := by decide +kernel
theorem d1_72 : decode method_4_code 72 = .ok (.castore, 1) := by decide +kernel
theorem d1_73 : decode method_4_code 73 = .ok (.new 13, 3) := by decide +kernel
theorem d1_76 : decode method_4_code 76 = .ok (.dup, 1) := by decide +kernel
theorem d1_77 : decode method_4_code 77 = .ok (.aload_n 3, 1) := by decide +kernel
theorem d1_78 : decode method_4_code 78 = .ok (.invokespecial 15, 3) := by decide +kernel
theorem d1_81 : decode method_4_code 81 = .ok (.areturn, 1) := by decide +kernel
set_option maxRecDepth 65536 in
set_option maxHeartbeats 40000000 in
theorem c_part (l : Launch) (Z : State) (a0 : Array Value) (G : Gl Z a0) (p0 s0 : Int32) (us : List Addr) (h : Heap)  :
    Ctr l Z EL nw (⟨"com/example/pegwright/pegwright/PegEqualsPinLaw", "part", "(IZ)Ljava/lang/String;"⟩ : MethodName) method_4_code 4 (Option.some (Jvm.ClassFile.FieldType.object "java/lang/String")) ({ frames := 4, cells := 4, slots := 8, locals := 66 } : Room) #[.int p0, .int s0] h us (ValQ fun w h' => ∃ a, w = .ref a ∧ Ext h h' ∧ Str Z h' us a (partL p0 s0)) := by
  obtain ⟨hw, hEL, hSA, ⟨zc, SC, hz⟩, ⟨fm, SF, hfm⟩⟩ := id G
  refine Ctr.enter (own := "com/example/pegwright/pegwright/PegEqualsPinLaw") (nm := "part") rfl rfl hEL (plainFor_of_name pn_8) #[.val (.int p0), .val (.int s0), .unset, .unset] (fun m => by first | rfl | (simp [entryFrame, mkF, argsToLocals, Value.category, maxLocals]; done)) ?_
  intro p e s m below meth c T X
  refine g_iloadN X d1_0 rfl 1 rfl ?_
  refine g_callSp X (hw _ (List.mem_of_getElem? (i := 4) rfl)) (hw _ (List.mem_of_getElem? (i := 5) rfl)) (hw _ (List.mem_of_getElem? (i := 2) rfl)) (hw _ (List.mem_of_getElem? (i := 6) rfl)) (by decide) (c_ln l Z a0 G p0 h) (by simp) (argsL := [.int p0]) (rest := []) pd_0 rfl rfl rfl rfl 0 (Nat.le_of_eq rfl) (by decide) (by decide) (ck := 0) rfl (cs := 0) rfl (by decide) (by decide) d1_1 4 rfl ?_
  intro w3 T1 X2 hq4
  subst hq4
  refine g_istoreN X2 d1_4 (Ls' := #[.val (.int p0), .val (.int s0), .val (.int (lenI p0)), .unset]) rfl 5 rfl ?_
  refine g_iloadN X2 d1_5 rfl 6 rfl ?_
  by_cases hb6 : (lenI p0) = (0 : Int32)
  · refine g_ifNo X2 d1_6 (XT.ii_ne_f hb6) 9 rfl ?_
    refine g_new X2 (hw _ (List.mem_of_getElem? (i := 7) rfl)) (hw _ (List.mem_of_getElem? (i := 8) rfl)) (hw _ (List.mem_of_getElem? (i := 9) rfl)) d1_9 (ck := 1) rfl (cs := 4) rfl (by decide) (by decide) 12 rfl ?_
    intro a5 T6 h7 ea8 X9 E10 A11 D12
    have le_a5 : h.size ≤ a5 := by rw [ea8]; exact (Ext.refl h).1
    have F13 : Fld Z h7 a5 "java/lang/String" "value" "[B" (.null) := D12 (Or.inr (hw _ (List.mem_of_getElem? (i := 23) rfl))) (ty := (.array .byte)) (by rfl)
    have F14 : Fld Z h7 a5 "java/lang/String" "coder" "B" (.int (0 : Int32)) := D12 (Or.inr (hw _ (List.mem_of_getElem? (i := 24) rfl))) (ty := .byte) (by rfl)
    refine g_dup X9 d1_12 rfl 13 rfl ?_
    refine g_iconst X9 (0 : Int32) d1_13 (by decide) 14 rfl ?_
    refine g_newP X9 (hw _ (List.mem_of_getElem? (i := 10) rfl)) d1_14 (by decide) 0 (by decide) (by decide) (ck := 2) rfl (cs := 4) rfl (by decide) (by decide) 16 rfl ?_
    intro a15 T16 h17 k18 ea19 X20 E21 A22
    have A23 : Arv Z h17 a15 k18 .char (0 : Int32) [] (.int (0 : Int32)) := A22.pad (fun i => by rcases i with _ | _ | _ | _ | _ | i <;> rfl)
    have le_a15 : h.size ≤ a15 := by rw [ea19]; exact ((Ext.refl h).trans E10).1
    have ne_a5_a15 : a5 ≠ a15 := by rw [ea19]; exact Nat.ne_of_lt A11.lt
    refine g_callIn X20 rfl (hw _ (List.mem_of_getElem? (i := 11) rfl)) (hw _ (List.mem_of_getElem? (i := 12) rfl)) (hw _ (List.mem_of_getElem? (i := 9) rfl)) (hw _ (List.mem_of_getElem? (i := 13) rfl)) (by decide) (c_s3 l Z a0 G a5 a15 k18 (us) h17 (A11.ext E21) (F13.ext E21) (F14.ext E21) (fun x hx => Nat.ne_of_lt (Nat.lt_of_lt_of_le (X.news x hx) le_a5)) A23) (fun _ hx => List.mem_cons_of_mem _ hx) (argsL := [.ref a15]) (rest := [.ref a5]) pd_25 rfl rfl rfl rfl 1 (Nat.le_of_eq rfl) (by decide) (by decide) (ck := 4) rfl (cs := 8) rfl (by decide) (by decide) d1_16 19 rfl ?_
    intro T24 h27 X25 hq26
    obtain ⟨K28, S29⟩ := hq26
    have X30 := X25.sub (us' := us) (by intro x hx; simp [hx])
    exact g_retA X30 rfl rfl rfl d1_19 (by decide) (by decide) ⟨_, rfl, ⟨a5, rfl, (ext_keep (((Ext.refl h).trans E10).trans E21) K28 (fun x hx => by cases List.mem_singleton.mp hx; exact le_a5)), (by rw [show partL p0 s0 = ([] : List Int32) from by simp [partL, hb6]]; exact S29)⟩⟩
  · refine g_ifYes X2 d1_6 (XT.ii_ne_t hb6) 20 (by decide) (by decide) ?_
    refine g_iloadN X2 d1_20 rfl 21 rfl ?_
    refine g_iconst X2 (1 : Int32) d1_21 (by decide) 22 rfl ?_
    by_cases hb22 : (lenI p0) = (1 : Int32)
    · refine g_icmpNo X2 d1_22 (XT.ii_ne_f hb22) 25 rfl ?_
      refine g_iconst X2 (1 : Int32) d1_25 (by decide) 26 rfl ?_
      refine g_newP X2 (hw _ (List.mem_of_getElem? (i := 10) rfl)) d1_26 (by decide) 1 (by decide) (by decide) (ck := 1) rfl (cs := 1) rfl (by decide) (by decide) 28 rfl ?_
      intro a31 T32 h33 k34 ea35 X36 E37 A38
      have A39 : Arv Z h33 a31 k34 .char (1 : Int32) [.int (0 : Int32)] (.int (0 : Int32)) := A38.pad (fun i => by rcases i with _ | _ | _ | _ | _ | i <;> rfl)
      have le_a31 : h.size ≤ a31 := by rw [ea35]; exact (Ext.refl h).1
      refine g_astoreN X36 d1_28 rfl (Ls' := #[.val (.int p0), .val (.int s0), .val (.int (lenI p0)), .val (.ref a31)]) rfl 29 rfl ?_
      refine g_aloadN X36 d1_29 rfl rfl 30 rfl ?_
      refine g_iconst X36 (0 : Int32) d1_30 (by decide) 31 rfl ?_
      refine g_iloadN X36 d1_31 rfl 32 rfl ?_
      refine g_iconst X36 (2 : Int32) d1_32 (by decide) 33 rfl ?_
      refine g_iushr X36 d1_33 _ rfl 34 rfl ?_
      refine g_iloadN X36 d1_34 rfl 35 rfl ?_
      refine g_callSp X36 (hw _ (List.mem_of_getElem? (i := 32) rfl)) (hw _ (List.mem_of_getElem? (i := 33) rfl)) (hw _ (List.mem_of_getElem? (i := 2) rfl)) (hw _ (List.mem_of_getElem? (i := 34) rfl)) (by decide) (c_ch l Z a0 G (XT.ushr p0 (2 : Int32)) s0 h33) (by simp) (argsL := [.int (XT.ushr p0 (2 : Int32)), .int s0]) (rest := [.int (0 : Int32), .ref a31]) pd_1 rfl rfl rfl rfl 2 (Nat.le_of_eq rfl) (by decide) (by decide) (ck := 1) rfl (cs := 1) rfl (by decide) (by decide) d1_35 38 rfl ?_
      intro w42 T40 X41 hq43
      subst hq43
      refine g_castore X41 A39 0 (by decide) (by decide) (by decide) (by simp) (chI (XT.ushr p0 (2 : Int32)) s0) (nar255 (chI_ok _ _)) (by simp) d1_38 39 rfl ?_
      intro T44 h45 X46 W47 B49
      have A48 : Arv Z h45 a31 k34 .char (1 : Int32) [.int (chI (XT.ushr p0 (2 : Int32)) s0)] (.int (0 : Int32)) := B49
      refine g_new X46 (hw _ (List.mem_of_getElem? (i := 7) rfl)) (hw _ (List.mem_of_getElem? (i := 8) rfl)) (hw _ (List.mem_of_getElem? (i := 9) rfl)) d1_39 (ck := 2) rfl (cs := 5) rfl (by decide) (by decide) 42 rfl ?_
      intro a50 T51 h52 ea53 X54 E55 A56 D57
      have le_a50 : h.size ≤ a50 := by rw [ea53]; exact (ext_wr ((Ext.refl h).trans E37) W47 le_a31).1
      have ne_a31_a50 : a31 ≠ a50 := by rw [ea53]; exact Nat.ne_of_lt A48.lt
      have F58 : Fld Z h52 a50 "java/lang/String" "value" "[B" (.null) := D57 (Or.inr (hw _ (List.mem_of_getElem? (i := 23) rfl))) (ty := (.array .byte)) (by rfl)
      have F59 : Fld Z h52 a50 "java/lang/String" "coder" "B" (.int (0 : Int32)) := D57 (Or.inr (hw _ (List.mem_of_getElem? (i := 24) rfl))) (ty := .byte) (by rfl)
      refine g_dup X54 d1_42 rfl 43 rfl ?_
      refine g_aloadN X54 d1_43 rfl rfl 44 rfl ?_
      refine g_strNew X54 (cs := [chI (XT.ushr p0 (2 : Int32)) s0]) (hw _ (List.mem_of_getElem? (i := 11) rfl)) (hw _ (List.mem_of_getElem? (i := 12) rfl)) (hw _ (List.mem_of_getElem? (i := 13) rfl)) (hwsV hw) (hw _ (List.mem_of_getElem? (i := 8) rfl)) (SC.ext X54.old) hz A56 F58 F59 (A48.ext E55) rfl 1 rfl rfl (by decide) (by decide) (by intro c hc; simp only [List.mem_cons, List.not_mem_nil, or_false] at hc; rcases hc with rfl <;> exact chI_ok _ _) (by simp) rfl 1 (Nat.le_of_eq rfl) (by decide) (by decide) (ck := 3) rfl (cs' := 6) rfl (by decide) (by decide) d1_44 47 rfl ?_
      intro T60 h61 X62 K63 Q64
      have S65 : Str Z h61 (us) a50 [chI (XT.ushr p0 (2 : Int32)) s0] := str_of Q64 X.news le_a50 ((ext_wr ((Ext.refl h).trans E37) W47 le_a31).trans E55).1
      have X66 := X62.sub (us' := us) (by intro x hx; simp [hx])
      exact g_retA X66 rfl rfl rfl d1_47 (by decide) (by decide) ⟨_, rfl, ⟨a50, rfl, (ext_keep ((ext_wr ((Ext.refl h).trans E37) W47 le_a31).trans E55) K63 (fun x hx => by cases List.mem_singleton.mp hx; exact le_a50)), (by rw [show partL p0 s0 = [chI (XT.ushr p0 (2 : Int32)) s0] from by simp [partL, hb22, hb6]]; exact S65)⟩⟩
    · refine g_icmpYes X2 d1_22 (XT.ii_ne_t hb22) 48 (by decide) (by decide) ?_
      refine g_iconst X2 (2 : Int32) d1_48 (by decide) 49 rfl ?_
      refine g_newP X2 (hw _ (List.mem_of_getElem? (i := 10) rfl)) d1_49 (by decide) 2 (by decide) (by decide) (ck := 1) rfl (cs := 2) rfl (by decide) (by decide) 51 rfl ?_
      intro a67 T68 h69 k70 ea71 X72 E73 A74
      have A75 : Arv Z h69 a67 k70 .char (2 : Int32) [.int (0 : Int32), .int (0 : Int32)] (.int (0 : Int32)) := A74.pad (fun i => by rcases i with _ | _ | _ | _ | _ | i <;> rfl)
      have le_a67 : h.size ≤ a67 := by rw [ea71]; exact (Ext.refl h).1
      refine g_astoreN X72 d1_51 rfl (Ls' := #[.val (.int p0), .val (.int s0), .val (.int (lenI p0)), .val (.ref a67)]) rfl 52 rfl ?_
      refine g_aloadN X72 d1_52 rfl rfl 53 rfl ?_
      refine g_iconst X72 (0 : Int32) d1_53 (by decide) 54 rfl ?_
      refine g_iloadN X72 d1_54 rfl 55 rfl ?_
      refine g_iconst X72 (2 : Int32) d1_55 (by decide) 56 rfl ?_
      refine g_iushr X72 d1_56 _ rfl 57 rfl ?_
      refine g_iloadN X72 d1_57 rfl 58 rfl ?_
      refine g_callSp X72 (hw _ (List.mem_of_getElem? (i := 32) rfl)) (hw _ (List.mem_of_getElem? (i := 33) rfl)) (hw _ (List.mem_of_getElem? (i := 2) rfl)) (hw _ (List.mem_of_getElem? (i := 34) rfl)) (by decide) (c_ch l Z a0 G (XT.ushr p0 (2 : Int32)) s0 h69) (by simp) (argsL := [.int (XT.ushr p0 (2 : Int32)), .int s0]) (rest := [.int (0 : Int32), .ref a67]) pd_1 rfl rfl rfl rfl 2 (Nat.le_of_eq rfl) (by decide) (by decide) (ck := 1) rfl (cs := 2) rfl (by decide) (by decide) d1_58 61 rfl ?_
      intro w78 T76 X77 hq79
      subst hq79
      refine g_castore X77 A75 0 (by decide) (by decide) (by decide) (by simp) (chI (XT.ushr p0 (2 : Int32)) s0) (nar255 (chI_ok _ _)) (by simp) d1_61 62 rfl ?_
      intro T80 h81 X82 W83 B85
      have A84 : Arv Z h81 a67 k70 .char (2 : Int32) [.int (chI (XT.ushr p0 (2 : Int32)) s0), .int (0 : Int32)] (.int (0 : Int32)) := B85
      refine g_aloadN X82 d1_62 rfl rfl 63 rfl ?_
      refine g_iconst X82 (1 : Int32) d1_63 (by decide) 64 rfl ?_
      refine g_iloadN X82 d1_64 rfl 65 rfl ?_
      refine g_bipush X82 (10 : Int32) d1_65 (by decide) 67 rfl ?_
      refine g_iushr X82 d1_67 _ rfl 68 rfl ?_
      refine g_iloadN X82 d1_68 rfl 69 rfl ?_
      refine g_callSp X82 (hw _ (List.mem_of_getElem? (i := 32) rfl)) (hw _ (List.mem_of_getElem? (i := 33) rfl)) (hw _ (List.mem_of_getElem? (i := 2) rfl)) (hw _ (List.mem_of_getElem? (i := 34) rfl)) (by decide) (c_ch l Z a0 G (XT.ushr p0 (10 : Int32)) s0 h81) (by simp) (argsL := [.int (XT.ushr p0 (10 : Int32)), .int s0]) (rest := [.int (1 : Int32), .ref a67]) pd_1 rfl rfl rfl rfl 2 (Nat.le_of_eq rfl) (by decide) (by decide) (ck := 1) rfl (cs := 2) rfl (by decide) (by decide) d1_69 72 rfl ?_
      intro w88 T86 X87 hq89
      subst hq89
      refine g_castore X87 A84 1 (by decide) (by decide) (by decide) (by simp) (chI (XT.ushr p0 (10 : Int32)) s0) (nar255 (chI_ok _ _)) (by simp) d1_72 73 rfl ?_
      intro T90 h91 X92 W93 B95
      have A94 : Arv Z h91 a67 k70 .char (2 : Int32) [.int (chI (XT.ushr p0 (2 : Int32)) s0), .int (chI (XT.ushr p0 (10 : Int32)) s0)] (.int (0 : Int32)) := B95
      refine g_new X92 (hw _ (List.mem_of_getElem? (i := 7) rfl)) (hw _ (List.mem_of_getElem? (i := 8) rfl)) (hw _ (List.mem_of_getElem? (i := 9) rfl)) d1_73 (ck := 2) rfl (cs := 6) rfl (by decide) (by decide) 76 rfl ?_
      intro a96 T97 h98 ea99 X100 E101 A102 D103
      have le_a96 : h.size ≤ a96 := by rw [ea99]; exact (ext_wr (ext_wr ((Ext.refl h).trans E73) W83 le_a67) W93 le_a67).1
      have ne_a67_a96 : a67 ≠ a96 := by rw [ea99]; exact Nat.ne_of_lt A94.lt
      have F104 : Fld Z h98 a96 "java/lang/String" "value" "[B" (.null) := D103 (Or.inr (hw _ (List.mem_of_getElem? (i := 23) rfl))) (ty := (.array .byte)) (by rfl)
      have F105 : Fld Z h98 a96 "java/lang/String" "coder" "B" (.int (0 : Int32)) := D103 (Or.inr (hw _ (List.mem_of_getElem? (i := 24) rfl))) (ty := .byte) (by rfl)
      refine g_dup X100 d1_76 rfl 77 rfl ?_
      refine g_aloadN X100 d1_77 rfl rfl 78 rfl ?_
      refine g_strNew X100 (cs := [chI (XT.ushr p0 (2 : Int32)) s0, chI (XT.ushr p0 (10 : Int32)) s0]) (hw _ (List.mem_of_getElem? (i := 11) rfl)) (hw _ (List.mem_of_getElem? (i := 12) rfl)) (hw _ (List.mem_of_getElem? (i := 13) rfl)) (hwsV hw) (hw _ (List.mem_of_getElem? (i := 8) rfl)) (SC.ext X100.old) hz A102 F104 F105 (A94.ext E101) rfl 2 rfl rfl (by decide) (by decide) (by intro c hc; simp only [List.mem_cons, List.not_mem_nil, or_false] at hc; rcases hc with rfl | rfl <;> exact chI_ok _ _) (by simp) rfl 1 (Nat.le_of_eq rfl) (by decide) (by decide) (ck := 3) rfl (cs' := 8) rfl (by decide) (by decide) d1_78 81 rfl ?_
      intro T106 h107 X108 K109 Q110
      have S111 : Str Z h107 (us) a96 [chI (XT.ushr p0 (2 : Int32)) s0, chI (XT.ushr p0 (10 : Int32)) s0] := str_of Q110 X.news le_a96 ((ext_wr (ext_wr ((Ext.refl h).trans E73) W83 le_a67) W93 le_a67).trans E101).1
      have X112 := X108.sub (us' := us) (by intro x hx; simp [hx])
      exact g_retA X112 rfl rfl rfl d1_81 (by decide) (by decide) ⟨_, rfl, ⟨a96, rfl, (ext_keep ((ext_wr (ext_wr ((Ext.refl h).trans E73) W83 le_a67) W93 le_a67).trans E101) K109 (fun x hx => by cases List.mem_singleton.mp hx; exact le_a96)), (by rw [show partL p0 s0 = [chI (XT.ushr p0 (2 : Int32)) s0, chI (XT.ushr p0 (10 : Int32)) s0] from by simp [partL, hb22, hb6]]; exact S111)⟩⟩
theorem d30_0 : decode method_5_code 0 = .ok (.iload_n 0, 1) := by decide +kernel
theorem d30_1 : decode method_5_code 1 = .ok (.invokestatic 7, 3) := by decide +kernel
theorem d30_4 : decode method_5_code 4 = .ok (.istore_n 3, 1) := by decide +kernel
theorem d30_5 : decode method_5_code 5 = .ok (.iload_n 1, 1) := by decide +kernel
theorem d30_6 : decode method_5_code 6 = .ok (.invokestatic 7, 3) := by decide +kernel
theorem d30_9 : decode method_5_code 9 = .ok (.istore 4, 2) := by decide +kernel
theorem d30_11 : decode method_5_code 11 = .ok (.iload_n 3, 1) := by decide +kernel
theorem d30_12 : decode method_5_code 12 = .ok (.iload 4, 2) := by decide +kernel
theorem d30_14 : decode method_5_code 14 = .ok (.if_icmp .eq 5, 3) := by decide +kernel
theorem d30_17 : decode method_5_code 17 = .ok (.iconst 0, 1) := by decide +kernel
theorem d30_18 : decode method_5_code 18 = .ok (.ireturn, 1) := by decide +kernel
theorem d30_19 : decode method_5_code 19 = .ok (.iload_n 3, 1) := by decide +kernel
theorem d30_20 : decode method_5_code 20 = .ok (.iconst 1, 1) := by decide +kernel
theorem d30_21 : decode method_5_code 21 = .ok (.if_icmp .lt 22, 3) := by decide +kernel
theorem d30_24 : decode method_5_code 24 = .ok (.iload_n 0, 1) := by decide +kernel
theorem d30_25 : decode method_5_code 25 = .ok (.iconst 2, 1) := by decide +kernel
theorem d30_26 : decode method_5_code 26 = .ok (.iushr, 1) := by decide +kernel
theorem d30_27 : decode method_5_code 27 = .ok (.iload_n 2, 1) := by decide +kernel
theorem d30_28 : decode method_5_code 28 = .ok (.invokestatic 18, 3) := by decide +kernel
theorem d30_31 : decode method_5_code 31 = .ok (.iload_n 1, 1) := by decide +kernel
theorem d30_32 : decode method_5_code 32 = .ok (.iconst 2, 1) := by decide +kernel
theorem d30_33 : decode method_5_code 33 = .ok (.iushr, 1) := by decide +kernel
theorem d30_34 : decode method_5_code 34 = .ok (.iload_n 2, 1) := by decide +kernel
theorem d30_35 : decode method_5_code 35 = .ok (.invokestatic 18, 3) := by decide +kernel
theorem d30_38 : decode method_5_code 38 = .ok (.if_icmp .eq 5, 3) := by decide +kernel
theorem d30_41 : decode method_5_code 41 = .ok (.iconst 0, 1) := by decide +kernel
theorem d30_42 : decode method_5_code 42 = .ok (.ireturn, 1) := by decide +kernel
theorem d30_43 : decode method_5_code 43 = .ok (.iload_n 3, 1) := by decide +kernel
theorem d30_44 : decode method_5_code 44 = .ok (.iconst 2, 1) := by decide +kernel
theorem d30_45 : decode method_5_code 45 = .ok (.if_icmp .lt 24, 3) := by decide +kernel
theorem d30_48 : decode method_5_code 48 = .ok (.iload_n 0, 1) := by decide +kernel
theorem d30_49 : decode method_5_code 49 = .ok (.bipush 10, 2) := by decide +kernel
theorem d30_51 : decode method_5_code 51 = .ok (.iushr, 1) := by decide +kernel
theorem d30_52 : decode method_5_code 52 = .ok (.iload_n 2, 1) := by decide +kernel
theorem d30_53 : decode method_5_code 53 = .ok (.invokestatic 18, 3) := by decide +kernel
theorem d30_56 : decode method_5_code 56 = .ok (.iload_n 1, 1) := by decide +kernel
theorem d30_57 : decode method_5_code 57 = .ok (.bipush 10, 2) := by decide +kernel
theorem d30_59 : decode method_5_code 59 = .ok (.iushr, 1) := by decide +kernel
theorem d30_60 : decode method_5_code 60 = .ok (.iload_n 2, 1) := by decide +kernel
theorem d30_61 : decode method_5_code 61 = .ok (.invokestatic 18, 3) := by decide +kernel
theorem d30_64 : decode method_5_code 64 = .ok (.if_icmp .eq 5, 3) := by decide +kernel
theorem d30_67 : decode method_5_code 67 = .ok (.iconst 0, 1) := by decide +kernel
theorem d30_68 : decode method_5_code 68 = .ok (.ireturn, 1) := by decide +kernel
theorem d30_69 : decode method_5_code 69 = .ok (.iconst 1, 1) := by decide +kernel
theorem d30_70 : decode method_5_code 70 = .ok (.ireturn, 1) := by decide +kernel
set_option maxRecDepth 65536 in
set_option maxHeartbeats 40000000 in
theorem c_samep (l : Launch) (Z : State) (a0 : Array Value) (G : Gl Z a0) (p0 q0 s0 : Int32) (h : Heap)  :
    Ctr l Z EL nw (⟨"com/example/pegwright/pegwright/PegEqualsPinLaw", "samePart", "(IIZ)Z"⟩ : MethodName) method_5_code 5 (Option.some Jvm.ClassFile.FieldType.boolean) ({ frames := 1, cells := 0, slots := 0, locals := 15 } : Room) #[.int p0, .int q0, .int s0] h [] (PureQ h fun v => v = .int (if partL p0 s0 = partL q0 s0 then 1 else 0)) := by
  obtain ⟨hw, hEL, hSA, ⟨zc, SC, hz⟩, ⟨fm, SF, hfm⟩⟩ := id G
  refine Ctr.enter (own := "com/example/pegwright/pegwright/PegEqualsPinLaw") (nm := "samePart") rfl rfl hEL (plainFor_of_name pn_8) #[.val (.int p0), .val (.int q0), .val (.int s0), .unset, .unset] (fun m => by first | rfl | (simp [entryFrame, mkF, argsToLocals, Value.category, maxLocals]; done)) ?_
  intro p e s m below meth c T X
  refine g_iloadN X d30_0 rfl 1 rfl ?_
  refine g_callSp X (hw _ (List.mem_of_getElem? (i := 4) rfl)) (hw _ (List.mem_of_getElem? (i := 5) rfl)) (hw _ (List.mem_of_getElem? (i := 2) rfl)) (hw _ (List.mem_of_getElem? (i := 6) rfl)) (by decide) (c_ln l Z a0 G p0 h) (by simp) (argsL := [.int p0]) (rest := []) pd_0 rfl rfl rfl rfl 0 (Nat.le_of_eq rfl) (by decide) (by decide) (ck := 0) rfl (cs := 0) rfl (by decide) (by decide) d30_1 4 rfl ?_
  intro w3 T1 X2 hq4
  subst hq4
  refine g_istoreN X2 d30_4 (Ls' := #[.val (.int p0), .val (.int q0), .val (.int s0), .val (.int (lenI p0)), .unset]) rfl 5 rfl ?_
  refine g_iloadN X2 d30_5 rfl 6 rfl ?_
  refine g_callSp X2 (hw _ (List.mem_of_getElem? (i := 4) rfl)) (hw _ (List.mem_of_getElem? (i := 5) rfl)) (hw _ (List.mem_of_getElem? (i := 2) rfl)) (hw _ (List.mem_of_getElem? (i := 6) rfl)) (by decide) (c_ln l Z a0 G q0 h) (by simp) (argsL := [.int q0]) (rest := []) pd_0 rfl rfl rfl rfl 0 (Nat.le_of_eq rfl) (by decide) (by decide) (ck := 0) rfl (cs := 0) rfl (by decide) (by decide) d30_6 9 rfl ?_
  intro w7 T5 X6 hq8
  subst hq8
  refine g_istore X6 d30_9 (Ls' := #[.val (.int p0), .val (.int q0), .val (.int s0), .val (.int (lenI p0)), .val (.int (lenI q0))]) rfl 11 rfl ?_
  refine g_iloadN X6 d30_11 rfl 12 rfl ?_
  refine g_iload X6 d30_12 rfl 14 rfl ?_
  by_cases hb14 : (lenI p0) = (lenI q0)
  · refine g_icmpYes X6 d30_14 (XT.ii_eq_t hb14) 19 (by decide) (by decide) ?_
    refine g_iloadN X6 d30_19 rfl 20 rfl ?_
    refine g_iconst X6 (1 : Int32) d30_20 (by decide) 21 rfl ?_
    by_cases hb21 : (lenI p0) < (1 : Int32)
    · refine g_icmpYes X6 d30_21 (XT.ii_lt_t hb21) 43 (by decide) (by decide) ?_
      refine g_iloadN X6 d30_43 rfl 44 rfl ?_
      refine g_iconst X6 (2 : Int32) d30_44 (by decide) 45 rfl ?_
      by_cases hb45 : (lenI p0) < (2 : Int32)
      · refine g_icmpYes X6 d30_45 (XT.ii_lt_t hb45) 69 (by decide) (by decide) ?_
        refine g_iconst X6 (1 : Int32) d30_69 (by decide) 70 rfl ?_
        exact g_retN X6 (t := .boolean) rfl (by simp) d30_70 _ rfl (by decide) (by decide) ⟨rfl, _, rfl, (by rw [if_pos ((same_key p0 q0 s0).mpr ⟨hb14, Or.inl hb21, Or.inl hb45⟩)]; rfl)⟩
      · refine g_icmpNo X6 d30_45 (XT.ii_lt_f hb45) 48 rfl ?_
        refine g_iloadN X6 d30_48 rfl 49 rfl ?_
        refine g_bipush X6 (10 : Int32) d30_49 (by decide) 51 rfl ?_
        refine g_iushr X6 d30_51 _ rfl 52 rfl ?_
        refine g_iloadN X6 d30_52 rfl 53 rfl ?_
        refine g_callSp X6 (hw _ (List.mem_of_getElem? (i := 32) rfl)) (hw _ (List.mem_of_getElem? (i := 33) rfl)) (hw _ (List.mem_of_getElem? (i := 2) rfl)) (hw _ (List.mem_of_getElem? (i := 34) rfl)) (by decide) (c_ch l Z a0 G (XT.ushr p0 (10 : Int32)) s0 h) (by simp) (argsL := [.int (XT.ushr p0 (10 : Int32)), .int s0]) (rest := []) pd_1 rfl rfl rfl rfl 0 (Nat.le_of_eq rfl) (by decide) (by decide) (ck := 0) rfl (cs := 0) rfl (by decide) (by decide) d30_53 56 rfl ?_
        intro w11 T9 X10 hq12
        subst hq12
        refine g_iloadN X10 d30_56 rfl 57 rfl ?_
        refine g_bipush X10 (10 : Int32) d30_57 (by decide) 59 rfl ?_
        refine g_iushr X10 d30_59 _ rfl 60 rfl ?_
        refine g_iloadN X10 d30_60 rfl 61 rfl ?_
        refine g_callSp X10 (hw _ (List.mem_of_getElem? (i := 32) rfl)) (hw _ (List.mem_of_getElem? (i := 33) rfl)) (hw _ (List.mem_of_getElem? (i := 2) rfl)) (hw _ (List.mem_of_getElem? (i := 34) rfl)) (by decide) (c_ch l Z a0 G (XT.ushr q0 (10 : Int32)) s0 h) (by simp) (argsL := [.int (XT.ushr q0 (10 : Int32)), .int s0]) (rest := [.int (chI (XT.ushr p0 (10 : Int32)) s0)]) pd_1 rfl rfl rfl rfl 1 (Nat.le_of_eq rfl) (by decide) (by decide) (ck := 0) rfl (cs := 0) rfl (by decide) (by decide) d30_61 64 rfl ?_
        intro w15 T13 X14 hq16
        subst hq16
        by_cases hb64 : (chI (XT.ushr p0 (10 : Int32)) s0) = (chI (XT.ushr q0 (10 : Int32)) s0)
        · refine g_icmpYes X14 d30_64 (XT.ii_eq_t hb64) 69 (by decide) (by decide) ?_
          refine g_iconst X14 (1 : Int32) d30_69 (by decide) 70 rfl ?_
          exact g_retN X14 (t := .boolean) rfl (by simp) d30_70 _ rfl (by decide) (by decide) ⟨rfl, _, rfl, (by rw [if_pos ((same_key p0 q0 s0).mpr ⟨hb14, Or.inl hb21, Or.inr hb64⟩)]; rfl)⟩
        · refine g_icmpNo X14 d30_64 (XT.ii_eq_f hb64) 67 rfl ?_
          refine g_iconst X14 (0 : Int32) d30_67 (by decide) 68 rfl ?_
          exact g_retN X14 (t := .boolean) rfl (by simp) d30_68 _ rfl (by decide) (by decide) ⟨rfl, _, rfl, (by rw [if_neg (fun q => ((same_key p0 q0 s0).mp q).2.2.elim hb45 hb64)]; rfl)⟩
    · refine g_icmpNo X6 d30_21 (XT.ii_lt_f hb21) 24 rfl ?_
      refine g_iloadN X6 d30_24 rfl 25 rfl ?_
      refine g_iconst X6 (2 : Int32) d30_25 (by decide) 26 rfl ?_
      refine g_iushr X6 d30_26 _ rfl 27 rfl ?_
      refine g_iloadN X6 d30_27 rfl 28 rfl ?_
      refine g_callSp X6 (hw _ (List.mem_of_getElem? (i := 32) rfl)) (hw _ (List.mem_of_getElem? (i := 33) rfl)) (hw _ (List.mem_of_getElem? (i := 2) rfl)) (hw _ (List.mem_of_getElem? (i := 34) rfl)) (by decide) (c_ch l Z a0 G (XT.ushr p0 (2 : Int32)) s0 h) (by simp) (argsL := [.int (XT.ushr p0 (2 : Int32)), .int s0]) (rest := []) pd_1 rfl rfl rfl rfl 0 (Nat.le_of_eq rfl) (by decide) (by decide) (ck := 0) rfl (cs := 0) rfl (by decide) (by decide) d30_28 31 rfl ?_
      intro w19 T17 X18 hq20
      subst hq20
      refine g_iloadN X18 d30_31 rfl 32 rfl ?_
      refine g_iconst X18 (2 : Int32) d30_32 (by decide) 33 rfl ?_
      refine g_iushr X18 d30_33 _ rfl 34 rfl ?_
      refine g_iloadN X18 d30_34 rfl 35 rfl ?_
      refine g_callSp X18 (hw _ (List.mem_of_getElem? (i := 32) rfl)) (hw _ (List.mem_of_getElem? (i := 33) rfl)) (hw _ (List.mem_of_getElem? (i := 2) rfl)) (hw _ (List.mem_of_getElem? (i := 34) rfl)) (by decide) (c_ch l Z a0 G (XT.ushr q0 (2 : Int32)) s0 h) (by simp) (argsL := [.int (XT.ushr q0 (2 : Int32)), .int s0]) (rest := [.int (chI (XT.ushr p0 (2 : Int32)) s0)]) pd_1 rfl rfl rfl rfl 1 (Nat.le_of_eq rfl) (by decide) (by decide) (ck := 0) rfl (cs := 0) rfl (by decide) (by decide) d30_35 38 rfl ?_
      intro w23 T21 X22 hq24
      subst hq24
      by_cases hb38 : (chI (XT.ushr p0 (2 : Int32)) s0) = (chI (XT.ushr q0 (2 : Int32)) s0)
      · refine g_icmpYes X22 d30_38 (XT.ii_eq_t hb38) 43 (by decide) (by decide) ?_
        refine g_iloadN X22 d30_43 rfl 44 rfl ?_
        refine g_iconst X22 (2 : Int32) d30_44 (by decide) 45 rfl ?_
        by_cases hb45 : (lenI p0) < (2 : Int32)
        · refine g_icmpYes X22 d30_45 (XT.ii_lt_t hb45) 69 (by decide) (by decide) ?_
          refine g_iconst X22 (1 : Int32) d30_69 (by decide) 70 rfl ?_
          exact g_retN X22 (t := .boolean) rfl (by simp) d30_70 _ rfl (by decide) (by decide) ⟨rfl, _, rfl, (by rw [if_pos ((same_key p0 q0 s0).mpr ⟨hb14, Or.inr hb38, Or.inl hb45⟩)]; rfl)⟩
        · refine g_icmpNo X22 d30_45 (XT.ii_lt_f hb45) 48 rfl ?_
          refine g_iloadN X22 d30_48 rfl 49 rfl ?_
          refine g_bipush X22 (10 : Int32) d30_49 (by decide) 51 rfl ?_
          refine g_iushr X22 d30_51 _ rfl 52 rfl ?_
          refine g_iloadN X22 d30_52 rfl 53 rfl ?_
          refine g_callSp X22 (hw _ (List.mem_of_getElem? (i := 32) rfl)) (hw _ (List.mem_of_getElem? (i := 33) rfl)) (hw _ (List.mem_of_getElem? (i := 2) rfl)) (hw _ (List.mem_of_getElem? (i := 34) rfl)) (by decide) (c_ch l Z a0 G (XT.ushr p0 (10 : Int32)) s0 h) (by simp) (argsL := [.int (XT.ushr p0 (10 : Int32)), .int s0]) (rest := []) pd_1 rfl rfl rfl rfl 0 (Nat.le_of_eq rfl) (by decide) (by decide) (ck := 0) rfl (cs := 0) rfl (by decide) (by decide) d30_53 56 rfl ?_
          intro w27 T25 X26 hq28
          subst hq28
          refine g_iloadN X26 d30_56 rfl 57 rfl ?_
          refine g_bipush X26 (10 : Int32) d30_57 (by decide) 59 rfl ?_
          refine g_iushr X26 d30_59 _ rfl 60 rfl ?_
          refine g_iloadN X26 d30_60 rfl 61 rfl ?_
          refine g_callSp X26 (hw _ (List.mem_of_getElem? (i := 32) rfl)) (hw _ (List.mem_of_getElem? (i := 33) rfl)) (hw _ (List.mem_of_getElem? (i := 2) rfl)) (hw _ (List.mem_of_getElem? (i := 34) rfl)) (by decide) (c_ch l Z a0 G (XT.ushr q0 (10 : Int32)) s0 h) (by simp) (argsL := [.int (XT.ushr q0 (10 : Int32)), .int s0]) (rest := [.int (chI (XT.ushr p0 (10 : Int32)) s0)]) pd_1 rfl rfl rfl rfl 1 (Nat.le_of_eq rfl) (by decide) (by decide) (ck := 0) rfl (cs := 0) rfl (by decide) (by decide) d30_61 64 rfl ?_
          intro w31 T29 X30 hq32
          subst hq32
          by_cases hb64 : (chI (XT.ushr p0 (10 : Int32)) s0) = (chI (XT.ushr q0 (10 : Int32)) s0)
          · refine g_icmpYes X30 d30_64 (XT.ii_eq_t hb64) 69 (by decide) (by decide) ?_
            refine g_iconst X30 (1 : Int32) d30_69 (by decide) 70 rfl ?_
            exact g_retN X30 (t := .boolean) rfl (by simp) d30_70 _ rfl (by decide) (by decide) ⟨rfl, _, rfl, (by rw [if_pos ((same_key p0 q0 s0).mpr ⟨hb14, Or.inr hb38, Or.inr hb64⟩)]; rfl)⟩
          · refine g_icmpNo X30 d30_64 (XT.ii_eq_f hb64) 67 rfl ?_
            refine g_iconst X30 (0 : Int32) d30_67 (by decide) 68 rfl ?_
            exact g_retN X30 (t := .boolean) rfl (by simp) d30_68 _ rfl (by decide) (by decide) ⟨rfl, _, rfl, (by rw [if_neg (fun q => ((same_key p0 q0 s0).mp q).2.2.elim hb45 hb64)]; rfl)⟩
      · refine g_icmpNo X22 d30_38 (XT.ii_eq_f hb38) 41 rfl ?_
        refine g_iconst X22 (0 : Int32) d30_41 (by decide) 42 rfl ?_
        exact g_retN X22 (t := .boolean) rfl (by simp) d30_42 _ rfl (by decide) (by decide) ⟨rfl, _, rfl, (by rw [if_neg (fun q => ((same_key p0 q0 s0).mp q).2.1.elim hb21 hb38)]; rfl)⟩
  · refine g_icmpNo X6 d30_14 (XT.ii_eq_f hb14) 17 rfl ?_
    refine g_iconst X6 (0 : Int32) d30_17 (by decide) 18 rfl ?_
    exact g_retN X6 (t := .boolean) rfl (by simp) d30_18 _ rfl (by decide) (by decide) ⟨rfl, _, rfl, (by rw [if_neg (fun q => hb14 ((same_key p0 q0 s0).mp q).1)]; rfl)⟩
set_option maxRecDepth 65536 in
set_option maxHeartbeats 40000000 in
theorem c_peS (l : Launch) (Z : State) (a0 : Array Value) (G : Gl Z a0) (j a : Addr) (us : List Addr) (cs : List Int32) (h : Heap) (S : Str Z h us a cs) :
    Ctr l Z EL nw (⟨"com/example/pegwright/pegwright/Peg", "equals", "(Ljava/lang/Object;)Z"⟩ : MethodName) prog_17_method_4_code 3 (Option.some Jvm.ClassFile.FieldType.boolean) ({ frames := 0, cells := 0, slots := 0, locals := 0 } : Room) #[.ref j, .ref a] h [] (PureQ h fun v => v = .int 0) := by
  obtain ⟨hw, hEL, hSA, ⟨zc, SC, hz⟩, ⟨fm, SF, hfm⟩⟩ := id G
  refine Ctr.enter (own := "com/example/pegwright/pegwright/Peg") (nm := "equals") rfl rfl hEL (plainFor_of_name pn_7) #[.val (.ref j), .val (.ref a), .unset] (fun m => by first | rfl | (simp [entryFrame, mkF, argsToLocals, Value.category, maxLocals]; done)) ?_
  intro p e s m below meth c T X
  refine g_aloadN X d31_0 rfl rfl 1 rfl ?_
  refine g_instNo X (hw _ (List.mem_of_getElem? (i := 155) rfl)) S.exa (own_noassign (hw _ (List.mem_of_getElem? (i := 166) rfl)) (hw _ (List.mem_of_getElem? (i := 167) rfl)) (hw _ (List.mem_of_getElem? (i := 30) rfl)) (by decide) (by decide)) d31_1 4 rfl ?_
  intro T1 X2
  refine g_ifYes X2 d31_4 (XT.ii_eq_t (by decide)) 58 (by decide) (by decide) ?_
  refine g_iconst X2 (0 : Int32) d31_58 (by decide) 59 rfl ?_
  exact g_retN X2 (t := .boolean) rfl (by simp) d31_59 _ rfl (by decide) (by decide) ⟨rfl, _, rfl, rfl⟩
set_option maxRecDepth 65536 in
set_option maxHeartbeats 40000000 in
theorem c_law (l : Launch) (Z : State) (a0 : Array Value) (G : Gl Z a0) (k0 k1 k2 k3 k4 k5 : Int32) (h : Heap)  :
    Ctr l Z EL nw x code maxLocals ret room_1 #[.int k0, .int k1, .int k2, .int k3, .int k4, .int k5] h [] (fun v _ => v = some (.int 1)) := by
  obtain ⟨hw, hEL, hSA, ⟨zc, SC, hz⟩, ⟨fm, SF, hfm⟩⟩ := id G
  refine Ctr.enter (own := "com/example/pegwright/pegwright/PegEqualsPinLaw") (nm := "law") rfl rfl hEL (plainFor_of_name pn_8) #[.val (.int k0), .val (.int k1), .val (.int k2), .val (.int k3), .val (.int k4), .val (.int k5), .unset, .unset, .unset, .unset, .unset, .unset, .unset, .unset] (fun m => by first | rfl | (simp [entryFrame, mkF, argsToLocals, Value.category, maxLocals]; done)) ?_
  intro p e s m below meth c T X
  have rest : ∀ qx qy qz : Int32, OwnKit.Goes p e below s Z EL nw (fun v _ => v = some (.int 1)) (room_1).cells (room_1).slots (T.setTop (mkF m 49 #[.val (.int k0), .val (.int k1), .val (.int k2), .val (.int k3), .val (.int k4), .val (.int k5), .val (.int qx), .val (.int qy), .val (.int qz), .unset, .unset, .unset, .unset, .unset] [])) := by
    intro qx qy qz
    refine g_iloadN X at_49 rfl 50 rfl ?_
    refine g_iconst X (1 : Int32) at_50 (by decide) 51 rfl ?_
    refine g_callSv X (hw _ (List.mem_of_getElem? (i := 0) rfl)) (hw _ (List.mem_of_getElem? (i := 1) rfl)) (hw _ (List.mem_of_getElem? (i := 2) rfl)) (hw _ (List.mem_of_getElem? (i := 3) rfl)) (by decide) (c_part l Z a0 G k0 (1 : Int32) ([]) h) (fun _ q => q) (argsL := [.int k0, .int (1 : Int32)]) (rest := []) pd_2 rfl rfl rfl rfl 0 (Nat.le_of_eq rfl) (by decide) (by decide) (ck := 4) rfl (cs := 8) rfl (by decide) (by decide) at_51 54 rfl ?_
    intro w3 T1 h5 X2 hq4
    obtain ⟨s6, rfl, E7, S8⟩ := hq4
    refine g_astore X2 at_54 rfl (Ls' := #[.val (.int k0), .val (.int k1), .val (.int k2), .val (.int k3), .val (.int k4), .val (.int k5), .val (.int qx), .val (.int qy), .val (.int qz), .val (.ref s6), .unset, .unset, .unset, .unset]) rfl 56 rfl ?_
    refine g_new X2 (hw _ (List.mem_of_getElem? (i := 29) rfl)) (hw _ (List.mem_of_getElem? (i := 30) rfl)) (hw _ (List.mem_of_getElem? (i := 31) rfl)) at_56 (ck := 5) rfl (cs := 11) rfl (by decide) (by decide) 59 rfl ?_
    intro a9 T10 h11 ea12 X13 E14 A15 D16
    have ne_s6_a9 : s6 ≠ a9 := by rw [ea12]; exact Nat.ne_of_lt S8.lt
    have F17 : Fld Z h11 a9 "com/example/pegwright/pegwright/Peg" "project" "Ljava/lang/String;" (.null) := D16 (Or.inr (hw _ (List.mem_of_getElem? (i := 142) rfl))) (ty := (.object "java/lang/String")) (by rfl)
    have F18 : Fld Z h11 a9 "com/example/pegwright/pegwright/Peg" "element" "Ljava/lang/String;" (.null) := D16 (Or.inr (hw _ (List.mem_of_getElem? (i := 144) rfl))) (ty := (.object "java/lang/String")) (by rfl)
    have F19 : Fld Z h11 a9 "com/example/pegwright/pegwright/Peg" "activity" "Ljava/lang/String;" (.null) := D16 (Or.inr (hw _ (List.mem_of_getElem? (i := 146) rfl))) (ty := (.object "java/lang/String")) (by rfl)
    refine g_dup X13 at_59 rfl 60 rfl ?_
    refine g_aload X13 at_60 rfl rfl 62 rfl ?_
    refine g_iloadN X13 at_62 rfl 63 rfl ?_
    refine g_iconst X13 (0 : Int32) at_63 (by decide) 64 rfl ?_
    refine g_callSv X13 (hw _ (List.mem_of_getElem? (i := 0) rfl)) (hw _ (List.mem_of_getElem? (i := 1) rfl)) (hw _ (List.mem_of_getElem? (i := 2) rfl)) (hw _ (List.mem_of_getElem? (i := 3) rfl)) (by decide) (c_part l Z a0 G k1 (0 : Int32) ([a9]) h11) (fun _ q => q) (argsL := [.int k1, .int (0 : Int32)]) (rest := [.ref s6, .ref a9, .ref a9]) pd_2 rfl rfl rfl rfl 3 (Nat.le_of_eq rfl) (by decide) (by decide) (ck := 9) rfl (cs := 19) rfl (by decide) (by decide) at_64 67 rfl ?_
    intro w22 T20 h24 X21 hq23
    obtain ⟨s25, rfl, E26, S27⟩ := hq23
    refine g_iloadN X21 at_67 rfl 68 rfl ?_
    refine g_iconst X21 (0 : Int32) at_68 (by decide) 69 rfl ?_
    refine g_callSv X21 (hw _ (List.mem_of_getElem? (i := 0) rfl)) (hw _ (List.mem_of_getElem? (i := 1) rfl)) (hw _ (List.mem_of_getElem? (i := 2) rfl)) (hw _ (List.mem_of_getElem? (i := 3) rfl)) (by decide) (c_part l Z a0 G k2 (0 : Int32) ([a9]) h24) (fun _ q => q) (argsL := [.int k2, .int (0 : Int32)]) (rest := [.ref s25, .ref s6, .ref a9, .ref a9]) pd_2 rfl rfl rfl rfl 4 (Nat.le_of_eq rfl) (by decide) (by decide) (ck := 13) rfl (cs := 27) rfl (by decide) (by decide) at_69 72 rfl ?_
    intro w30 T28 h32 X29 hq31
    obtain ⟨s33, rfl, E34, S35⟩ := hq31
    refine g_callIn X29 rfl (hw _ (List.mem_of_getElem? (i := 46) rfl)) (hw _ (List.mem_of_getElem? (i := 47) rfl)) (hw _ (List.mem_of_getElem? (i := 31) rfl)) (hw _ (List.mem_of_getElem? (i := 48) rfl)) (by decide) (c_pinit l Z a0 G a9 s6 s25 s33 [] (partL k0 (1 : Int32)) (partL k1 (0 : Int32)) (partL k2 (0 : Int32)) h32 ((A15.ext E26).ext E34) ((F17.ext E26).ext E34) ((F18.ext E26).ext E34) ((F19.ext E26).ext E34) (((S8.grow E14 ea12).ext E26).ext E34) (S27.ext E34) S35 (partL_iso _ _) (partL_iso _ _) (partL_iso _ _) (partL_len _ _) (partL_ns _) (partL_len _ _) (partL_ns _)) (by simp) (argsL := [.ref s6, .ref s25, .ref s33]) (rest := [.ref a9]) pd_10 rfl rfl rfl rfl 1 (Nat.le_of_eq rfl) (by decide) (by decide) (ck := 29) rfl (cs := 339) rfl (by decide) (by decide) at_72 75 rfl ?_
    intro T36 h39 X37 hq38
    obtain ⟨K40, E41, F42, F43, F44⟩ := hq38
    have X45 := X37.sub (us' := []) (by simp)
    refine g_astore X45 at_75 rfl (Ls' := #[.val (.int k0), .val (.int k1), .val (.int k2), .val (.int k3), .val (.int k4), .val (.int k5), .val (.int qx), .val (.int qy), .val (.int qz), .val (.ref s6), .val (.ref a9), .unset, .unset, .unset]) rfl 77 rfl ?_
    refine g_new X45 (hw _ (List.mem_of_getElem? (i := 29) rfl)) (hw _ (List.mem_of_getElem? (i := 30) rfl)) (hw _ (List.mem_of_getElem? (i := 31) rfl)) at_77 (ck := 30) rfl (cs := 342) rfl (by decide) (by decide) 80 rfl ?_
    intro a46 T47 h48 ea49 X50 E51 A52 D53
    have ne_s6_a46 : s6 ≠ a46 := by rw [ea49]; exact Nat.ne_of_lt (((((S8.grow E14 ea12).ext E26).ext E34).keep K40 (by simp)).sub (us' := []) (by simp)).lt
    have ne_a9_a46 : a9 ≠ a46 := by rw [ea49]; exact Nat.ne_of_lt E41.lt
    have ne_s25_a46 : s25 ≠ a46 := by rw [ea49]; exact Nat.ne_of_lt (((S27.ext E34).keep K40 (by simp)).sub (us' := []) (by simp)).lt
    have ne_s33_a46 : s33 ≠ a46 := by rw [ea49]; exact Nat.ne_of_lt ((S35.keep K40 (by simp)).sub (us' := []) (by simp)).lt
    have F54 : Fld Z h48 a46 "com/example/pegwright/pegwright/Peg" "project" "Ljava/lang/String;" (.null) := D53 (Or.inr (hw _ (List.mem_of_getElem? (i := 142) rfl))) (ty := (.object "java/lang/String")) (by rfl)
    have F55 : Fld Z h48 a46 "com/example/pegwright/pegwright/Peg" "element" "Ljava/lang/String;" (.null) := D53 (Or.inr (hw _ (List.mem_of_getElem? (i := 144) rfl))) (ty := (.object "java/lang/String")) (by rfl)
    have F56 : Fld Z h48 a46 "com/example/pegwright/pegwright/Peg" "activity" "Ljava/lang/String;" (.null) := D53 (Or.inr (hw _ (List.mem_of_getElem? (i := 146) rfl))) (ty := (.object "java/lang/String")) (by rfl)
    refine g_dup X50 at_80 rfl 81 rfl ?_
    refine g_iload X50 at_81 rfl 83 rfl ?_
    refine g_iconst X50 (1 : Int32) at_83 (by decide) 84 rfl ?_
    refine g_callSv X50 (hw _ (List.mem_of_getElem? (i := 0) rfl)) (hw _ (List.mem_of_getElem? (i := 1) rfl)) (hw _ (List.mem_of_getElem? (i := 2) rfl)) (hw _ (List.mem_of_getElem? (i := 3) rfl)) (by decide) (c_part l Z a0 G qx (1 : Int32) ([a46]) h48) (fun _ q => q) (argsL := [.int qx, .int (1 : Int32)]) (rest := [.ref a46, .ref a46]) pd_2 rfl rfl rfl rfl 2 (Nat.le_of_eq rfl) (by decide) (by decide) (ck := 34) rfl (cs := 350) rfl (by decide) (by decide) at_84 87 rfl ?_
    intro w59 T57 h61 X58 hq60
    obtain ⟨s62, rfl, E63, S64⟩ := hq60
    refine g_iload X58 at_87 rfl 89 rfl ?_
    refine g_iconst X58 (0 : Int32) at_89 (by decide) 90 rfl ?_
    refine g_callSv X58 (hw _ (List.mem_of_getElem? (i := 0) rfl)) (hw _ (List.mem_of_getElem? (i := 1) rfl)) (hw _ (List.mem_of_getElem? (i := 2) rfl)) (hw _ (List.mem_of_getElem? (i := 3) rfl)) (by decide) (c_part l Z a0 G qy (0 : Int32) ([a46]) h61) (fun _ q => q) (argsL := [.int qy, .int (0 : Int32)]) (rest := [.ref s62, .ref a46, .ref a46]) pd_2 rfl rfl rfl rfl 3 (Nat.le_of_eq rfl) (by decide) (by decide) (ck := 38) rfl (cs := 358) rfl (by decide) (by decide) at_90 93 rfl ?_
    intro w67 T65 h69 X66 hq68
    obtain ⟨s70, rfl, E71, S72⟩ := hq68
    refine g_iload X66 at_93 rfl 95 rfl ?_
    refine g_iconst X66 (0 : Int32) at_95 (by decide) 96 rfl ?_
    refine g_callSv X66 (hw _ (List.mem_of_getElem? (i := 0) rfl)) (hw _ (List.mem_of_getElem? (i := 1) rfl)) (hw _ (List.mem_of_getElem? (i := 2) rfl)) (hw _ (List.mem_of_getElem? (i := 3) rfl)) (by decide) (c_part l Z a0 G qz (0 : Int32) ([a46]) h69) (fun _ q => q) (argsL := [.int qz, .int (0 : Int32)]) (rest := [.ref s70, .ref s62, .ref a46, .ref a46]) pd_2 rfl rfl rfl rfl 4 (Nat.le_of_eq rfl) (by decide) (by decide) (ck := 42) rfl (cs := 366) rfl (by decide) (by decide) at_96 99 rfl ?_
    intro w75 T73 h77 X74 hq76
    obtain ⟨s78, rfl, E79, S80⟩ := hq76
    refine g_callIn X74 rfl (hw _ (List.mem_of_getElem? (i := 46) rfl)) (hw _ (List.mem_of_getElem? (i := 47) rfl)) (hw _ (List.mem_of_getElem? (i := 31) rfl)) (hw _ (List.mem_of_getElem? (i := 48) rfl)) (by decide) (c_pinit l Z a0 G a46 s62 s70 s78 [] (partL qx (1 : Int32)) (partL qy (0 : Int32)) (partL qz (0 : Int32)) h77 (((A52.ext E63).ext E71).ext E79) (((F54.ext E63).ext E71).ext E79) (((F55.ext E63).ext E71).ext E79) (((F56.ext E63).ext E71).ext E79) ((S64.ext E71).ext E79) (S72.ext E79) S80 (partL_iso _ _) (partL_iso _ _) (partL_iso _ _) (partL_len _ _) (partL_ns _) (partL_len _ _) (partL_ns _)) (by simp) (argsL := [.ref s62, .ref s70, .ref s78]) (rest := [.ref a46]) pd_10 rfl rfl rfl rfl 1 (Nat.le_of_eq rfl) (by decide) (by decide) (ck := 58) rfl (cs := 678) rfl (by decide) (by decide) at_99 102 rfl ?_
    intro T81 h84 X82 hq83
    obtain ⟨K85, E86, F87, F88, F89⟩ := hq83
    have X90 := X82.sub (us' := []) (by simp)
    refine g_astore X90 at_102 rfl (Ls' := #[.val (.int k0), .val (.int k1), .val (.int k2), .val (.int k3), .val (.int k4), .val (.int k5), .val (.int qx), .val (.int qy), .val (.int qz), .val (.ref s6), .val (.ref a9), .val (.ref a46), .unset, .unset]) rfl 104 rfl ?_
    refine g_iload X90 at_104 rfl 106 rfl ?_
    refine g_bipush X90 (30 : Int32) at_106 (by decide) 108 rfl ?_
    refine g_iushr X90 at_108 _ rfl 109 rfl ?_
    refine g_istore X90 at_109 (Ls' := #[.val (.int k0), .val (.int k1), .val (.int k2), .val (.int k3), .val (.int k4), .val (.int k5), .val (.int qx), .val (.int qy), .val (.int qz), .val (.ref s6), .val (.ref a9), .val (.ref a46), .val (.int (XT.ushr k5 (30 : Int32))), .unset]) rfl 111 rfl ?_
    refine g_iload X90 at_111 rfl 113 rfl ?_
    refine g_iconst X90 (2 : Int32) at_113 (by decide) 114 rfl ?_
    by_cases hb114 : (XT.ushr k5 (30 : Int32)) = (2 : Int32)
    · refine g_icmpNo X90 at_114 (XT.ii_ne_f hb114) 117 rfl ?_
      refine g_aload X90 at_117 rfl rfl 119 rfl ?_
      refine g_aconstNull X90 at_119 120 rfl ?_
      refine g_callVp X90 (hw _ (List.mem_of_getElem? (i := 150) rfl)) (hw _ (List.mem_of_getElem? (i := 151) rfl)) (hw _ (List.mem_of_getElem? (i := 153) rfl)) (hw _ (List.mem_of_getElem? (i := 152) rfl)) (hw _ (List.mem_of_getElem? (i := 31) rfl)) (hw _ (List.mem_of_getElem? (i := 154) rfl)) (nfSel (hw _ (List.mem_of_getElem? (i := 153) rfl))) (by decide) (((((E41.ext E51).ext E63).ext E71).ext E79).keep K85) (c_pe0 l Z a0 G a9 h84) (by simp) (argsL := [.null]) (rest := []) pd_11 rfl rfl rfl rfl 0 (Nat.le_of_eq rfl) (by decide) (by decide) (ck := 58) rfl (cs := 678) rfl (by decide) (by decide) at_120 123 rfl ?_
      intro w93 T91 X92 hq94
      subst hq94
      refine g_ifNo X92 at_123 (XT.ii_ne_f (by decide)) 126 rfl ?_
      refine g_aload X92 at_126 rfl rfl 128 rfl ?_
      refine g_aload X92 at_128 rfl rfl 130 rfl ?_
      refine g_callVp X92 (hw _ (List.mem_of_getElem? (i := 150) rfl)) (hw _ (List.mem_of_getElem? (i := 151) rfl)) (hw _ (List.mem_of_getElem? (i := 153) rfl)) (hw _ (List.mem_of_getElem? (i := 152) rfl)) (hw _ (List.mem_of_getElem? (i := 31) rfl)) (hw _ (List.mem_of_getElem? (i := 154) rfl)) (nfSel (hw _ (List.mem_of_getElem? (i := 153) rfl))) (by decide) (((((E41.ext E51).ext E63).ext E71).ext E79).keep K85) (c_pe2 l Z a0 G a9 a9 s6 s25 s33 s6 s25 s33 ([]) (partL k0 (1 : Int32)) (partL k1 (0 : Int32)) (partL k2 (0 : Int32)) (partL k0 (1 : Int32)) (partL k1 (0 : Int32)) (partL k2 (0 : Int32)) h84 (((((E41.ext E51).ext E63).ext E71).ext E79).keep K85) (((((F42.ext E51).ext E63).ext E71).ext E79).keep K85 (ninS ne_a9_a46 nin0)) (((((F43.ext E51).ext E63).ext E71).ext E79).keep K85 (ninS ne_a9_a46 nin0)) (((((F44.ext E51).ext E63).ext E71).ext E79).keep K85 (ninS ne_a9_a46 nin0)) (((((((((((S8.grow E14 ea12).ext E26).ext E34).keep K40 (by simp)).sub (us' := []) (by simp)).grow E51 ea49).ext E63).ext E71).ext E79).keep K85 (by simp)).sub (us' := []) (by simp)) (((((((((S27.ext E34).keep K40 (by simp)).sub (us' := []) (by simp)).grow E51 ea49).ext E63).ext E71).ext E79).keep K85 (by simp)).sub (us' := []) (by simp)) ((((((((S35.keep K40 (by simp)).sub (us' := []) (by simp)).grow E51 ea49).ext E63).ext E71).ext E79).keep K85 (by simp)).sub (us' := []) (by simp)) (((((E41.ext E51).ext E63).ext E71).ext E79).keep K85) (((((F42.ext E51).ext E63).ext E71).ext E79).keep K85 (ninS ne_a9_a46 nin0)) (((((F43.ext E51).ext E63).ext E71).ext E79).keep K85 (ninS ne_a9_a46 nin0)) (((((F44.ext E51).ext E63).ext E71).ext E79).keep K85 (ninS ne_a9_a46 nin0)) (((((((((((S8.grow E14 ea12).ext E26).ext E34).keep K40 (by simp)).sub (us' := []) (by simp)).grow E51 ea49).ext E63).ext E71).ext E79).keep K85 (by simp)).sub (us' := []) (by simp)) (((((((((S27.ext E34).keep K40 (by simp)).sub (us' := []) (by simp)).grow E51 ea49).ext E63).ext E71).ext E79).keep K85 (by simp)).sub (us' := []) (by simp)) ((((((((S35.keep K40 (by simp)).sub (us' := []) (by simp)).grow E51 ea49).ext E63).ext E71).ext E79).keep K85 (by simp)).sub (us' := []) (by simp))) (by simp) (argsL := [.ref a9]) (rest := []) pd_11 rfl rfl rfl rfl 0 (Nat.le_of_eq rfl) (by decide) (by decide) (ck := 58) rfl (cs := 678) rfl (by decide) (by decide) at_130 133 rfl ?_
      intro w97 T95 X96 hq98
      subst hq98
      refine g_ifNo X96 at_133 (XT.ii_eq_f (by simp)) 136 rfl ?_
      refine g_iconst X96 (1 : Int32) at_136 (by decide) 137 rfl ?_
      refine g_goto X96 at_137 141 (by decide) (by decide) ?_
      exact g_retN X96 (t := .boolean) rfl (by simp) at_141 _ rfl (by decide) (by decide) rfl
    · refine g_icmpYes X90 at_114 (XT.ii_ne_t hb114) 142 (by decide) (by decide) ?_
      refine g_iload X90 at_142 rfl 144 rfl ?_
      refine g_iconst X90 (3 : Int32) at_144 (by decide) 145 rfl ?_
      by_cases hb145 : (XT.ushr k5 (30 : Int32)) = (3 : Int32)
      · refine g_icmpNo X90 at_145 (XT.ii_ne_f hb145) 148 rfl ?_
        refine g_aload X90 at_148 rfl rfl 150 rfl ?_
        refine g_astore X90 at_150 rfl (Ls' := #[.val (.int k0), .val (.int k1), .val (.int k2), .val (.int k3), .val (.int k4), .val (.int k5), .val (.int qx), .val (.int qy), .val (.int qz), .val (.ref s6), .val (.ref a9), .val (.ref a46), .val (.int (XT.ushr k5 (30 : Int32))), .val (.ref s6)]) rfl 152 rfl ?_
        refine g_aload X90 at_152 rfl rfl 154 rfl ?_
        refine g_aload X90 at_154 rfl rfl 156 rfl ?_
        refine g_callVp X90 (hw _ (List.mem_of_getElem? (i := 150) rfl)) (hw _ (List.mem_of_getElem? (i := 151) rfl)) (hw _ (List.mem_of_getElem? (i := 153) rfl)) (hw _ (List.mem_of_getElem? (i := 152) rfl)) (hw _ (List.mem_of_getElem? (i := 31) rfl)) (hw _ (List.mem_of_getElem? (i := 154) rfl)) (nfSel (hw _ (List.mem_of_getElem? (i := 153) rfl))) (by decide) (((((E41.ext E51).ext E63).ext E71).ext E79).keep K85) (c_peS l Z a0 G a9 s6 [] (partL k0 (1 : Int32)) h84 (((((((((((S8.grow E14 ea12).ext E26).ext E34).keep K40 (by simp)).sub (us' := []) (by simp)).grow E51 ea49).ext E63).ext E71).ext E79).keep K85 (by simp)).sub (us' := []) (by simp))) (by simp) (argsL := [.ref s6]) (rest := []) pd_11 rfl rfl rfl rfl 0 (Nat.le_of_eq rfl) (by decide) (by decide) (ck := 58) rfl (cs := 678) rfl (by decide) (by decide) at_156 159 rfl ?_
        intro w101 T99 X100 hq102
        subst hq102
        refine g_ifNo X100 at_159 (XT.ii_ne_f (by decide)) 162 rfl ?_
        refine g_aload X100 at_162 rfl rfl 164 rfl ?_
        refine g_aload X100 at_164 rfl rfl 166 rfl ?_
        refine g_callVp X100 (hw _ (List.mem_of_getElem? (i := 150) rfl)) (hw _ (List.mem_of_getElem? (i := 151) rfl)) (hw _ (List.mem_of_getElem? (i := 153) rfl)) (hw _ (List.mem_of_getElem? (i := 152) rfl)) (hw _ (List.mem_of_getElem? (i := 31) rfl)) (hw _ (List.mem_of_getElem? (i := 154) rfl)) (nfSel (hw _ (List.mem_of_getElem? (i := 153) rfl))) (by decide) (((((E41.ext E51).ext E63).ext E71).ext E79).keep K85) (c_pe2 l Z a0 G a9 a9 s6 s25 s33 s6 s25 s33 ([]) (partL k0 (1 : Int32)) (partL k1 (0 : Int32)) (partL k2 (0 : Int32)) (partL k0 (1 : Int32)) (partL k1 (0 : Int32)) (partL k2 (0 : Int32)) h84 (((((E41.ext E51).ext E63).ext E71).ext E79).keep K85) (((((F42.ext E51).ext E63).ext E71).ext E79).keep K85 (ninS ne_a9_a46 nin0)) (((((F43.ext E51).ext E63).ext E71).ext E79).keep K85 (ninS ne_a9_a46 nin0)) (((((F44.ext E51).ext E63).ext E71).ext E79).keep K85 (ninS ne_a9_a46 nin0)) (((((((((((S8.grow E14 ea12).ext E26).ext E34).keep K40 (by simp)).sub (us' := []) (by simp)).grow E51 ea49).ext E63).ext E71).ext E79).keep K85 (by simp)).sub (us' := []) (by simp)) (((((((((S27.ext E34).keep K40 (by simp)).sub (us' := []) (by simp)).grow E51 ea49).ext E63).ext E71).ext E79).keep K85 (by simp)).sub (us' := []) (by simp)) ((((((((S35.keep K40 (by simp)).sub (us' := []) (by simp)).grow E51 ea49).ext E63).ext E71).ext E79).keep K85 (by simp)).sub (us' := []) (by simp)) (((((E41.ext E51).ext E63).ext E71).ext E79).keep K85) (((((F42.ext E51).ext E63).ext E71).ext E79).keep K85 (ninS ne_a9_a46 nin0)) (((((F43.ext E51).ext E63).ext E71).ext E79).keep K85 (ninS ne_a9_a46 nin0)) (((((F44.ext E51).ext E63).ext E71).ext E79).keep K85 (ninS ne_a9_a46 nin0)) (((((((((((S8.grow E14 ea12).ext E26).ext E34).keep K40 (by simp)).sub (us' := []) (by simp)).grow E51 ea49).ext E63).ext E71).ext E79).keep K85 (by simp)).sub (us' := []) (by simp)) (((((((((S27.ext E34).keep K40 (by simp)).sub (us' := []) (by simp)).grow E51 ea49).ext E63).ext E71).ext E79).keep K85 (by simp)).sub (us' := []) (by simp)) ((((((((S35.keep K40 (by simp)).sub (us' := []) (by simp)).grow E51 ea49).ext E63).ext E71).ext E79).keep K85 (by simp)).sub (us' := []) (by simp))) (by simp) (argsL := [.ref a9]) (rest := []) pd_11 rfl rfl rfl rfl 0 (Nat.le_of_eq rfl) (by decide) (by decide) (ck := 58) rfl (cs := 678) rfl (by decide) (by decide) at_166 169 rfl ?_
        intro w105 T103 X104 hq106
        subst hq106
        refine g_ifNo X104 at_169 (XT.ii_eq_f (by simp)) 172 rfl ?_
        refine g_iconst X104 (1 : Int32) at_172 (by decide) 173 rfl ?_
        refine g_goto X104 at_173 177 (by decide) (by decide) ?_
        exact g_retN X104 (t := .boolean) rfl (by simp) at_177 _ rfl (by decide) (by decide) rfl
      · refine g_icmpYes X90 at_145 (XT.ii_ne_t hb145) 178 (by decide) (by decide) ?_
        refine g_iloadN X90 at_178 rfl 179 rfl ?_
        refine g_iload X90 at_179 rfl 181 rfl ?_
        refine g_iconst X90 (1 : Int32) at_181 (by decide) 182 rfl ?_
        refine g_callSp X90 (hw _ (List.mem_of_getElem? (i := 147) rfl)) (hw _ (List.mem_of_getElem? (i := 148) rfl)) (hw _ (List.mem_of_getElem? (i := 2) rfl)) (hw _ (List.mem_of_getElem? (i := 149) rfl)) (by decide) (c_samep l Z a0 G k0 qx (1 : Int32) h84) (by simp) (argsL := [.int k0, .int qx, .int (1 : Int32)]) (rest := []) pd_3 rfl rfl rfl rfl 0 (Nat.le_of_eq rfl) (by decide) (by decide) (ck := 58) rfl (cs := 678) rfl (by decide) (by decide) at_182 185 rfl ?_
        intro w109 T107 X108 hq110
        subst hq110
        by_cases hb185 : (if partL k0 (1 : Int32) = partL qx (1 : Int32) then (1 : Int32) else 0) = (0 : Int32)
        · refine g_ifYes X108 at_185 (XT.ii_eq_t hb185) 212 (by decide) (by decide) ?_
          refine g_iconst X108 (0 : Int32) at_212 (by decide) 213 rfl ?_
          refine g_istore X108 at_213 (Ls' := #[.val (.int k0), .val (.int k1), .val (.int k2), .val (.int k3), .val (.int k4), .val (.int k5), .val (.int qx), .val (.int qy), .val (.int qz), .val (.ref s6), .val (.ref a9), .val (.ref a46), .val (.int (XT.ushr k5 (30 : Int32))), .val (.int (0 : Int32))]) rfl 215 rfl ?_
          refine g_aload X108 at_215 rfl rfl 217 rfl ?_
          refine g_aload X108 at_217 rfl rfl 219 rfl ?_
          refine g_callVp X108 (hw _ (List.mem_of_getElem? (i := 150) rfl)) (hw _ (List.mem_of_getElem? (i := 151) rfl)) (hw _ (List.mem_of_getElem? (i := 153) rfl)) (hw _ (List.mem_of_getElem? (i := 152) rfl)) (hw _ (List.mem_of_getElem? (i := 31) rfl)) (hw _ (List.mem_of_getElem? (i := 154) rfl)) (nfSel (hw _ (List.mem_of_getElem? (i := 153) rfl))) (by decide) (((((E41.ext E51).ext E63).ext E71).ext E79).keep K85) (c_pe2 l Z a0 G a9 a46 s6 s25 s33 s62 s70 s78 ([]) (partL k0 (1 : Int32)) (partL k1 (0 : Int32)) (partL k2 (0 : Int32)) (partL qx (1 : Int32)) (partL qy (0 : Int32)) (partL qz (0 : Int32)) h84 (((((E41.ext E51).ext E63).ext E71).ext E79).keep K85) (((((F42.ext E51).ext E63).ext E71).ext E79).keep K85 (ninS ne_a9_a46 nin0)) (((((F43.ext E51).ext E63).ext E71).ext E79).keep K85 (ninS ne_a9_a46 nin0)) (((((F44.ext E51).ext E63).ext E71).ext E79).keep K85 (ninS ne_a9_a46 nin0)) (((((((((((S8.grow E14 ea12).ext E26).ext E34).keep K40 (by simp)).sub (us' := []) (by simp)).grow E51 ea49).ext E63).ext E71).ext E79).keep K85 (by simp)).sub (us' := []) (by simp)) (((((((((S27.ext E34).keep K40 (by simp)).sub (us' := []) (by simp)).grow E51 ea49).ext E63).ext E71).ext E79).keep K85 (by simp)).sub (us' := []) (by simp)) ((((((((S35.keep K40 (by simp)).sub (us' := []) (by simp)).grow E51 ea49).ext E63).ext E71).ext E79).keep K85 (by simp)).sub (us' := []) (by simp)) E86 F87 F88 F89 ((((S64.ext E71).ext E79).keep K85 (by simp)).sub (us' := []) (by simp)) (((S72.ext E79).keep K85 (by simp)).sub (us' := []) (by simp)) ((S80.keep K85 (by simp)).sub (us' := []) (by simp))) (by simp) (argsL := [.ref a46]) (rest := []) pd_11 rfl rfl rfl rfl 0 (Nat.le_of_eq rfl) (by decide) (by decide) (ck := 58) rfl (cs := 678) rfl (by decide) (by decide) at_219 222 rfl ?_
          intro w113 T111 X112 hq114
          subst hq114
          refine g_iload X112 at_222 rfl 224 rfl ?_
          refine g_icmpNo X112 at_224 (XT.ii_ne_f (by revert hb185; by_cases q1 : partL k0 1 = partL qx 1 <;> by_cases q2 : partL k1 0 = partL qy 0 <;> by_cases q3 : partL k2 0 = partL qz 0 <;> simp [q1, q2, q3])) 227 rfl ?_
          refine g_aload X112 at_227 rfl rfl 229 rfl ?_
          refine g_aload X112 at_229 rfl rfl 231 rfl ?_
          refine g_callVp X112 (hw _ (List.mem_of_getElem? (i := 150) rfl)) (hw _ (List.mem_of_getElem? (i := 151) rfl)) (hw _ (List.mem_of_getElem? (i := 153) rfl)) (hw _ (List.mem_of_getElem? (i := 152) rfl)) (hw _ (List.mem_of_getElem? (i := 31) rfl)) (hw _ (List.mem_of_getElem? (i := 154) rfl)) (nfSel (hw _ (List.mem_of_getElem? (i := 153) rfl))) (by decide) E86 (c_pe2 l Z a0 G a46 a9 s62 s70 s78 s6 s25 s33 ([]) (partL qx (1 : Int32)) (partL qy (0 : Int32)) (partL qz (0 : Int32)) (partL k0 (1 : Int32)) (partL k1 (0 : Int32)) (partL k2 (0 : Int32)) h84 E86 F87 F88 F89 ((((S64.ext E71).ext E79).keep K85 (by simp)).sub (us' := []) (by simp)) (((S72.ext E79).keep K85 (by simp)).sub (us' := []) (by simp)) ((S80.keep K85 (by simp)).sub (us' := []) (by simp)) (((((E41.ext E51).ext E63).ext E71).ext E79).keep K85) (((((F42.ext E51).ext E63).ext E71).ext E79).keep K85 (ninS ne_a9_a46 nin0)) (((((F43.ext E51).ext E63).ext E71).ext E79).keep K85 (ninS ne_a9_a46 nin0)) (((((F44.ext E51).ext E63).ext E71).ext E79).keep K85 (ninS ne_a9_a46 nin0)) (((((((((((S8.grow E14 ea12).ext E26).ext E34).keep K40 (by simp)).sub (us' := []) (by simp)).grow E51 ea49).ext E63).ext E71).ext E79).keep K85 (by simp)).sub (us' := []) (by simp)) (((((((((S27.ext E34).keep K40 (by simp)).sub (us' := []) (by simp)).grow E51 ea49).ext E63).ext E71).ext E79).keep K85 (by simp)).sub (us' := []) (by simp)) ((((((((S35.keep K40 (by simp)).sub (us' := []) (by simp)).grow E51 ea49).ext E63).ext E71).ext E79).keep K85 (by simp)).sub (us' := []) (by simp))) (by simp) (argsL := [.ref a9]) (rest := []) pd_11 rfl rfl rfl rfl 0 (Nat.le_of_eq rfl) (by decide) (by decide) (ck := 58) rfl (cs := 678) rfl (by decide) (by decide) at_231 234 rfl ?_
          intro w117 T115 X116 hq118
          subst hq118
          refine g_iload X116 at_234 rfl 236 rfl ?_
          refine g_icmpNo X116 at_236 (XT.ii_ne_f (by simp only [eq_comm (a := partL qx 1) (b := partL k0 1), eq_comm (a := partL qy 0) (b := partL k1 0), eq_comm (a := partL qz 0) (b := partL k2 0)]; revert hb185; by_cases q1 : partL k0 1 = partL qx 1 <;> by_cases q2 : partL k1 0 = partL qy 0 <;> by_cases q3 : partL k2 0 = partL qz 0 <;> simp [q1, q2, q3])) 239 rfl ?_
          refine g_aload X116 at_239 rfl rfl 241 rfl ?_
          refine g_aload X116 at_241 rfl rfl 243 rfl ?_
          refine g_callVp X116 (hw _ (List.mem_of_getElem? (i := 150) rfl)) (hw _ (List.mem_of_getElem? (i := 151) rfl)) (hw _ (List.mem_of_getElem? (i := 153) rfl)) (hw _ (List.mem_of_getElem? (i := 152) rfl)) (hw _ (List.mem_of_getElem? (i := 31) rfl)) (hw _ (List.mem_of_getElem? (i := 154) rfl)) (nfSel (hw _ (List.mem_of_getElem? (i := 153) rfl))) (by decide) (((((E41.ext E51).ext E63).ext E71).ext E79).keep K85) (c_pe2 l Z a0 G a9 a9 s6 s25 s33 s6 s25 s33 ([]) (partL k0 (1 : Int32)) (partL k1 (0 : Int32)) (partL k2 (0 : Int32)) (partL k0 (1 : Int32)) (partL k1 (0 : Int32)) (partL k2 (0 : Int32)) h84 (((((E41.ext E51).ext E63).ext E71).ext E79).keep K85) (((((F42.ext E51).ext E63).ext E71).ext E79).keep K85 (ninS ne_a9_a46 nin0)) (((((F43.ext E51).ext E63).ext E71).ext E79).keep K85 (ninS ne_a9_a46 nin0)) (((((F44.ext E51).ext E63).ext E71).ext E79).keep K85 (ninS ne_a9_a46 nin0)) (((((((((((S8.grow E14 ea12).ext E26).ext E34).keep K40 (by simp)).sub (us' := []) (by simp)).grow E51 ea49).ext E63).ext E71).ext E79).keep K85 (by simp)).sub (us' := []) (by simp)) (((((((((S27.ext E34).keep K40 (by simp)).sub (us' := []) (by simp)).grow E51 ea49).ext E63).ext E71).ext E79).keep K85 (by simp)).sub (us' := []) (by simp)) ((((((((S35.keep K40 (by simp)).sub (us' := []) (by simp)).grow E51 ea49).ext E63).ext E71).ext E79).keep K85 (by simp)).sub (us' := []) (by simp)) (((((E41.ext E51).ext E63).ext E71).ext E79).keep K85) (((((F42.ext E51).ext E63).ext E71).ext E79).keep K85 (ninS ne_a9_a46 nin0)) (((((F43.ext E51).ext E63).ext E71).ext E79).keep K85 (ninS ne_a9_a46 nin0)) (((((F44.ext E51).ext E63).ext E71).ext E79).keep K85 (ninS ne_a9_a46 nin0)) (((((((((((S8.grow E14 ea12).ext E26).ext E34).keep K40 (by simp)).sub (us' := []) (by simp)).grow E51 ea49).ext E63).ext E71).ext E79).keep K85 (by simp)).sub (us' := []) (by simp)) (((((((((S27.ext E34).keep K40 (by simp)).sub (us' := []) (by simp)).grow E51 ea49).ext E63).ext E71).ext E79).keep K85 (by simp)).sub (us' := []) (by simp)) ((((((((S35.keep K40 (by simp)).sub (us' := []) (by simp)).grow E51 ea49).ext E63).ext E71).ext E79).keep K85 (by simp)).sub (us' := []) (by simp))) (by simp) (argsL := [.ref a9]) (rest := []) pd_11 rfl rfl rfl rfl 0 (Nat.le_of_eq rfl) (by decide) (by decide) (ck := 58) rfl (cs := 678) rfl (by decide) (by decide) at_243 246 rfl ?_
          intro w121 T119 X120 hq122
          subst hq122
          refine g_ifNo X120 at_246 (XT.ii_eq_f (by simp)) 249 rfl ?_
          refine g_iconst X120 (1 : Int32) at_249 (by decide) 250 rfl ?_
          refine g_goto X120 at_250 254 (by decide) (by decide) ?_
          exact g_retN X120 (t := .boolean) rfl (by simp) at_254 _ rfl (by decide) (by decide) rfl
        · refine g_ifNo X108 at_185 (XT.ii_eq_f hb185) 188 rfl ?_
          refine g_iloadN X108 at_188 rfl 189 rfl ?_
          refine g_iload X108 at_189 rfl 191 rfl ?_
          refine g_iconst X108 (0 : Int32) at_191 (by decide) 192 rfl ?_
          refine g_callSp X108 (hw _ (List.mem_of_getElem? (i := 147) rfl)) (hw _ (List.mem_of_getElem? (i := 148) rfl)) (hw _ (List.mem_of_getElem? (i := 2) rfl)) (hw _ (List.mem_of_getElem? (i := 149) rfl)) (by decide) (c_samep l Z a0 G k1 qy (0 : Int32) h84) (by simp) (argsL := [.int k1, .int qy, .int (0 : Int32)]) (rest := []) pd_3 rfl rfl rfl rfl 0 (Nat.le_of_eq rfl) (by decide) (by decide) (ck := 58) rfl (cs := 678) rfl (by decide) (by decide) at_192 195 rfl ?_
          intro w125 T123 X124 hq126
          subst hq126
          by_cases hb195 : (if partL k1 (0 : Int32) = partL qy (0 : Int32) then (1 : Int32) else 0) = (0 : Int32)
          · refine g_ifYes X124 at_195 (XT.ii_eq_t hb195) 212 (by decide) (by decide) ?_
            refine g_iconst X124 (0 : Int32) at_212 (by decide) 213 rfl ?_
            refine g_istore X124 at_213 (Ls' := #[.val (.int k0), .val (.int k1), .val (.int k2), .val (.int k3), .val (.int k4), .val (.int k5), .val (.int qx), .val (.int qy), .val (.int qz), .val (.ref s6), .val (.ref a9), .val (.ref a46), .val (.int (XT.ushr k5 (30 : Int32))), .val (.int (0 : Int32))]) rfl 215 rfl ?_
            refine g_aload X124 at_215 rfl rfl 217 rfl ?_
            refine g_aload X124 at_217 rfl rfl 219 rfl ?_
            refine g_callVp X124 (hw _ (List.mem_of_getElem? (i := 150) rfl)) (hw _ (List.mem_of_getElem? (i := 151) rfl)) (hw _ (List.mem_of_getElem? (i := 153) rfl)) (hw _ (List.mem_of_getElem? (i := 152) rfl)) (hw _ (List.mem_of_getElem? (i := 31) rfl)) (hw _ (List.mem_of_getElem? (i := 154) rfl)) (nfSel (hw _ (List.mem_of_getElem? (i := 153) rfl))) (by decide) (((((E41.ext E51).ext E63).ext E71).ext E79).keep K85) (c_pe2 l Z a0 G a9 a46 s6 s25 s33 s62 s70 s78 ([]) (partL k0 (1 : Int32)) (partL k1 (0 : Int32)) (partL k2 (0 : Int32)) (partL qx (1 : Int32)) (partL qy (0 : Int32)) (partL qz (0 : Int32)) h84 (((((E41.ext E51).ext E63).ext E71).ext E79).keep K85) (((((F42.ext E51).ext E63).ext E71).ext E79).keep K85 (ninS ne_a9_a46 nin0)) (((((F43.ext E51).ext E63).ext E71).ext E79).keep K85 (ninS ne_a9_a46 nin0)) (((((F44.ext E51).ext E63).ext E71).ext E79).keep K85 (ninS ne_a9_a46 nin0)) (((((((((((S8.grow E14 ea12).ext E26).ext E34).keep K40 (by simp)).sub (us' := []) (by simp)).grow E51 ea49).ext E63).ext E71).ext E79).keep K85 (by simp)).sub (us' := []) (by simp)) (((((((((S27.ext E34).keep K40 (by simp)).sub (us' := []) (by simp)).grow E51 ea49).ext E63).ext E71).ext E79).keep K85 (by simp)).sub (us' := []) (by simp)) ((((((((S35.keep K40 (by simp)).sub (us' := []) (by simp)).grow E51 ea49).ext E63).ext E71).ext E79).keep K85 (by simp)).sub (us' := []) (by simp)) E86 F87 F88 F89 ((((S64.ext E71).ext E79).keep K85 (by simp)).sub (us' := []) (by simp)) (((S72.ext E79).keep K85 (by simp)).sub (us' := []) (by simp)) ((S80.keep K85 (by simp)).sub (us' := []) (by simp))) (by simp) (argsL := [.ref a46]) (rest := []) pd_11 rfl rfl rfl rfl 0 (Nat.le_of_eq rfl) (by decide) (by decide) (ck := 58) rfl (cs := 678) rfl (by decide) (by decide) at_219 222 rfl ?_
            intro w129 T127 X128 hq130
            subst hq130
            refine g_iload X128 at_222 rfl 224 rfl ?_
            refine g_icmpNo X128 at_224 (XT.ii_ne_f (by revert hb185 hb195; by_cases q1 : partL k0 1 = partL qx 1 <;> by_cases q2 : partL k1 0 = partL qy 0 <;> by_cases q3 : partL k2 0 = partL qz 0 <;> simp [q1, q2, q3])) 227 rfl ?_
            refine g_aload X128 at_227 rfl rfl 229 rfl ?_
            refine g_aload X128 at_229 rfl rfl 231 rfl ?_
            refine g_callVp X128 (hw _ (List.mem_of_getElem? (i := 150) rfl)) (hw _ (List.mem_of_getElem? (i := 151) rfl)) (hw _ (List.mem_of_getElem? (i := 153) rfl)) (hw _ (List.mem_of_getElem? (i := 152) rfl)) (hw _ (List.mem_of_getElem? (i := 31) rfl)) (hw _ (List.mem_of_getElem? (i := 154) rfl)) (nfSel (hw _ (List.mem_of_getElem? (i := 153) rfl))) (by decide) E86 (c_pe2 l Z a0 G a46 a9 s62 s70 s78 s6 s25 s33 ([]) (partL qx (1 : Int32)) (partL qy (0 : Int32)) (partL qz (0 : Int32)) (partL k0 (1 : Int32)) (partL k1 (0 : Int32)) (partL k2 (0 : Int32)) h84 E86 F87 F88 F89 ((((S64.ext E71).ext E79).keep K85 (by simp)).sub (us' := []) (by simp)) (((S72.ext E79).keep K85 (by simp)).sub (us' := []) (by simp)) ((S80.keep K85 (by simp)).sub (us' := []) (by simp)) (((((E41.ext E51).ext E63).ext E71).ext E79).keep K85) (((((F42.ext E51).ext E63).ext E71).ext E79).keep K85 (ninS ne_a9_a46 nin0)) (((((F43.ext E51).ext E63).ext E71).ext E79).keep K85 (ninS ne_a9_a46 nin0)) (((((F44.ext E51).ext E63).ext E71).ext E79).keep K85 (ninS ne_a9_a46 nin0)) (((((((((((S8.grow E14 ea12).ext E26).ext E34).keep K40 (by simp)).sub (us' := []) (by simp)).grow E51 ea49).ext E63).ext E71).ext E79).keep K85 (by simp)).sub (us' := []) (by simp)) (((((((((S27.ext E34).keep K40 (by simp)).sub (us' := []) (by simp)).grow E51 ea49).ext E63).ext E71).ext E79).keep K85 (by simp)).sub (us' := []) (by simp)) ((((((((S35.keep K40 (by simp)).sub (us' := []) (by simp)).grow E51 ea49).ext E63).ext E71).ext E79).keep K85 (by simp)).sub (us' := []) (by simp))) (by simp) (argsL := [.ref a9]) (rest := []) pd_11 rfl rfl rfl rfl 0 (Nat.le_of_eq rfl) (by decide) (by decide) (ck := 58) rfl (cs := 678) rfl (by decide) (by decide) at_231 234 rfl ?_
            intro w133 T131 X132 hq134
            subst hq134
            refine g_iload X132 at_234 rfl 236 rfl ?_
            refine g_icmpNo X132 at_236 (XT.ii_ne_f (by simp only [eq_comm (a := partL qx 1) (b := partL k0 1), eq_comm (a := partL qy 0) (b := partL k1 0), eq_comm (a := partL qz 0) (b := partL k2 0)]; revert hb185 hb195; by_cases q1 : partL k0 1 = partL qx 1 <;> by_cases q2 : partL k1 0 = partL qy 0 <;> by_cases q3 : partL k2 0 = partL qz 0 <;> simp [q1, q2, q3])) 239 rfl ?_
            refine g_aload X132 at_239 rfl rfl 241 rfl ?_
            refine g_aload X132 at_241 rfl rfl 243 rfl ?_
            refine g_callVp X132 (hw _ (List.mem_of_getElem? (i := 150) rfl)) (hw _ (List.mem_of_getElem? (i := 151) rfl)) (hw _ (List.mem_of_getElem? (i := 153) rfl)) (hw _ (List.mem_of_getElem? (i := 152) rfl)) (hw _ (List.mem_of_getElem? (i := 31) rfl)) (hw _ (List.mem_of_getElem? (i := 154) rfl)) (nfSel (hw _ (List.mem_of_getElem? (i := 153) rfl))) (by decide) (((((E41.ext E51).ext E63).ext E71).ext E79).keep K85) (c_pe2 l Z a0 G a9 a9 s6 s25 s33 s6 s25 s33 ([]) (partL k0 (1 : Int32)) (partL k1 (0 : Int32)) (partL k2 (0 : Int32)) (partL k0 (1 : Int32)) (partL k1 (0 : Int32)) (partL k2 (0 : Int32)) h84 (((((E41.ext E51).ext E63).ext E71).ext E79).keep K85) (((((F42.ext E51).ext E63).ext E71).ext E79).keep K85 (ninS ne_a9_a46 nin0)) (((((F43.ext E51).ext E63).ext E71).ext E79).keep K85 (ninS ne_a9_a46 nin0)) (((((F44.ext E51).ext E63).ext E71).ext E79).keep K85 (ninS ne_a9_a46 nin0)) (((((((((((S8.grow E14 ea12).ext E26).ext E34).keep K40 (by simp)).sub (us' := []) (by simp)).grow E51 ea49).ext E63).ext E71).ext E79).keep K85 (by simp)).sub (us' := []) (by simp)) (((((((((S27.ext E34).keep K40 (by simp)).sub (us' := []) (by simp)).grow E51 ea49).ext E63).ext E71).ext E79).keep K85 (by simp)).sub (us' := []) (by simp)) ((((((((S35.keep K40 (by simp)).sub (us' := []) (by simp)).grow E51 ea49).ext E63).ext E71).ext E79).keep K85 (by simp)).sub (us' := []) (by simp)) (((((E41.ext E51).ext E63).ext E71).ext E79).keep K85) (((((F42.ext E51).ext E63).ext E71).ext E79).keep K85 (ninS ne_a9_a46 nin0)) (((((F43.ext E51).ext E63).ext E71).ext E79).keep K85 (ninS ne_a9_a46 nin0)) (((((F44.ext E51).ext E63).ext E71).ext E79).keep K85 (ninS ne_a9_a46 nin0)) (((((((((((S8.grow E14 ea12).ext E26).ext E34).keep K40 (by simp)).sub (us' := []) (by simp)).grow E51 ea49).ext E63).ext E71).ext E79).keep K85 (by simp)).sub (us' := []) (by simp)) (((((((((S27.ext E34).keep K40 (by simp)).sub (us' := []) (by simp)).grow E51 ea49).ext E63).ext E71).ext E79).keep K85 (by simp)).sub (us' := []) (by simp)) ((((((((S35.keep K40 (by simp)).sub (us' := []) (by simp)).grow E51 ea49).ext E63).ext E71).ext E79).keep K85 (by simp)).sub (us' := []) (by simp))) (by simp) (argsL := [.ref a9]) (rest := []) pd_11 rfl rfl rfl rfl 0 (Nat.le_of_eq rfl) (by decide) (by decide) (ck := 58) rfl (cs := 678) rfl (by decide) (by decide) at_243 246 rfl ?_
            intro w137 T135 X136 hq138
            subst hq138
            refine g_ifNo X136 at_246 (XT.ii_eq_f (by simp)) 249 rfl ?_
            refine g_iconst X136 (1 : Int32) at_249 (by decide) 250 rfl ?_
            refine g_goto X136 at_250 254 (by decide) (by decide) ?_
            exact g_retN X136 (t := .boolean) rfl (by simp) at_254 _ rfl (by decide) (by decide) rfl
          · refine g_ifNo X124 at_195 (XT.ii_eq_f hb195) 198 rfl ?_
            refine g_iloadN X124 at_198 rfl 199 rfl ?_
            refine g_iload X124 at_199 rfl 201 rfl ?_
            refine g_iconst X124 (0 : Int32) at_201 (by decide) 202 rfl ?_
            refine g_callSp X124 (hw _ (List.mem_of_getElem? (i := 147) rfl)) (hw _ (List.mem_of_getElem? (i := 148) rfl)) (hw _ (List.mem_of_getElem? (i := 2) rfl)) (hw _ (List.mem_of_getElem? (i := 149) rfl)) (by decide) (c_samep l Z a0 G k2 qz (0 : Int32) h84) (by simp) (argsL := [.int k2, .int qz, .int (0 : Int32)]) (rest := []) pd_3 rfl rfl rfl rfl 0 (Nat.le_of_eq rfl) (by decide) (by decide) (ck := 58) rfl (cs := 678) rfl (by decide) (by decide) at_202 205 rfl ?_
            intro w141 T139 X140 hq142
            subst hq142
            by_cases hb205 : (if partL k2 (0 : Int32) = partL qz (0 : Int32) then (1 : Int32) else 0) = (0 : Int32)
            · refine g_ifYes X140 at_205 (XT.ii_eq_t hb205) 212 (by decide) (by decide) ?_
              refine g_iconst X140 (0 : Int32) at_212 (by decide) 213 rfl ?_
              refine g_istore X140 at_213 (Ls' := #[.val (.int k0), .val (.int k1), .val (.int k2), .val (.int k3), .val (.int k4), .val (.int k5), .val (.int qx), .val (.int qy), .val (.int qz), .val (.ref s6), .val (.ref a9), .val (.ref a46), .val (.int (XT.ushr k5 (30 : Int32))), .val (.int (0 : Int32))]) rfl 215 rfl ?_
              refine g_aload X140 at_215 rfl rfl 217 rfl ?_
              refine g_aload X140 at_217 rfl rfl 219 rfl ?_
              refine g_callVp X140 (hw _ (List.mem_of_getElem? (i := 150) rfl)) (hw _ (List.mem_of_getElem? (i := 151) rfl)) (hw _ (List.mem_of_getElem? (i := 153) rfl)) (hw _ (List.mem_of_getElem? (i := 152) rfl)) (hw _ (List.mem_of_getElem? (i := 31) rfl)) (hw _ (List.mem_of_getElem? (i := 154) rfl)) (nfSel (hw _ (List.mem_of_getElem? (i := 153) rfl))) (by decide) (((((E41.ext E51).ext E63).ext E71).ext E79).keep K85) (c_pe2 l Z a0 G a9 a46 s6 s25 s33 s62 s70 s78 ([]) (partL k0 (1 : Int32)) (partL k1 (0 : Int32)) (partL k2 (0 : Int32)) (partL qx (1 : Int32)) (partL qy (0 : Int32)) (partL qz (0 : Int32)) h84 (((((E41.ext E51).ext E63).ext E71).ext E79).keep K85) (((((F42.ext E51).ext E63).ext E71).ext E79).keep K85 (ninS ne_a9_a46 nin0)) (((((F43.ext E51).ext E63).ext E71).ext E79).keep K85 (ninS ne_a9_a46 nin0)) (((((F44.ext E51).ext E63).ext E71).ext E79).keep K85 (ninS ne_a9_a46 nin0)) (((((((((((S8.grow E14 ea12).ext E26).ext E34).keep K40 (by simp)).sub (us' := []) (by simp)).grow E51 ea49).ext E63).ext E71).ext E79).keep K85 (by simp)).sub (us' := []) (by simp)) (((((((((S27.ext E34).keep K40 (by simp)).sub (us' := []) (by simp)).grow E51 ea49).ext E63).ext E71).ext E79).keep K85 (by simp)).sub (us' := []) (by simp)) ((((((((S35.keep K40 (by simp)).sub (us' := []) (by simp)).grow E51 ea49).ext E63).ext E71).ext E79).keep K85 (by simp)).sub (us' := []) (by simp)) E86 F87 F88 F89 ((((S64.ext E71).ext E79).keep K85 (by simp)).sub (us' := []) (by simp)) (((S72.ext E79).keep K85 (by simp)).sub (us' := []) (by simp)) ((S80.keep K85 (by simp)).sub (us' := []) (by simp))) (by simp) (argsL := [.ref a46]) (rest := []) pd_11 rfl rfl rfl rfl 0 (Nat.le_of_eq rfl) (by decide) (by decide) (ck := 58) rfl (cs := 678) rfl (by decide) (by decide) at_219 222 rfl ?_
              intro w145 T143 X144 hq146
              subst hq146
              refine g_iload X144 at_222 rfl 224 rfl ?_
              refine g_icmpNo X144 at_224 (XT.ii_ne_f (by revert hb185 hb195 hb205; by_cases q1 : partL k0 1 = partL qx 1 <;> by_cases q2 : partL k1 0 = partL qy 0 <;> by_cases q3 : partL k2 0 = partL qz 0 <;> simp [q1, q2, q3])) 227 rfl ?_
              refine g_aload X144 at_227 rfl rfl 229 rfl ?_
              refine g_aload X144 at_229 rfl rfl 231 rfl ?_
              refine g_callVp X144 (hw _ (List.mem_of_getElem? (i := 150) rfl)) (hw _ (List.mem_of_getElem? (i := 151) rfl)) (hw _ (List.mem_of_getElem? (i := 153) rfl)) (hw _ (List.mem_of_getElem? (i := 152) rfl)) (hw _ (List.mem_of_getElem? (i := 31) rfl)) (hw _ (List.mem_of_getElem? (i := 154) rfl)) (nfSel (hw _ (List.mem_of_getElem? (i := 153) rfl))) (by decide) E86 (c_pe2 l Z a0 G a46 a9 s62 s70 s78 s6 s25 s33 ([]) (partL qx (1 : Int32)) (partL qy (0 : Int32)) (partL qz (0 : Int32)) (partL k0 (1 : Int32)) (partL k1 (0 : Int32)) (partL k2 (0 : Int32)) h84 E86 F87 F88 F89 ((((S64.ext E71).ext E79).keep K85 (by simp)).sub (us' := []) (by simp)) (((S72.ext E79).keep K85 (by simp)).sub (us' := []) (by simp)) ((S80.keep K85 (by simp)).sub (us' := []) (by simp)) (((((E41.ext E51).ext E63).ext E71).ext E79).keep K85) (((((F42.ext E51).ext E63).ext E71).ext E79).keep K85 (ninS ne_a9_a46 nin0)) (((((F43.ext E51).ext E63).ext E71).ext E79).keep K85 (ninS ne_a9_a46 nin0)) (((((F44.ext E51).ext E63).ext E71).ext E79).keep K85 (ninS ne_a9_a46 nin0)) (((((((((((S8.grow E14 ea12).ext E26).ext E34).keep K40 (by simp)).sub (us' := []) (by simp)).grow E51 ea49).ext E63).ext E71).ext E79).keep K85 (by simp)).sub (us' := []) (by simp)) (((((((((S27.ext E34).keep K40 (by simp)).sub (us' := []) (by simp)).grow E51 ea49).ext E63).ext E71).ext E79).keep K85 (by simp)).sub (us' := []) (by simp)) ((((((((S35.keep K40 (by simp)).sub (us' := []) (by simp)).grow E51 ea49).ext E63).ext E71).ext E79).keep K85 (by simp)).sub (us' := []) (by simp))) (by simp) (argsL := [.ref a9]) (rest := []) pd_11 rfl rfl rfl rfl 0 (Nat.le_of_eq rfl) (by decide) (by decide) (ck := 58) rfl (cs := 678) rfl (by decide) (by decide) at_231 234 rfl ?_
              intro w149 T147 X148 hq150
              subst hq150
              refine g_iload X148 at_234 rfl 236 rfl ?_
              refine g_icmpNo X148 at_236 (XT.ii_ne_f (by simp only [eq_comm (a := partL qx 1) (b := partL k0 1), eq_comm (a := partL qy 0) (b := partL k1 0), eq_comm (a := partL qz 0) (b := partL k2 0)]; revert hb185 hb195 hb205; by_cases q1 : partL k0 1 = partL qx 1 <;> by_cases q2 : partL k1 0 = partL qy 0 <;> by_cases q3 : partL k2 0 = partL qz 0 <;> simp [q1, q2, q3])) 239 rfl ?_
              refine g_aload X148 at_239 rfl rfl 241 rfl ?_
              refine g_aload X148 at_241 rfl rfl 243 rfl ?_
              refine g_callVp X148 (hw _ (List.mem_of_getElem? (i := 150) rfl)) (hw _ (List.mem_of_getElem? (i := 151) rfl)) (hw _ (List.mem_of_getElem? (i := 153) rfl)) (hw _ (List.mem_of_getElem? (i := 152) rfl)) (hw _ (List.mem_of_getElem? (i := 31) rfl)) (hw _ (List.mem_of_getElem? (i := 154) rfl)) (nfSel (hw _ (List.mem_of_getElem? (i := 153) rfl))) (by decide) (((((E41.ext E51).ext E63).ext E71).ext E79).keep K85) (c_pe2 l Z a0 G a9 a9 s6 s25 s33 s6 s25 s33 ([]) (partL k0 (1 : Int32)) (partL k1 (0 : Int32)) (partL k2 (0 : Int32)) (partL k0 (1 : Int32)) (partL k1 (0 : Int32)) (partL k2 (0 : Int32)) h84 (((((E41.ext E51).ext E63).ext E71).ext E79).keep K85) (((((F42.ext E51).ext E63).ext E71).ext E79).keep K85 (ninS ne_a9_a46 nin0)) (((((F43.ext E51).ext E63).ext E71).ext E79).keep K85 (ninS ne_a9_a46 nin0)) (((((F44.ext E51).ext E63).ext E71).ext E79).keep K85 (ninS ne_a9_a46 nin0)) (((((((((((S8.grow E14 ea12).ext E26).ext E34).keep K40 (by simp)).sub (us' := []) (by simp)).grow E51 ea49).ext E63).ext E71).ext E79).keep K85 (by simp)).sub (us' := []) (by simp)) (((((((((S27.ext E34).keep K40 (by simp)).sub (us' := []) (by simp)).grow E51 ea49).ext E63).ext E71).ext E79).keep K85 (by simp)).sub (us' := []) (by simp)) ((((((((S35.keep K40 (by simp)).sub (us' := []) (by simp)).grow E51 ea49).ext E63).ext E71).ext E79).keep K85 (by simp)).sub (us' := []) (by simp)) (((((E41.ext E51).ext E63).ext E71).ext E79).keep K85) (((((F42.ext E51).ext E63).ext E71).ext E79).keep K85 (ninS ne_a9_a46 nin0)) (((((F43.ext E51).ext E63).ext E71).ext E79).keep K85 (ninS ne_a9_a46 nin0)) (((((F44.ext E51).ext E63).ext E71).ext E79).keep K85 (ninS ne_a9_a46 nin0)) (((((((((((S8.grow E14 ea12).ext E26).ext E34).keep K40 (by simp)).sub (us' := []) (by simp)).grow E51 ea49).ext E63).ext E71).ext E79).keep K85 (by simp)).sub (us' := []) (by simp)) (((((((((S27.ext E34).keep K40 (by simp)).sub (us' := []) (by simp)).grow E51 ea49).ext E63).ext E71).ext E79).keep K85 (by simp)).sub (us' := []) (by simp)) ((((((((S35.keep K40 (by simp)).sub (us' := []) (by simp)).grow E51 ea49).ext E63).ext E71).ext E79).keep K85 (by simp)).sub (us' := []) (by simp))) (by simp) (argsL := [.ref a9]) (rest := []) pd_11 rfl rfl rfl rfl 0 (Nat.le_of_eq rfl) (by decide) (by decide) (ck := 58) rfl (cs := 678) rfl (by decide) (by decide) at_243 246 rfl ?_
              intro w153 T151 X152 hq154
              subst hq154
              refine g_ifNo X152 at_246 (XT.ii_eq_f (by simp)) 249 rfl ?_
              refine g_iconst X152 (1 : Int32) at_249 (by decide) 250 rfl ?_
              refine g_goto X152 at_250 254 (by decide) (by decide) ?_
              exact g_retN X152 (t := .boolean) rfl (by simp) at_254 _ rfl (by decide) (by decide) rfl
            · refine g_ifNo X140 at_205 (XT.ii_eq_f hb205) 208 rfl ?_
              refine g_iconst X140 (1 : Int32) at_208 (by decide) 209 rfl ?_
              refine g_goto X140 at_209 213 (by decide) (by decide) ?_
              refine g_istore X140 at_213 (Ls' := #[.val (.int k0), .val (.int k1), .val (.int k2), .val (.int k3), .val (.int k4), .val (.int k5), .val (.int qx), .val (.int qy), .val (.int qz), .val (.ref s6), .val (.ref a9), .val (.ref a46), .val (.int (XT.ushr k5 (30 : Int32))), .val (.int (1 : Int32))]) rfl 215 rfl ?_
              refine g_aload X140 at_215 rfl rfl 217 rfl ?_
              refine g_aload X140 at_217 rfl rfl 219 rfl ?_
              refine g_callVp X140 (hw _ (List.mem_of_getElem? (i := 150) rfl)) (hw _ (List.mem_of_getElem? (i := 151) rfl)) (hw _ (List.mem_of_getElem? (i := 153) rfl)) (hw _ (List.mem_of_getElem? (i := 152) rfl)) (hw _ (List.mem_of_getElem? (i := 31) rfl)) (hw _ (List.mem_of_getElem? (i := 154) rfl)) (nfSel (hw _ (List.mem_of_getElem? (i := 153) rfl))) (by decide) (((((E41.ext E51).ext E63).ext E71).ext E79).keep K85) (c_pe2 l Z a0 G a9 a46 s6 s25 s33 s62 s70 s78 ([]) (partL k0 (1 : Int32)) (partL k1 (0 : Int32)) (partL k2 (0 : Int32)) (partL qx (1 : Int32)) (partL qy (0 : Int32)) (partL qz (0 : Int32)) h84 (((((E41.ext E51).ext E63).ext E71).ext E79).keep K85) (((((F42.ext E51).ext E63).ext E71).ext E79).keep K85 (ninS ne_a9_a46 nin0)) (((((F43.ext E51).ext E63).ext E71).ext E79).keep K85 (ninS ne_a9_a46 nin0)) (((((F44.ext E51).ext E63).ext E71).ext E79).keep K85 (ninS ne_a9_a46 nin0)) (((((((((((S8.grow E14 ea12).ext E26).ext E34).keep K40 (by simp)).sub (us' := []) (by simp)).grow E51 ea49).ext E63).ext E71).ext E79).keep K85 (by simp)).sub (us' := []) (by simp)) (((((((((S27.ext E34).keep K40 (by simp)).sub (us' := []) (by simp)).grow E51 ea49).ext E63).ext E71).ext E79).keep K85 (by simp)).sub (us' := []) (by simp)) ((((((((S35.keep K40 (by simp)).sub (us' := []) (by simp)).grow E51 ea49).ext E63).ext E71).ext E79).keep K85 (by simp)).sub (us' := []) (by simp)) E86 F87 F88 F89 ((((S64.ext E71).ext E79).keep K85 (by simp)).sub (us' := []) (by simp)) (((S72.ext E79).keep K85 (by simp)).sub (us' := []) (by simp)) ((S80.keep K85 (by simp)).sub (us' := []) (by simp))) (by simp) (argsL := [.ref a46]) (rest := []) pd_11 rfl rfl rfl rfl 0 (Nat.le_of_eq rfl) (by decide) (by decide) (ck := 58) rfl (cs := 678) rfl (by decide) (by decide) at_219 222 rfl ?_
              intro w157 T155 X156 hq158
              subst hq158
              refine g_iload X156 at_222 rfl 224 rfl ?_
              refine g_icmpNo X156 at_224 (XT.ii_ne_f (by revert hb185 hb195 hb205; by_cases q1 : partL k0 1 = partL qx 1 <;> by_cases q2 : partL k1 0 = partL qy 0 <;> by_cases q3 : partL k2 0 = partL qz 0 <;> simp [q1, q2, q3])) 227 rfl ?_
              refine g_aload X156 at_227 rfl rfl 229 rfl ?_
              refine g_aload X156 at_229 rfl rfl 231 rfl ?_
              refine g_callVp X156 (hw _ (List.mem_of_getElem? (i := 150) rfl)) (hw _ (List.mem_of_getElem? (i := 151) rfl)) (hw _ (List.mem_of_getElem? (i := 153) rfl)) (hw _ (List.mem_of_getElem? (i := 152) rfl)) (hw _ (List.mem_of_getElem? (i := 31) rfl)) (hw _ (List.mem_of_getElem? (i := 154) rfl)) (nfSel (hw _ (List.mem_of_getElem? (i := 153) rfl))) (by decide) E86 (c_pe2 l Z a0 G a46 a9 s62 s70 s78 s6 s25 s33 ([]) (partL qx (1 : Int32)) (partL qy (0 : Int32)) (partL qz (0 : Int32)) (partL k0 (1 : Int32)) (partL k1 (0 : Int32)) (partL k2 (0 : Int32)) h84 E86 F87 F88 F89 ((((S64.ext E71).ext E79).keep K85 (by simp)).sub (us' := []) (by simp)) (((S72.ext E79).keep K85 (by simp)).sub (us' := []) (by simp)) ((S80.keep K85 (by simp)).sub (us' := []) (by simp)) (((((E41.ext E51).ext E63).ext E71).ext E79).keep K85) (((((F42.ext E51).ext E63).ext E71).ext E79).keep K85 (ninS ne_a9_a46 nin0)) (((((F43.ext E51).ext E63).ext E71).ext E79).keep K85 (ninS ne_a9_a46 nin0)) (((((F44.ext E51).ext E63).ext E71).ext E79).keep K85 (ninS ne_a9_a46 nin0)) (((((((((((S8.grow E14 ea12).ext E26).ext E34).keep K40 (by simp)).sub (us' := []) (by simp)).grow E51 ea49).ext E63).ext E71).ext E79).keep K85 (by simp)).sub (us' := []) (by simp)) (((((((((S27.ext E34).keep K40 (by simp)).sub (us' := []) (by simp)).grow E51 ea49).ext E63).ext E71).ext E79).keep K85 (by simp)).sub (us' := []) (by simp)) ((((((((S35.keep K40 (by simp)).sub (us' := []) (by simp)).grow E51 ea49).ext E63).ext E71).ext E79).keep K85 (by simp)).sub (us' := []) (by simp))) (by simp) (argsL := [.ref a9]) (rest := []) pd_11 rfl rfl rfl rfl 0 (Nat.le_of_eq rfl) (by decide) (by decide) (ck := 58) rfl (cs := 678) rfl (by decide) (by decide) at_231 234 rfl ?_
              intro w161 T159 X160 hq162
              subst hq162
              refine g_iload X160 at_234 rfl 236 rfl ?_
              refine g_icmpNo X160 at_236 (XT.ii_ne_f (by simp only [eq_comm (a := partL qx 1) (b := partL k0 1), eq_comm (a := partL qy 0) (b := partL k1 0), eq_comm (a := partL qz 0) (b := partL k2 0)]; revert hb185 hb195 hb205; by_cases q1 : partL k0 1 = partL qx 1 <;> by_cases q2 : partL k1 0 = partL qy 0 <;> by_cases q3 : partL k2 0 = partL qz 0 <;> simp [q1, q2, q3])) 239 rfl ?_
              refine g_aload X160 at_239 rfl rfl 241 rfl ?_
              refine g_aload X160 at_241 rfl rfl 243 rfl ?_
              refine g_callVp X160 (hw _ (List.mem_of_getElem? (i := 150) rfl)) (hw _ (List.mem_of_getElem? (i := 151) rfl)) (hw _ (List.mem_of_getElem? (i := 153) rfl)) (hw _ (List.mem_of_getElem? (i := 152) rfl)) (hw _ (List.mem_of_getElem? (i := 31) rfl)) (hw _ (List.mem_of_getElem? (i := 154) rfl)) (nfSel (hw _ (List.mem_of_getElem? (i := 153) rfl))) (by decide) (((((E41.ext E51).ext E63).ext E71).ext E79).keep K85) (c_pe2 l Z a0 G a9 a9 s6 s25 s33 s6 s25 s33 ([]) (partL k0 (1 : Int32)) (partL k1 (0 : Int32)) (partL k2 (0 : Int32)) (partL k0 (1 : Int32)) (partL k1 (0 : Int32)) (partL k2 (0 : Int32)) h84 (((((E41.ext E51).ext E63).ext E71).ext E79).keep K85) (((((F42.ext E51).ext E63).ext E71).ext E79).keep K85 (ninS ne_a9_a46 nin0)) (((((F43.ext E51).ext E63).ext E71).ext E79).keep K85 (ninS ne_a9_a46 nin0)) (((((F44.ext E51).ext E63).ext E71).ext E79).keep K85 (ninS ne_a9_a46 nin0)) (((((((((((S8.grow E14 ea12).ext E26).ext E34).keep K40 (by simp)).sub (us' := []) (by simp)).grow E51 ea49).ext E63).ext E71).ext E79).keep K85 (by simp)).sub (us' := []) (by simp)) (((((((((S27.ext E34).keep K40 (by simp)).sub (us' := []) (by simp)).grow E51 ea49).ext E63).ext E71).ext E79).keep K85 (by simp)).sub (us' := []) (by simp)) ((((((((S35.keep K40 (by simp)).sub (us' := []) (by simp)).grow E51 ea49).ext E63).ext E71).ext E79).keep K85 (by simp)).sub (us' := []) (by simp)) (((((E41.ext E51).ext E63).ext E71).ext E79).keep K85) (((((F42.ext E51).ext E63).ext E71).ext E79).keep K85 (ninS ne_a9_a46 nin0)) (((((F43.ext E51).ext E63).ext E71).ext E79).keep K85 (ninS ne_a9_a46 nin0)) (((((F44.ext E51).ext E63).ext E71).ext E79).keep K85 (ninS ne_a9_a46 nin0)) (((((((((((S8.grow E14 ea12).ext E26).ext E34).keep K40 (by simp)).sub (us' := []) (by simp)).grow E51 ea49).ext E63).ext E71).ext E79).keep K85 (by simp)).sub (us' := []) (by simp)) (((((((((S27.ext E34).keep K40 (by simp)).sub (us' := []) (by simp)).grow E51 ea49).ext E63).ext E71).ext E79).keep K85 (by simp)).sub (us' := []) (by simp)) ((((((((S35.keep K40 (by simp)).sub (us' := []) (by simp)).grow E51 ea49).ext E63).ext E71).ext E79).keep K85 (by simp)).sub (us' := []) (by simp))) (by simp) (argsL := [.ref a9]) (rest := []) pd_11 rfl rfl rfl rfl 0 (Nat.le_of_eq rfl) (by decide) (by decide) (ck := 58) rfl (cs := 678) rfl (by decide) (by decide) at_243 246 rfl ?_
              intro w165 T163 X164 hq166
              subst hq166
              refine g_ifNo X164 at_246 (XT.ii_eq_f (by simp)) 249 rfl ?_
              refine g_iconst X164 (1 : Int32) at_249 (by decide) 250 rfl ?_
              refine g_goto X164 at_250 254 (by decide) (by decide) ?_
              exact g_retN X164 (t := .boolean) rfl (by simp) at_254 _ rfl (by decide) (by decide) rfl
  refine g_iloadN X at_0 rfl 1 rfl ?_
  refine g_iconst X (1 : Int32) at_1 (by decide) 2 rfl ?_
  refine g_iand X at_2 _ rfl 3 rfl ?_
  by_cases hb3 : (k3 &&& (1 : Int32)) = (0 : Int32)
  · refine g_ifYes X at_3 (XT.ii_eq_t hb3) 10 (by decide) (by decide) ?_
    refine g_iloadN X at_10 rfl 11 rfl ?_
    refine g_iconst X (1 : Int32) at_11 (by decide) 12 rfl ?_
    refine g_iushr X at_12 _ rfl 13 rfl ?_
    refine g_istore X at_13 (Ls' := #[.val (.int k0), .val (.int k1), .val (.int k2), .val (.int k3), .val (.int k4), .val (.int k5), .val (.int (XT.ushr k3 (1 : Int32))), .unset, .unset, .unset, .unset, .unset, .unset, .unset]) rfl 15 rfl ?_
    refine g_iload X at_15 rfl 17 rfl ?_
    refine g_iconst X (1 : Int32) at_17 (by decide) 18 rfl ?_
    refine g_iand X at_18 _ rfl 19 rfl ?_
    by_cases hb19 : (k4 &&& (1 : Int32)) = (0 : Int32)
    · refine g_ifYes X at_19 (XT.ii_eq_t hb19) 26 (by decide) (by decide) ?_
      refine g_iload X at_26 rfl 28 rfl ?_
      refine g_iconst X (1 : Int32) at_28 (by decide) 29 rfl ?_
      refine g_iushr X at_29 _ rfl 30 rfl ?_
      refine g_istore X at_30 (Ls' := #[.val (.int k0), .val (.int k1), .val (.int k2), .val (.int k3), .val (.int k4), .val (.int k5), .val (.int (XT.ushr k3 (1 : Int32))), .val (.int (XT.ushr k4 (1 : Int32))), .unset, .unset, .unset, .unset, .unset, .unset]) rfl 32 rfl ?_
      refine g_iload X at_32 rfl 34 rfl ?_
      refine g_iconst X (1 : Int32) at_34 (by decide) 35 rfl ?_
      refine g_iand X at_35 _ rfl 36 rfl ?_
      by_cases hb36 : (k5 &&& (1 : Int32)) = (0 : Int32)
      · refine g_ifYes X at_36 (XT.ii_eq_t hb36) 43 (by decide) (by decide) ?_
        refine g_iload X at_43 rfl 45 rfl ?_
        refine g_iconst X (1 : Int32) at_45 (by decide) 46 rfl ?_
        refine g_iushr X at_46 _ rfl 47 rfl ?_
        refine g_istore X at_47 (Ls' := #[.val (.int k0), .val (.int k1), .val (.int k2), .val (.int k3), .val (.int k4), .val (.int k5), .val (.int (XT.ushr k3 (1 : Int32))), .val (.int (XT.ushr k4 (1 : Int32))), .val (.int (XT.ushr k5 (1 : Int32))), .unset, .unset, .unset, .unset, .unset]) rfl 49 rfl ?_
        exact rest _ _ _
      · refine g_ifNo X at_36 (XT.ii_eq_f hb36) 39 rfl ?_
        refine g_iloadN X at_39 rfl 40 rfl ?_
        refine g_goto X at_40 47 (by decide) (by decide) ?_
        refine g_istore X at_47 (Ls' := #[.val (.int k0), .val (.int k1), .val (.int k2), .val (.int k3), .val (.int k4), .val (.int k5), .val (.int (XT.ushr k3 (1 : Int32))), .val (.int (XT.ushr k4 (1 : Int32))), .val (.int k2), .unset, .unset, .unset, .unset, .unset]) rfl 49 rfl ?_
        exact rest _ _ _
    · refine g_ifNo X at_19 (XT.ii_eq_f hb19) 22 rfl ?_
      refine g_iloadN X at_22 rfl 23 rfl ?_
      refine g_goto X at_23 30 (by decide) (by decide) ?_
      refine g_istore X at_30 (Ls' := #[.val (.int k0), .val (.int k1), .val (.int k2), .val (.int k3), .val (.int k4), .val (.int k5), .val (.int (XT.ushr k3 (1 : Int32))), .val (.int k1), .unset, .unset, .unset, .unset, .unset, .unset]) rfl 32 rfl ?_
      refine g_iload X at_32 rfl 34 rfl ?_
      refine g_iconst X (1 : Int32) at_34 (by decide) 35 rfl ?_
      refine g_iand X at_35 _ rfl 36 rfl ?_
      by_cases hb36 : (k5 &&& (1 : Int32)) = (0 : Int32)
      · refine g_ifYes X at_36 (XT.ii_eq_t hb36) 43 (by decide) (by decide) ?_
        refine g_iload X at_43 rfl 45 rfl ?_
        refine g_iconst X (1 : Int32) at_45 (by decide) 46 rfl ?_
        refine g_iushr X at_46 _ rfl 47 rfl ?_
        refine g_istore X at_47 (Ls' := #[.val (.int k0), .val (.int k1), .val (.int k2), .val (.int k3), .val (.int k4), .val (.int k5), .val (.int (XT.ushr k3 (1 : Int32))), .val (.int k1), .val (.int (XT.ushr k5 (1 : Int32))), .unset, .unset, .unset, .unset, .unset]) rfl 49 rfl ?_
        exact rest _ _ _
      · refine g_ifNo X at_36 (XT.ii_eq_f hb36) 39 rfl ?_
        refine g_iloadN X at_39 rfl 40 rfl ?_
        refine g_goto X at_40 47 (by decide) (by decide) ?_
        refine g_istore X at_47 (Ls' := #[.val (.int k0), .val (.int k1), .val (.int k2), .val (.int k3), .val (.int k4), .val (.int k5), .val (.int (XT.ushr k3 (1 : Int32))), .val (.int k1), .val (.int k2), .unset, .unset, .unset, .unset, .unset]) rfl 49 rfl ?_
        exact rest _ _ _
  · refine g_ifNo X at_3 (XT.ii_eq_f hb3) 6 rfl ?_
    refine g_iloadN X at_6 rfl 7 rfl ?_
    refine g_goto X at_7 13 (by decide) (by decide) ?_
    refine g_istore X at_13 (Ls' := #[.val (.int k0), .val (.int k1), .val (.int k2), .val (.int k3), .val (.int k4), .val (.int k5), .val (.int k0), .unset, .unset, .unset, .unset, .unset, .unset, .unset]) rfl 15 rfl ?_
    refine g_iload X at_15 rfl 17 rfl ?_
    refine g_iconst X (1 : Int32) at_17 (by decide) 18 rfl ?_
    refine g_iand X at_18 _ rfl 19 rfl ?_
    by_cases hb19 : (k4 &&& (1 : Int32)) = (0 : Int32)
    · refine g_ifYes X at_19 (XT.ii_eq_t hb19) 26 (by decide) (by decide) ?_
      refine g_iload X at_26 rfl 28 rfl ?_
      refine g_iconst X (1 : Int32) at_28 (by decide) 29 rfl ?_
      refine g_iushr X at_29 _ rfl 30 rfl ?_
      refine g_istore X at_30 (Ls' := #[.val (.int k0), .val (.int k1), .val (.int k2), .val (.int k3), .val (.int k4), .val (.int k5), .val (.int k0), .val (.int (XT.ushr k4 (1 : Int32))), .unset, .unset, .unset, .unset, .unset, .unset]) rfl 32 rfl ?_
      refine g_iload X at_32 rfl 34 rfl ?_
      refine g_iconst X (1 : Int32) at_34 (by decide) 35 rfl ?_
      refine g_iand X at_35 _ rfl 36 rfl ?_
      by_cases hb36 : (k5 &&& (1 : Int32)) = (0 : Int32)
      · refine g_ifYes X at_36 (XT.ii_eq_t hb36) 43 (by decide) (by decide) ?_
        refine g_iload X at_43 rfl 45 rfl ?_
        refine g_iconst X (1 : Int32) at_45 (by decide) 46 rfl ?_
        refine g_iushr X at_46 _ rfl 47 rfl ?_
        refine g_istore X at_47 (Ls' := #[.val (.int k0), .val (.int k1), .val (.int k2), .val (.int k3), .val (.int k4), .val (.int k5), .val (.int k0), .val (.int (XT.ushr k4 (1 : Int32))), .val (.int (XT.ushr k5 (1 : Int32))), .unset, .unset, .unset, .unset, .unset]) rfl 49 rfl ?_
        exact rest _ _ _
      · refine g_ifNo X at_36 (XT.ii_eq_f hb36) 39 rfl ?_
        refine g_iloadN X at_39 rfl 40 rfl ?_
        refine g_goto X at_40 47 (by decide) (by decide) ?_
        refine g_istore X at_47 (Ls' := #[.val (.int k0), .val (.int k1), .val (.int k2), .val (.int k3), .val (.int k4), .val (.int k5), .val (.int k0), .val (.int (XT.ushr k4 (1 : Int32))), .val (.int k2), .unset, .unset, .unset, .unset, .unset]) rfl 49 rfl ?_
        exact rest _ _ _
    · refine g_ifNo X at_19 (XT.ii_eq_f hb19) 22 rfl ?_
      refine g_iloadN X at_22 rfl 23 rfl ?_
      refine g_goto X at_23 30 (by decide) (by decide) ?_
      refine g_istore X at_30 (Ls' := #[.val (.int k0), .val (.int k1), .val (.int k2), .val (.int k3), .val (.int k4), .val (.int k5), .val (.int k0), .val (.int k1), .unset, .unset, .unset, .unset, .unset, .unset]) rfl 32 rfl ?_
      refine g_iload X at_32 rfl 34 rfl ?_
      refine g_iconst X (1 : Int32) at_34 (by decide) 35 rfl ?_
      refine g_iand X at_35 _ rfl 36 rfl ?_
      by_cases hb36 : (k5 &&& (1 : Int32)) = (0 : Int32)
      · refine g_ifYes X at_36 (XT.ii_eq_t hb36) 43 (by decide) (by decide) ?_
        refine g_iload X at_43 rfl 45 rfl ?_
        refine g_iconst X (1 : Int32) at_45 (by decide) 46 rfl ?_
        refine g_iushr X at_46 _ rfl 47 rfl ?_
        refine g_istore X at_47 (Ls' := #[.val (.int k0), .val (.int k1), .val (.int k2), .val (.int k3), .val (.int k4), .val (.int k5), .val (.int k0), .val (.int k1), .val (.int (XT.ushr k5 (1 : Int32))), .unset, .unset, .unset, .unset, .unset]) rfl 49 rfl ?_
        exact rest _ _ _
      · refine g_ifNo X at_36 (XT.ii_eq_f hb36) 39 rfl ?_
        refine g_iloadN X at_39 rfl 40 rfl ?_
        refine g_goto X at_40 47 (by decide) (by decide) ?_
        refine g_istore X at_47 (Ls' := #[.val (.int k0), .val (.int k1), .val (.int k2), .val (.int k3), .val (.int k4), .val (.int k5), .val (.int k0), .val (.int k1), .val (.int k2), .unset, .unset, .unset, .unset, .unset]) rfl 49 rfl ?_
        exact rest _ _ _
set_option maxRecDepth 65536 in
set_option maxHeartbeats 40000000 in
theorem comes_1 {Post : Tables → Env → Array Value → State → Outcome → State → Prop} (hpost : ∀ tb e args s v u, (limb_1_1.after args s (.returned v) u = true ∧ limb_1_2.after args s (.returned v) u = true) → FramedW s (.returned v) u (Jvm.fieldLocs frame_1_writes args s ++ Jvm.arrayLocs frame_1_arrays args s ++ Jvm.staticLocs frame_1_statics s) 64 8448 → Post tb e args s (.returned v) u) :
    ArmFor flags0 classFile x code maxLocals ret World_1 tables_1 room_1 Calls_1 rest_1 Pre_1 Post := by
  intro l hfl _ _ p e ha hc hk s m args below hf hA hF happ hP
  obtain ⟨hcalls, hrest, hpre⟩ := hP
  obtain ⟨-, -, -, hnamed, -, -, -, hat⟩ := (Spec.applies_iff hf).mp happ
  obtain ⟨hg, hn⟩ := and_e (Cond.before_iff.mp (show (Jvm.Cond.and given_1 narrow_1).before args s = true from hpre))
  obtain ⟨h1, hg⟩ := and_e hg
  obtain ⟨w0, w1, w2, w3, w4, w5, rfl⟩ : ∃ w0 w1 w2 w3 w4 w5 : Value, args = #[w0, w1, w2, w3, w4, w5] := by
    have hs : args.size = 6 := by simpa [Cond.value, given_1] using h1
    obtain ⟨L⟩ := args
    match L, hs with
    | [w0, w1, w2, w3, w4, w5], _ => exact ⟨w0, w1, w2, w3, w4, w5, rfl⟩
  have hw := fun d (hd : d ∈ tables_1) => atoms_spec (ws := Jvm.Cond.code x code maxLocals ret :: tables_1) hat d (List.mem_cons_of_mem _ hd)
  obtain ⟨g0, hg⟩ := and_e hg
  obtain ⟨g1, hg⟩ := and_e hg
  obtain ⟨g2, hg⟩ := and_e hg
  obtain ⟨g3, hg⟩ := and_e hg
  obtain ⟨g4, hg⟩ := and_e hg
  have g5 := hg
  obtain ⟨i0, e0⟩ := is_v g0
  obtain rfl : w0 = (.int i0) := Option.some.inj e0
  obtain ⟨i1, e1⟩ := is_v g1
  obtain rfl : w1 = (.int i1) := Option.some.inj e1
  obtain ⟨i2, e2⟩ := is_v g2
  obtain rfl : w2 = (.int i2) := Option.some.inj e2
  obtain ⟨i3, e3⟩ := is_v g3
  obtain rfl : w3 = (.int i3) := Option.some.inj e3
  obtain ⟨i4, e4⟩ := is_v g4
  obtain rfl : w4 = (.int i4) := Option.some.inj e4
  obtain ⟨i5, e5⟩ := is_v g5
  obtain rfl : w5 = (.int i5) := Option.some.inj e5
  have q0 := hn
  obtain ⟨hsets, hown0⟩ := atoms_of _ (rest_1_c_eq ▸ (show rest_1_c.before _ s = true from hrest))
  obtain ⟨zc, ezc⟩ := is_v (Cond.before_iff.mp (hsets _ (List.mem_of_getElem? (i := 1) rfl)))
  have SC : Sta s s.heap "java/lang/String" "COMPACT_STRINGS" "Z" (.int zc) := Sta.start ezc (Or.inl (hsets _ (List.mem_of_getElem? (i := 0) rfl)))
  have hz : ¬ zc = 0 := fun q => by
    have n5 := not_v (Cond.before_iff.mp (hsets _ (List.mem_of_getElem? (i := 2) rfl)))
    exact absurd q (gotF (Cond.eq_ints ezc (Term.int_eval 0)) n5)
  obtain ⟨fm, efm, hfm⟩ := isR_v (Cond.before_iff.mp (hsets _ (List.mem_of_getElem? (i := 8) rfl)))
  have SF : Sta s s.heap "jdk/internal/util/Preconditions" "SIOOBE_FORMATTER" "Ljava/util/function/BiFunction;" fm := Sta.start efm (Or.inl (hsets _ (List.mem_of_getElem? (i := 7) rfl)))
  have hSA : ∀ a ∈ Bundle.stringAtoms, a.before _ s = true := fun d hd => hw d ((by decide +kernel : ∀ d ∈ Bundle.stringAtoms, d ∈ tables_1) d hd)
  have hEW : EW s _ EL := (EW.cons (hw _ (List.mem_of_getElem? (i := 115) rfl)) (by decide) (EW.cons (hw _ (List.mem_of_getElem? (i := 55) rfl)) (by decide) (EW.cons (hw _ (List.mem_of_getElem? (i := 56) rfl)) (by decide) (EW.cons (hw _ (List.mem_of_getElem? (i := 79) rfl)) (by decide) (EW.cons (hw _ (List.mem_of_getElem? (i := 80) rfl)) (by decide) (EW.cons (hw _ (List.mem_of_getElem? (i := 81) rfl)) (by decide) (EW.cons (hw _ (List.mem_of_getElem? (i := 82) rfl)) (by decide) (EW.cons (hw _ (List.mem_of_getElem? (i := 21) rfl)) (by decide) EW.nil))))))))
  have G : Gl s #[.int i0, .int i1, .int i2, .int i3, .int i4, .int i5] := ⟨hw, hEW, hSA, ⟨zc, SC, hz⟩, ⟨fm, SF, hfm⟩⟩
  obtain ⟨n, o, h1, h2, h3, v, L, rfl, hQ, N, -, -, hq, hnw⟩ := c_law l s _ G i0 i1 i2 i3 i4 i5 s.heap tables_1 p e ha hc hk s m _ below hf ((Spec.applies_iff_loose hf).mp happ).1 ⟨rfl, State.Warmed39.refl s, rfl, Ext.refl _, (CHv.start hEW (fun p hp => hcalls.1 p hp) (hsets _ (List.mem_of_getElem? (i := 2) rfl)) (hw _ (List.mem_of_getElem? (i := 22) rfl)) (hw _ (List.mem_of_getElem? (i := 8) rfl))), fun _ q => nomatch q⟩ trivial
  obtain ⟨rfl⟩ : v = some (.int 1) := hQ
  exact ⟨n, _, h1, h2, h3, hpost _ _ _ _ _ _ ⟨Cond.after_iff.mpr rfl, Cond.after_iff.mpr (eq_i res_at (Term.int_eval (1)) rfl)⟩ ⟨hq.1, hq.2.1, hq.2.2.1, (hq.2.2.2.sift fun y hy => Or.inr (N y hy)).mono (by decide) (by decide)⟩⟩
theorem main_1_1 : Claimed_1_1 := comes_1 fun _ _ _ _ _ _ h hF => ⟨h.1, hF⟩
theorem main_1_2 : Claimed_1_2 := comes_1 fun _ _ _ _ _ _ h hF => ⟨h.2, hF⟩
end Jvm.Pilot.@@N@@
namespace Jvm.Pilot.@@N@@
open Jvm Jvm.ClassFile Sem Op Lib Jvm.Free Jvm.Stand Jvm.Pilot.@@N@@.Jvm.D
/-! MADE BY PROGRAM (witnessworld.py) out of the Statement's table words and the real class files: 24 classes; the members and pool entries that the words name. The judged class is class 1, her method 5. -/
namespace start1
open Jvm.ClassFile
def u (s : String) : CpInfo := .utf8 (stringToUtf16 s)
/-- a pool by its gaps: so many unusable entries, then the entry; so many at the end -/
def gap : Nat → List CpInfo → List CpInfo
  | 0, r => r
  | n + 1, r => .unusable :: gap n r
def poolList (es : List (Nat × CpInfo)) (last : Nat) : List CpInfo := es.foldr (fun e r => gap e.1 (e.2 :: r)) (gap last [])
def pool (es : List (Nat × CpInfo)) (last : Nat) : Array CpInfo := ⟨poolList es last⟩
def fileOf (pool : Array CpInfo) (this : Nat) (attrs : Array Attribute := #[]) (ms : Array MethodInfo := #[]) (fl : Nat := 33) (sup : Nat := 0) (ifs : Array Nat := #[]) (fds : Array FieldInfo := #[]) : ClassFile where
  minorVersion := 0
  majorVersion := 65
  constantPool := pool
  accessFlags := fl
  thisClass := this
  superClass := sup
  interfaces := ifs
  fields := fds
  methods := ms
  attributes := attrs
def plain (name : String) (sup : Option ClassId) : Class where
  name := name
  kind := .ordinary
  loader := none
  accessFlags := 33
  super := sup
  interfaces := #[]
  cf := none
  fields := #[]
  methods := #[]
  instanceTypes := #[]
  staticTypes := #[]
  resolved := #[]
  callSites := []
  init := .initialized
  statics := none
  mirror := none

def pool0 : Array CpInfo := pool [(5, u "<init>"), (0, u "()V"), (1, .class_ 10), (1, u "java/lang/Object")] 113

def k0c0 : Code := { maxStack := 0, maxLocals := 1, code := object_method_1_code, exceptionTable := #[], attributes := #[] }
def k0m0 : Method := { name := "<init>", desc := "()V", sig := { parameters := [], returnType := none }, accessFlags := 1, code := some k0c0 }
/-- java/lang/Object -/
def k0 : Class := { plain "java/lang/Object" none with
  accessFlags := 33
  interfaces := #[]
  cf := some (fileOf pool0 8 #[] #[{ accessFlags := 1, nameIndex := 5, descriptorIndex := 6, attributes := #[] }] 33 0 #[] #[])
  fields := #[]
  methods := #[k0m0]
  instanceTypes := #[]
  staticTypes := #[]
  resolved := Array.replicate 124 none
  statics := none }

def pool1 : Array CpInfo := pool [(2, .class_ 4), (1, u "java/lang/Object"), (0, u "<init>"), (0, u "()V"), (0, .methodref 8 9), (0, .class_ 10), (0, .nameAndType 11 12), (0, u "com/example/pegwright/pegwright/PegEqualsPinLaw"), (0, u "len"), (0, u "(I)I"), (0, .class_ 14), (0, u "java/lang/String"), (0, .methodref 13 16), (0, .nameAndType 5 17), (0, u "([C)V"), (0, .methodref 8 19), (0, .nameAndType 20 21), (0, u "ch"), (0, u "(IZ)C"), (0, .methodref 8 23), (0, .nameAndType 24 25), (0, u "part"), (0, u "(IZ)Ljava/lang/String;"), (0, .class_ 27), (0, u "com/example/pegwright/pegwright/Peg"), (0, .methodref 26 29), (0, .nameAndType 5 30), (0, u "(Ljava/lang/String;Ljava/lang/String;Ljava/lang/String;)V"), (0, .methodref 26 32), (0, .nameAndType 33 34), (0, u "equals"), (0, u "(Ljava/lang/Object;)Z"), (0, .methodref 8 36), (0, .nameAndType 37 38), (0, u "samePart"), (0, u "(IIZ)Z"), (3, u "law"), (0, u "(IIIIII)Z")] 2

def k1m0 : Method := { name := "<init>", desc := "()V", sig := { parameters := [], returnType := none }, accessFlags := 1, code := none }
def k1c1 : Code := { maxStack := 2, maxLocals := 3, code := method_2_code, exceptionTable := #[], attributes := #[] }
def k1m1 : Method := { name := "ch", desc := "(IZ)C", sig := { parameters := [.int, .boolean], returnType := some .char }, accessFlags := 10, code := some k1c1 }
def k1c2 : Code := { maxStack := 2, maxLocals := 1, code := method_3_code, exceptionTable := #[], attributes := #[] }
def k1m2 : Method := { name := "len", desc := "(I)I", sig := { parameters := [.int], returnType := some .int }, accessFlags := 10, code := some k1c2 }
def k1c3 : Code := { maxStack := 4, maxLocals := 4, code := method_4_code, exceptionTable := #[], attributes := #[] }
def k1m3 : Method := { name := "part", desc := "(IZ)Ljava/lang/String;", sig := { parameters := [.int, .boolean], returnType := some (.object "java/lang/String") }, accessFlags := 10, code := some k1c3 }
def k1c4 : Code := { maxStack := 3, maxLocals := 5, code := method_5_code, exceptionTable := #[], attributes := #[] }
def k1m4 : Method := { name := "samePart", desc := "(IIZ)Z", sig := { parameters := [.int, .int, .boolean], returnType := some .boolean }, accessFlags := 10, code := some k1c4 }
def k1c5 : Code := { maxStack := 6, maxLocals := 14, code := code, exceptionTable := #[], attributes := #[] }
def k1m5 : Method := { name := "law", desc := "(IIIIII)Z", sig := { parameters := [.int, .int, .int, .int, .int, .int], returnType := some .boolean }, accessFlags := 9, code := some k1c5 }
/-- com/example/pegwright/pegwright/PegEqualsPinLaw -/
def k1 : Class := { plain "com/example/pegwright/pegwright/PegEqualsPinLaw" (some 0) with
  accessFlags := 49
  interfaces := #[]
  cf := some (fileOf pool1 8 #[] #[{ accessFlags := 1, nameIndex := 5, descriptorIndex := 6, attributes := #[] }, { accessFlags := 10, nameIndex := 20, descriptorIndex := 21, attributes := #[] }, { accessFlags := 10, nameIndex := 11, descriptorIndex := 12, attributes := #[] }, { accessFlags := 10, nameIndex := 24, descriptorIndex := 25, attributes := #[] }, { accessFlags := 10, nameIndex := 37, descriptorIndex := 38, attributes := #[] }, { accessFlags := 9, nameIndex := 42, descriptorIndex := 43, attributes := #[] }] 49 2 #[] #[])
  fields := #[]
  methods := #[k1m0, k1m1, k1m2, k1m3, k1m4, k1m5]
  instanceTypes := #[]
  staticTypes := #[]
  resolved := Array.replicate 46 none
  statics := none }

def pool2 : Array CpInfo := pool [(1, .class_ 2), (0, u "java/io/Serializable"), (0, .class_ 4), (0, u "java/lang/Object")] 2

/-- java/io/Serializable -/
def k2 : Class := { plain "java/io/Serializable" (some 0) with
  accessFlags := 1537
  interfaces := #[]
  cf := some (fileOf pool2 1 #[] #[] 1537 3 #[] #[])
  fields := #[]
  methods := #[]
  instanceTypes := #[]
  staticTypes := #[]
  resolved := Array.replicate 7 none
  statics := none }

def pool3 : Array CpInfo := pool [(1, .class_ 2), (0, u "java/lang/Comparable"), (0, .class_ 4), (0, u "java/lang/Object")] 7

/-- java/lang/Comparable -/
def k3 : Class := { plain "java/lang/Comparable" (some 0) with
  accessFlags := 1537
  interfaces := #[]
  cf := some (fileOf pool3 1 #[] #[] 1537 3 #[] #[])
  fields := #[]
  methods := #[]
  instanceTypes := #[]
  staticTypes := #[]
  resolved := Array.replicate 12 none
  statics := none }

def pool4 : Array CpInfo := pool [(2, .class_ 4), (1, u "java/lang/CharSequence"), (42, .class_ 48), (0, u "java/lang/CharSequence$1CodePointIterator"), (10, .class_ 60), (0, u "java/lang/CharSequence$1CharIterator"), (5, .class_ 67), (0, u "java/lang/Object"), (10, u "toString"), (0, u "()Ljava/lang/String;")] 51

def k4m0 : Method := { name := "toString", desc := "()Ljava/lang/String;", sig := { parameters := [], returnType := some (.object "java/lang/String") }, accessFlags := 1025, code := none }
/-- java/lang/CharSequence -/
def k4 : Class := { plain "java/lang/CharSequence" (some 0) with
  accessFlags := 1537
  interfaces := #[]
  cf := some (fileOf pool4 2 #[.nestMembers #[47, 59]] #[{ accessFlags := 1025, nameIndex := 78, descriptorIndex := 79, attributes := #[] }] 1537 66 #[] #[])
  fields := #[]
  methods := #[k4m0]
  instanceTypes := #[]
  staticTypes := #[]
  resolved := Array.replicate 131 none
  statics := none }

def pool5 : Array CpInfo := pool [(1, .class_ 2), (0, u "java/lang/constant/Constable"), (0, .class_ 4), (0, u "java/lang/Object")] 6

/-- java/lang/constant/Constable -/
def k5 : Class := { plain "java/lang/constant/Constable" (some 0) with
  accessFlags := 1537
  interfaces := #[]
  cf := some (fileOf pool5 1 #[] #[] 1537 3 #[] #[])
  fields := #[]
  methods := #[]
  instanceTypes := #[]
  staticTypes := #[]
  resolved := Array.replicate 11 none
  statics := none }

def pool6 : Array CpInfo := pool [(1, .class_ 2), (0, u "java/lang/constant/ConstantDesc"), (0, .class_ 4), (0, u "java/lang/Object")] 32

/-- java/lang/constant/ConstantDesc -/
def k6 : Class := { plain "java/lang/constant/ConstantDesc" (some 0) with
  accessFlags := 1537
  interfaces := #[]
  cf := some (fileOf pool6 1 #[] #[] 1537 3 #[] #[])
  fields := #[]
  methods := #[]
  instanceTypes := #[]
  staticTypes := #[]
  resolved := Array.replicate 37 none
  statics := none }

def pool7 : Array CpInfo := pool [(1, .methodref 2 3), (0, .class_ 4), (0, .nameAndType 5 6), (0, u "java/lang/Object"), (0, u "<init>"), (0, u "()V"), (0, .string 8), (0, u ""), (0, .fieldref 10 11), (0, .class_ 12), (0, .nameAndType 13 14), (0, u "java/lang/String"), (0, u "value"), (0, u "[B"), (0, .fieldref 10 16), (0, .nameAndType 17 18), (0, u "coder"), (0, u "B"), (2, u "hash"), (0, u "I"), (2, u "hashIsZero"), (0, u "Z"), (0, .methodref 10 28), (0, .nameAndType 5 29), (0, u "([CIILjava/lang/Void;)V"), (8, .fieldref 10 39), (0, .nameAndType 40 26), (0, u "COMPACT_STRINGS"), (1, .class_ 44), (1, u "java/lang/StringUTF16"), (0, u "compress"), (1, .methodref 42 48), (0, .nameAndType 49 50), (0, u "coderFromArrayLen"), (0, u "([BI)B"), (56, .class_ 109), (1, u "java/lang/StringLatin1"), (32, u "()Z"), (34, .methodref 42 178), (0, .nameAndType 45 179), (0, u "([CII)[B"), (154, u "()I"), (0, .methodref 10 336), (0, .nameAndType 17 337), (0, u "()B"), (25, u "([BI)C"), (27, u "(II)V"), (35, u "(I)C"), (34, .nameAndType 463 464), (0, u "toString"), (0, u "()Ljava/lang/String;"), (27, .methodref 10 493), (0, .nameAndType 494 142), (0, u "isLatin1"), (0, .methodref 107 496), (0, .nameAndType 497 363), (0, u "charAt"), (3, u "checkIndex"), (5, u "length"), (33, .methodref 107 542), (0, .nameAndType 543 544), (0, u "equals"), (0, u "([B[B)Z"), (3, u "(Ljava/lang/CharSequence;)Z"), (24, u "(Ljava/lang/Object;)Z"), (1, .class_ 576), (0, u "java/lang/CharSequence"), (12, u "([B[B)I"), (9, u "CASE_INSENSITIVE_ORDER"), (0, u "Ljava/util/Comparator;"), (34, u "indexOf"), (11, .methodref 107 648), (0, .nameAndType 635 589), (61, .interfaceMethodref 575 462), (0, .methodref 10 712), (0, .nameAndType 635 713), (0, u "(Ljava/lang/String;)I"), (296, u "([C)V"), (42, .fieldref 1054 1055), (0, .class_ 1056), (0, .nameAndType 1057 1058), (0, u "jdk/internal/util/Preconditions"), (0, u "SIOOBE_FORMATTER"), (0, u "Ljava/util/function/BiFunction;"), (0, .methodref 1054 1060), (0, .nameAndType 501 1061), (0, u "(IILjava/util/function/BiFunction;)I"), (39, u "serialPersistentFields"), (0, u "[Ljava/io/ObjectStreamField;"), (0, .class_ 1104), (0, u "java/lang/String$CaseInsensitiveComparator"), (1, .class_ 1107), (0, u "java/io/Serializable"), (0, .class_ 1109), (0, u "java/lang/Comparable"), (0, .class_ 1111), (0, u "java/lang/constant/Constable"), (0, .class_ 1113), (0, u "java/lang/constant/ConstantDesc"), (2, u "serialVersionUID"), (0, u "J"), (3, u "REPL"), (0, u "C"), (2, u "LATIN1"), (1, u "UTF16"), (163, u "contains")] 159

def k7m0 : Method := { name := "<init>", desc := "()V", sig := { parameters := [], returnType := none }, accessFlags := 1, code := none }
def k7c1 : Code := { maxStack := 5, maxLocals := 2, code := jdk_42_method_3_code, exceptionTable := #[], attributes := #[] }
def k7m1 : Method := { name := "<init>", desc := "([C)V", sig := { parameters := [(.array .char)], returnType := none }, accessFlags := 1, code := some k7c1 }
def k7c2 : Code := { maxStack := 2, maxLocals := 1, code := jdk_42_method_54_code, exceptionTable := #[], attributes := #[] }
def k7m2 : Method := { name := "length", desc := "()I", sig := { parameters := [], returnType := some .int }, accessFlags := 1, code := some k7c2 }
def k7c3 : Code := { maxStack := 2, maxLocals := 2, code := jdk_42_method_56_code, exceptionTable := #[], attributes := #[] }
def k7m3 : Method := { name := "charAt", desc := "(I)C", sig := { parameters := [.int], returnType := some .char }, accessFlags := 1, code := some k7c3 }
def k7c4 : Code := { maxStack := 2, maxLocals := 3, code := jdk_42_method_66_code, exceptionTable := #[], attributes := #[] }
def k7m4 : Method := { name := "equals", desc := "(Ljava/lang/Object;)Z", sig := { parameters := [(.object "java/lang/Object")], returnType := some .boolean }, accessFlags := 1, code := some k7c4 }
def k7c5 : Code := { maxStack := 2, maxLocals := 3, code := jdk_42_method_84_code, exceptionTable := #[], attributes := #[] }
def k7m5 : Method := { name := "indexOf", desc := "(Ljava/lang/String;)I", sig := { parameters := [(.object "java/lang/String")], returnType := some .int }, accessFlags := 1, code := some k7c5 }
def k7c6 : Code := { maxStack := 2, maxLocals := 2, code := jdk_42_method_97_code, exceptionTable := #[], attributes := #[] }
def k7m6 : Method := { name := "contains", desc := "(Ljava/lang/CharSequence;)Z", sig := { parameters := [(.object "java/lang/CharSequence")], returnType := some .boolean }, accessFlags := 1, code := some k7c6 }
def k7c7 : Code := { maxStack := 1, maxLocals := 1, code := jdk_42_method_126_code, exceptionTable := #[], attributes := #[] }
def k7m7 : Method := { name := "toString", desc := "()Ljava/lang/String;", sig := { parameters := [], returnType := some (.object "java/lang/String") }, accessFlags := 1, code := some k7c7 }
def k7c8 : Code := { maxStack := 4, maxLocals := 6, code := jdk_42_method_149_code, exceptionTable := #[], attributes := #[] }
def k7m8 : Method := { name := "<init>", desc := "([CIILjava/lang/Void;)V", sig := { parameters := [(.array .char), .int, .int, (.object "java/lang/Void")], returnType := none }, accessFlags := 2, code := some k7c8 }
def k7c9 : Code := { maxStack := 1, maxLocals := 1, code := jdk_42_method_152_code, exceptionTable := #[], attributes := #[] }
def k7m9 : Method := { name := "coder", desc := "()B", sig := { parameters := [], returnType := some .byte }, accessFlags := 0, code := some k7c9 }
def k7c10 : Code := { maxStack := 1, maxLocals := 1, code := jdk_42_method_154_code, exceptionTable := #[], attributes := #[] }
def k7m10 : Method := { name := "isLatin1", desc := "()Z", sig := { parameters := [], returnType := some .boolean }, accessFlags := 0, code := some k7c10 }
def k7c11 : Code := { maxStack := 3, maxLocals := 2, code := jdk_42_method_155_code, exceptionTable := #[], attributes := #[] }
def k7m11 : Method := { name := "checkIndex", desc := "(II)V", sig := { parameters := [.int, .int], returnType := none }, accessFlags := 8, code := some k7c11 }
/-- java/lang/String -/
def k7 : Class := { plain "java/lang/String" (some 0) with
  accessFlags := 49
  interfaces := #[2, 3, 4, 5, 6]
  cf := some (fileOf pool7 10 #[.nestMembers #[1103]] #[{ accessFlags := 1, nameIndex := 5, descriptorIndex := 6, attributes := #[] }, { accessFlags := 1, nameIndex := 5, descriptorIndex := 1010, attributes := #[] }, { accessFlags := 1, nameIndex := 507, descriptorIndex := 334, attributes := #[] }, { accessFlags := 1, nameIndex := 497, descriptorIndex := 427, attributes := #[] }, { accessFlags := 1, nameIndex := 543, descriptorIndex := 573, attributes := #[] }, { accessFlags := 1, nameIndex := 635, descriptorIndex := 713, attributes := #[] }, { accessFlags := 1, nameIndex := 1291, descriptorIndex := 548, attributes := #[] }, { accessFlags := 1, nameIndex := 463, descriptorIndex := 464, attributes := #[] }, { accessFlags := 2, nameIndex := 5, descriptorIndex := 29, attributes := #[] }, { accessFlags := 0, nameIndex := 17, descriptorIndex := 337, attributes := #[] }, { accessFlags := 0, nameIndex := 494, descriptorIndex := 142, attributes := #[] }, { accessFlags := 8, nameIndex := 501, descriptorIndex := 391, attributes := #[] }] 49 2 #[1106, 1108, 575, 1110, 1112] #[{ accessFlags := 18, nameIndex := 13, descriptorIndex := 14, attributes := #[] }, { accessFlags := 18, nameIndex := 17, descriptorIndex := 18, attributes := #[] }, { accessFlags := 2, nameIndex := 21, descriptorIndex := 22, attributes := #[] }, { accessFlags := 2, nameIndex := 25, descriptorIndex := 26, attributes := #[] }, { accessFlags := 26, nameIndex := 1116, descriptorIndex := 1117, attributes := #[] }, { accessFlags := 24, nameIndex := 40, descriptorIndex := 26, attributes := #[] }, { accessFlags := 26, nameIndex := 1101, descriptorIndex := 1102, attributes := #[] }, { accessFlags := 26, nameIndex := 1121, descriptorIndex := 1122, attributes := #[] }, { accessFlags := 25, nameIndex := 599, descriptorIndex := 600, attributes := #[] }, { accessFlags := 24, nameIndex := 1125, descriptorIndex := 18, attributes := #[] }, { accessFlags := 24, nameIndex := 1127, descriptorIndex := 18, attributes := #[] }])
  fields := #[{ name := "value", type := (.array .byte), accessFlags := 18, slot := 0, constantValue := 0 }, { name := "coder", type := .byte, accessFlags := 18, slot := 1, constantValue := 0 }, { name := "hash", type := .int, accessFlags := 2, slot := 2, constantValue := 0 }, { name := "hashIsZero", type := .boolean, accessFlags := 2, slot := 3, constantValue := 0 }, { name := "serialVersionUID", type := .long, accessFlags := 26, slot := 0, constantValue := 0 }, { name := "COMPACT_STRINGS", type := .boolean, accessFlags := 24, slot := 1, constantValue := 0 }, { name := "serialPersistentFields", type := (.array (.object "java/io/ObjectStreamField")), accessFlags := 26, slot := 2, constantValue := 0 }, { name := "REPL", type := .char, accessFlags := 26, slot := 3, constantValue := 0 }, { name := "CASE_INSENSITIVE_ORDER", type := (.object "java/util/Comparator"), accessFlags := 25, slot := 4, constantValue := 0 }, { name := "LATIN1", type := .byte, accessFlags := 24, slot := 5, constantValue := 0 }, { name := "UTF16", type := .byte, accessFlags := 24, slot := 6, constantValue := 0 }]
  methods := #[k7m0, k7m1, k7m2, k7m3, k7m4, k7m5, k7m6, k7m7, k7m8, k7m9, k7m10, k7m11]
  instanceTypes := #[(.array .byte), .byte, .int, .boolean]
  staticTypes := #[.long, .boolean, (.array (.object "java/io/ObjectStreamField")), .char, (.object "java/util/Comparator"), .byte, .byte]
  resolved := Array.replicate 1451 none
  statics := some 0 }

def pool8 : Array CpInfo := pool [(1, .methodref 2 3), (0, .class_ 4), (0, .nameAndType 5 6), (0, u "java/lang/Object"), (0, u "<init>"), (0, u "()V"), (0, .class_ 8), (0, u "java/lang/Record")] 13

def k8c0 : Code := { maxStack := 1, maxLocals := 1, code := jdk_30_method_1_code, exceptionTable := #[], attributes := #[] }
def k8m0 : Method := { name := "<init>", desc := "()V", sig := { parameters := [], returnType := none }, accessFlags := 4, code := some k8c0 }
/-- java/lang/Record -/
def k8 : Class := { plain "java/lang/Record" (some 0) with
  accessFlags := 1057
  interfaces := #[]
  cf := some (fileOf pool8 7 #[] #[{ accessFlags := 4, nameIndex := 5, descriptorIndex := 6, attributes := #[] }] 1057 2 #[] #[])
  fields := #[]
  methods := #[k8m0]
  instanceTypes := #[]
  staticTypes := #[]
  resolved := Array.replicate 22 none
  statics := none }

def pool9 : Array CpInfo := pool [(1, .methodref 2 3), (0, .class_ 4), (0, .nameAndType 5 6), (0, u "java/lang/Record"), (0, u "<init>"), (0, u "()V"), (0, .class_ 8), (0, u "com/example/pegwright/pegwright/Peg"), (0, .string 10), (0, u "a peg's project"), (0, .string 12), (0, u "project"), (0, .methodref 14 15), (0, .class_ 16), (0, .nameAndType 17 18), (0, u "java/util/Objects"), (0, u "requireNonNull"), (0, u "(Ljava/lang/Object;Ljava/lang/String;)Ljava/lang/Object;"), (0, .class_ 20), (0, u "java/lang/String"), (0, .methodref 22 23), (0, .class_ 24), (0, .nameAndType 25 26), (0, u "com/example/pegwright/pegwright/Names"), (0, u "requireNoControlCharacter"), (0, u "(Ljava/lang/String;Ljava/lang/String;)Ljava/lang/String;"), (0, .string 28), (0, u "a peg's element"), (0, .string 30), (0, u "element"), (0, .string 32), (0, u "a peg's activity"), (0, .string 34), (0, u "activity"), (0, .methodref 22 36), (0, .nameAndType 37 26), (0, u "requireNoSlash"), (0, .fieldref 7 39), (0, .nameAndType 12 40), (0, u "Ljava/lang/String;"), (0, .fieldref 7 42), (0, .nameAndType 30 40), (0, .fieldref 7 44), (0, .nameAndType 34 40), (21, u "(Ljava/lang/String;Ljava/lang/String;Ljava/lang/String;)V"), (13, .methodref 19 81), (0, .nameAndType 82 83), (0, u "equals"), (0, u "(Ljava/lang/Object;)Z"), (17, u "UNPEGGED"), (0, u "Lcom/example/pegwright/pegwright/Peg;"), (0, u "PROJECT"), (1, u "ELEMENT"), (0, u "ACTIVITY")] 44

def k9c0 : Code := { maxStack := 3, maxLocals := 4, code := prog_17_method_1_code, exceptionTable := #[], attributes := #[] }
def k9m0 : Method := { name := "<init>", desc := "(Ljava/lang/String;Ljava/lang/String;Ljava/lang/String;)V", sig := { parameters := [(.object "java/lang/String"), (.object "java/lang/String"), (.object "java/lang/String")], returnType := none }, accessFlags := 1, code := some k9c0 }
def k9c1 : Code := { maxStack := 2, maxLocals := 3, code := prog_17_method_4_code, exceptionTable := #[], attributes := #[] }
def k9m1 : Method := { name := "equals", desc := "(Ljava/lang/Object;)Z", sig := { parameters := [(.object "java/lang/Object")], returnType := some .boolean }, accessFlags := 1, code := some k9c1 }
/-- com/example/pegwright/pegwright/Peg -/
def k9 : Class := { plain "com/example/pegwright/pegwright/Peg" (some 8) with
  accessFlags := 49
  interfaces := #[]
  cf := some (fileOf pool9 7 #[] #[{ accessFlags := 1, nameIndex := 5, descriptorIndex := 66, attributes := #[] }, { accessFlags := 1, nameIndex := 82, descriptorIndex := 83, attributes := #[] }] 49 2 #[] #[{ accessFlags := 18, nameIndex := 12, descriptorIndex := 40, attributes := #[] }, { accessFlags := 18, nameIndex := 30, descriptorIndex := 40, attributes := #[] }, { accessFlags := 18, nameIndex := 34, descriptorIndex := 40, attributes := #[] }, { accessFlags := 25, nameIndex := 101, descriptorIndex := 102, attributes := #[] }, { accessFlags := 26, nameIndex := 103, descriptorIndex := 40, attributes := #[] }, { accessFlags := 26, nameIndex := 105, descriptorIndex := 40, attributes := #[] }, { accessFlags := 26, nameIndex := 106, descriptorIndex := 40, attributes := #[] }])
  fields := #[{ name := "project", type := (.object "java/lang/String"), accessFlags := 18, slot := 0, constantValue := 0 }, { name := "element", type := (.object "java/lang/String"), accessFlags := 18, slot := 1, constantValue := 0 }, { name := "activity", type := (.object "java/lang/String"), accessFlags := 18, slot := 2, constantValue := 0 }, { name := "UNPEGGED", type := (.object "com/example/pegwright/pegwright/Peg"), accessFlags := 25, slot := 0, constantValue := 0 }, { name := "PROJECT", type := (.object "java/lang/String"), accessFlags := 26, slot := 1, constantValue := 0 }, { name := "ELEMENT", type := (.object "java/lang/String"), accessFlags := 26, slot := 2, constantValue := 0 }, { name := "ACTIVITY", type := (.object "java/lang/String"), accessFlags := 26, slot := 3, constantValue := 0 }]
  methods := #[k9m0, k9m1]
  instanceTypes := #[(.object "java/lang/String"), (.object "java/lang/String"), (.object "java/lang/String")]
  staticTypes := #[(.object "com/example/pegwright/pegwright/Peg"), (.object "java/lang/String"), (.object "java/lang/String"), (.object "java/lang/String")]
  resolved := Array.replicate 151 none
  statics := none }

def pool10 : Array CpInfo := pool [(6, .class_ 8), (1, u "java/lang/Object"), (0, u "<init>"), (0, u "()V"), (1, .class_ 14), (1, u "java/lang/StringUTF16"), (31, u "$assertionsDisabled"), (0, u "Z"), (13, u "HI_BYTE_SHIFT"), (0, u "I"), (2, u "LO_BYTE_SHIFT"), (49, .methodref 12 116), (0, .nameAndType 117 118), (0, u "compress"), (0, u "([CI[BII)I"), (3, u "([CII)[B"), (138, u "coderFromArrayLen"), (0, u "([BI)B"), (106, .class_ 371), (1, u "java/lang/StringUTF16$LinesSpliterator"), (58, u "MAX_LENGTH"), (196, .class_ 628), (0, u "java/lang/StringUTF16$CodePointsSpliterator"), (0, .class_ 630), (0, u "java/lang/StringUTF16$CharsSpliterator")] 4

def k10m0 : Method := { name := "<init>", desc := "()V", sig := { parameters := [], returnType := none }, accessFlags := 0, code := none }
def k10c1 : Code := { maxStack := 2, maxLocals := 2, code := jdk_52_method_15_code, exceptionTable := #[], attributes := #[] }
def k10m1 : Method := { name := "coderFromArrayLen", desc := "([BI)B", sig := { parameters := [(.array .byte), .int], returnType := some .byte }, accessFlags := 8, code := some k10c1 }
def k10c2 : Code := { maxStack := 5, maxLocals := 6, code := jdk_52_method_16_code, exceptionTable := #[], attributes := #[] }
def k10m2 : Method := { name := "compress", desc := "([CII)[B", sig := { parameters := [(.array .char), .int, .int], returnType := some (.array .byte) }, accessFlags := 9, code := some k10c2 }
def k10c3 : Code := { maxStack := 3, maxLocals := 7, code := jdk_52_method_21_code, exceptionTable := #[], attributes := #[] }
def k10m3 : Method := { name := "compress", desc := "([CI[BII)I", sig := { parameters := [(.array .char), .int, (.array .byte), .int, .int], returnType := some .int }, accessFlags := 9, code := some k10c3 }
/-- java/lang/StringUTF16 -/
def k10 : Class := { plain "java/lang/StringUTF16" (some 0) with
  accessFlags := 48
  interfaces := #[]
  cf := some (fileOf pool10 12 #[.nestMembers #[627, 629, 369]] #[{ accessFlags := 0, nameIndex := 9, descriptorIndex := 10, attributes := #[] }, { accessFlags := 8, nameIndex := 261, descriptorIndex := 262, attributes := #[] }, { accessFlags := 9, nameIndex := 117, descriptorIndex := 122, attributes := #[] }, { accessFlags := 9, nameIndex := 117, descriptorIndex := 118, attributes := #[] }] 48 6 #[] #[{ accessFlags := 26, nameIndex := 61, descriptorIndex := 62, attributes := #[] }, { accessFlags := 26, nameIndex := 65, descriptorIndex := 62, attributes := #[] }, { accessFlags := 24, nameIndex := 430, descriptorIndex := 62, attributes := #[] }, { accessFlags := 4120, nameIndex := 46, descriptorIndex := 47, attributes := #[] }])
  fields := #[{ name := "HI_BYTE_SHIFT", type := .int, accessFlags := 26, slot := 0, constantValue := 0 }, { name := "LO_BYTE_SHIFT", type := .int, accessFlags := 26, slot := 1, constantValue := 0 }, { name := "MAX_LENGTH", type := .int, accessFlags := 24, slot := 2, constantValue := 0 }, { name := "$assertionsDisabled", type := .boolean, accessFlags := 4120, slot := 3, constantValue := 0 }]
  methods := #[k10m0, k10m1, k10m2, k10m3]
  instanceTypes := #[]
  staticTypes := #[.int, .int, .int, .boolean]
  resolved := Array.replicate 635 none
  statics := none }

def pool11 : Array CpInfo := pool [(2, .class_ 4), (1, u "java/lang/Object"), (0, u "<init>"), (0, u "()V"), (35, .class_ 44), (1, u "java/util/Objects"), (0, u "requireNonNull"), (48, u "(Ljava/lang/Object;Ljava/lang/String;)Ljava/lang/Object;")] 89

def k11m0 : Method := { name := "<init>", desc := "()V", sig := { parameters := [], returnType := none }, accessFlags := 2, code := none }
def k11c1 : Code := { maxStack := 3, maxLocals := 2, code := jdk_31_method_11_code, exceptionTable := #[], attributes := #[] }
def k11m1 : Method := { name := "requireNonNull", desc := "(Ljava/lang/Object;Ljava/lang/String;)Ljava/lang/Object;", sig := { parameters := [(.object "java/lang/Object"), (.object "java/lang/String")], returnType := some (.object "java/lang/Object") }, accessFlags := 9, code := some k11c1 }
/-- java/util/Objects -/
def k11 : Class := { plain "java/util/Objects" (some 0) with
  accessFlags := 49
  interfaces := #[]
  cf := some (fileOf pool11 42 #[] #[{ accessFlags := 2, nameIndex := 5, descriptorIndex := 6, attributes := #[] }, { accessFlags := 9, nameIndex := 45, descriptorIndex := 94, attributes := #[] }] 49 2 #[] #[])
  fields := #[]
  methods := #[k11m0, k11m1]
  instanceTypes := #[]
  staticTypes := #[]
  resolved := Array.replicate 184 none
  statics := none }

def pool12 : Array CpInfo := pool [(2, .class_ 4), (1, u "java/lang/Object"), (0, u "<init>"), (0, u "()V"), (0, .methodref 8 9), (0, .class_ 10), (0, .nameAndType 11 12), (0, u "java/lang/String"), (0, u "length"), (0, u "()I"), (0, .methodref 8 14), (0, .nameAndType 15 16), (0, u "charAt"), (0, u "(I)C"), (0, .methodref 18 19), (0, .class_ 20), (0, .nameAndType 21 22), (0, u "java/lang/Character"), (0, u "isISOControl"), (0, u "(C)Z"), (3, .class_ 28), (1, u "com/example/pegwright/pegwright/Names"), (0, u "requireNoControlCharacter"), (0, u "(Ljava/lang/String;Ljava/lang/String;)Ljava/lang/String;"), (2, .methodref 26 34), (0, .nameAndType 35 36), (0, u "holdsControlCharacter"), (0, u "(Ljava/lang/String;)Z"), (13, .string 51), (0, u "/"), (46, .methodref 8 99), (0, .nameAndType 100 101), (0, u "contains"), (0, u "(Ljava/lang/CharSequence;)Z"), (1, u "SLASH"), (0, u "Ljava/lang/String;"), (11, u "requireNoSlash")] 21

def k12m0 : Method := { name := "<init>", desc := "()V", sig := { parameters := [], returnType := none }, accessFlags := 2, code := none }
def k12c1 : Code := { maxStack := 2, maxLocals := 2, code := prog_14_method_2_code, exceptionTable := #[], attributes := #[] }
def k12m1 : Method := { name := "holdsControlCharacter", desc := "(Ljava/lang/String;)Z", sig := { parameters := [(.object "java/lang/String")], returnType := some .boolean }, accessFlags := 9, code := some k12c1 }
def k12c2 : Code := { maxStack := 4, maxLocals := 2, code := prog_14_method_5_code, exceptionTable := #[], attributes := #[] }
def k12m2 : Method := { name := "requireNoControlCharacter", desc := "(Ljava/lang/String;Ljava/lang/String;)Ljava/lang/String;", sig := { parameters := [(.object "java/lang/String"), (.object "java/lang/String")], returnType := some (.object "java/lang/String") }, accessFlags := 8, code := some k12c2 }
def k12c3 : Code := { maxStack := 4, maxLocals := 2, code := prog_14_method_8_code, exceptionTable := #[], attributes := #[] }
def k12m3 : Method := { name := "requireNoSlash", desc := "(Ljava/lang/String;Ljava/lang/String;)Ljava/lang/String;", sig := { parameters := [(.object "java/lang/String"), (.object "java/lang/String")], returnType := some (.object "java/lang/String") }, accessFlags := 8, code := some k12c3 }
/-- com/example/pegwright/pegwright/Names -/
def k12 : Class := { plain "com/example/pegwright/pegwright/Names" (some 0) with
  accessFlags := 49
  interfaces := #[]
  cf := some (fileOf pool12 26 #[] #[{ accessFlags := 2, nameIndex := 5, descriptorIndex := 6, attributes := #[] }, { accessFlags := 9, nameIndex := 35, descriptorIndex := 36, attributes := #[] }, { accessFlags := 8, nameIndex := 29, descriptorIndex := 30, attributes := #[] }, { accessFlags := 8, nameIndex := 116, descriptorIndex := 30, attributes := #[] }] 49 2 #[] #[{ accessFlags := 26, nameIndex := 103, descriptorIndex := 104, attributes := #[] }])
  fields := #[{ name := "SLASH", type := (.object "java/lang/String"), accessFlags := 26, slot := 0, constantValue := 0 }]
  methods := #[k12m0, k12m1, k12m2, k12m3]
  instanceTypes := #[]
  staticTypes := #[(.object "java/lang/String")]
  resolved := Array.replicate 138 none
  statics := none }

def pool13 : Array CpInfo := pool [(1, .class_ 2), (0, u "java/lang/String"), (1, .class_ 6), (1, u "java/lang/Object"), (0, u "<init>"), (0, u "()V"), (0, .methodref 1 10), (0, .nameAndType 11 12), (0, u "checkIndex"), (0, u "(II)V"), (1, .class_ 16), (1, u "java/lang/StringLatin1"), (36, u "([BI)C"), (45, .methodref 14 100), (0, .nameAndType 101 102), (0, u "indexOf"), (0, u "([BI[BII)I"), (18, u "$assertionsDisabled"), (0, u "Z"), (98, .class_ 223), (1, u "java/lang/StringLatin1$LinesSpliterator"), (28, u "charAt"), (28, u "equals"), (0, u "([B[B)Z"), (4, u "([B[B)I"), (102, .class_ 391), (0, u "java/lang/StringLatin1$CharsSpliterator")] 3

def k13m0 : Method := { name := "<init>", desc := "()V", sig := { parameters := [], returnType := none }, accessFlags := 0, code := none }
def k13c1 : Code := { maxStack := 2, maxLocals := 2, code := jdk_43_method_2_code, exceptionTable := #[], attributes := #[] }
def k13m1 : Method := { name := "charAt", desc := "([BI)C", sig := { parameters := [(.array .byte), .int], returnType := some .char }, accessFlags := 9, code := some k13c1 }
def k13c2 : Code := { maxStack := 3, maxLocals := 3, code := jdk_43_method_13_code, exceptionTable := #[], attributes := #[] }
def k13m2 : Method := { name := "equals", desc := "([B[B)Z", sig := { parameters := [(.array .byte), (.array .byte)], returnType := some .boolean }, accessFlags := 9, code := some k13c2 }
def k13c3 : Code := { maxStack := 5, maxLocals := 2, code := jdk_43_method_24_code, exceptionTable := #[], attributes := #[] }
def k13m3 : Method := { name := "indexOf", desc := "([B[B)I", sig := { parameters := [(.array .byte), (.array .byte)], returnType := some .int }, accessFlags := 9, code := some k13c3 }
def k13c4 : Code := { maxStack := 3, maxLocals := 11, code := jdk_43_method_25_code, exceptionTable := #[], attributes := #[] }
def k13m4 : Method := { name := "indexOf", desc := "([BI[BII)I", sig := { parameters := [(.array .byte), .int, (.array .byte), .int, .int], returnType := some .int }, accessFlags := 9, code := some k13c4 }
/-- java/lang/StringLatin1 -/
def k13 : Class := { plain "java/lang/StringLatin1" (some 0) with
  accessFlags := 48
  interfaces := #[]
  cf := some (fileOf pool13 14 #[.nestMembers #[390, 221]] #[{ accessFlags := 0, nameIndex := 7, descriptorIndex := 8, attributes := #[] }, { accessFlags := 9, nameIndex := 252, descriptorIndex := 53, attributes := #[] }, { accessFlags := 9, nameIndex := 281, descriptorIndex := 282, attributes := #[] }, { accessFlags := 9, nameIndex := 101, descriptorIndex := 287, attributes := #[] }, { accessFlags := 9, nameIndex := 101, descriptorIndex := 102, attributes := #[] }] 48 4 #[] #[{ accessFlags := 4120, nameIndex := 121, descriptorIndex := 122, attributes := #[] }])
  fields := #[{ name := "$assertionsDisabled", type := .boolean, accessFlags := 4120, slot := 0, constantValue := 0 }]
  methods := #[k13m0, k13m1, k13m2, k13m3, k13m4]
  instanceTypes := #[]
  staticTypes := #[.boolean]
  resolved := Array.replicate 395 none
  statics := none }

def pool14 : Array CpInfo := pool [(2, .class_ 4), (1, u "java/lang/Object"), (0, u "<init>"), (0, u "()V"), (17, .class_ 26), (1, u "jdk/internal/util/Preconditions"), (6, u "checkIndex"), (21, .class_ 56), (0, u "jdk/internal/util/Preconditions$4"), (57, .class_ 115), (0, u "jdk/internal/util/Preconditions$1"), (7, u "SIOOBE_FORMATTER"), (0, u "Ljava/util/function/BiFunction;"), (0, .class_ 126), (0, u "jdk/internal/util/Preconditions$2"), (3, u "AIOOBE_FORMATTER"), (0, .class_ 132), (0, u "jdk/internal/util/Preconditions$3"), (3, u "IOOBE_FORMATTER"), (41, u "(IILjava/util/function/BiFunction;)I")] 15

def k14m0 : Method := { name := "<init>", desc := "()V", sig := { parameters := [], returnType := none }, accessFlags := 1, code := none }
def k14c1 : Code := { maxStack := 3, maxLocals := 3, code := jdk_41_method_11_code, exceptionTable := #[], attributes := #[] }
def k14m1 : Method := { name := "checkIndex", desc := "(IILjava/util/function/BiFunction;)I", sig := { parameters := [.int, .int, (.object "java/util/function/BiFunction")], returnType := some .int }, accessFlags := 9, code := some k14c1 }
/-- jdk/internal/util/Preconditions -/
def k14 : Class := { plain "jdk/internal/util/Preconditions" (some 0) with
  accessFlags := 33
  interfaces := #[]
  cf := some (fileOf pool14 24 #[.nestMembers #[55, 131, 125, 114]] #[{ accessFlags := 1, nameIndex := 5, descriptorIndex := 6, attributes := #[] }, { accessFlags := 9, nameIndex := 33, descriptorIndex := 178, attributes := #[] }] 33 2 #[] #[{ accessFlags := 25, nameIndex := 123, descriptorIndex := 124, attributes := #[] }, { accessFlags := 25, nameIndex := 130, descriptorIndex := 124, attributes := #[] }, { accessFlags := 25, nameIndex := 136, descriptorIndex := 124, attributes := #[] }])
  fields := #[{ name := "SIOOBE_FORMATTER", type := (.object "java/util/function/BiFunction"), accessFlags := 25, slot := 0, constantValue := 0 }, { name := "AIOOBE_FORMATTER", type := (.object "java/util/function/BiFunction"), accessFlags := 25, slot := 1, constantValue := 0 }, { name := "IOOBE_FORMATTER", type := (.object "java/util/function/BiFunction"), accessFlags := 25, slot := 2, constantValue := 0 }]
  methods := #[k14m0, k14m1]
  instanceTypes := #[]
  staticTypes := #[(.object "java/util/function/BiFunction"), (.object "java/util/function/BiFunction"), (.object "java/util/function/BiFunction")]
  resolved := Array.replicate 194 none
  statics := some 1 }

def pool15 : Array CpInfo := pool [(1, .class_ 2), (0, u "java/lang/Character"), (18, u "value"), (0, u "C"), (19, .class_ 44), (1, u "java/lang/Object"), (3, .class_ 50), (1, u "java/lang/Character$CharacterCache"), (30, u "(C)Z"), (32, u "(I)Z"), (151, .methodref 1 267), (0, .nameAndType 268 114), (0, u "isISOControl"), (15, u "$assertionsDisabled"), (0, u "Z"), (21, .class_ 309), (1, u "java/lang/Character$UnicodeBlock"), (73, u "TYPE"), (0, u "Ljava/lang/Class;"), (0, .class_ 386), (0, u "java/io/Serializable"), (0, .class_ 388), (0, u "java/lang/Comparable"), (0, .class_ 390), (0, u "java/lang/constant/Constable"), (0, u "MIN_RADIX"), (0, u "I"), (2, u "MAX_RADIX"), (1, u "MIN_VALUE"), (1, u "MAX_VALUE"), (3, u "UNASSIGNED"), (0, u "B"), (0, u "UPPERCASE_LETTER"), (1, u "LOWERCASE_LETTER"), (0, u "TITLECASE_LETTER"), (1, u "MODIFIER_LETTER"), (1, u "OTHER_LETTER"), (1, u "NON_SPACING_MARK"), (1, u "ENCLOSING_MARK"), (1, u "COMBINING_SPACING_MARK"), (1, u "DECIMAL_DIGIT_NUMBER"), (1, u "LETTER_NUMBER"), (1, u "OTHER_NUMBER"), (1, u "SPACE_SEPARATOR"), (1, u "LINE_SEPARATOR"), (1, u "PARAGRAPH_SEPARATOR"), (1, u "CONTROL"), (1, u "FORMAT"), (1, u "PRIVATE_USE"), (1, u "SURROGATE"), (1, u "DASH_PUNCTUATION"), (1, u "START_PUNCTUATION"), (1, u "END_PUNCTUATION"), (1, u "CONNECTOR_PUNCTUATION"), (1, u "OTHER_PUNCTUATION"), (1, u "MATH_SYMBOL"), (1, u "CURRENCY_SYMBOL"), (1, u "MODIFIER_SYMBOL"), (1, u "OTHER_SYMBOL"), (1, u "INITIAL_QUOTE_PUNCTUATION"), (1, u "FINAL_QUOTE_PUNCTUATION"), (1, u "ERROR"), (1, u "DIRECTIONALITY_UNDEFINED"), (0, u "DIRECTIONALITY_LEFT_TO_RIGHT"), (0, u "DIRECTIONALITY_RIGHT_TO_LEFT"), (0, u "DIRECTIONALITY_RIGHT_TO_LEFT_ARABIC"), (0, u "DIRECTIONALITY_EUROPEAN_NUMBER"), (0, u "DIRECTIONALITY_EUROPEAN_NUMBER_SEPARATOR"), (0, u "DIRECTIONALITY_EUROPEAN_NUMBER_TERMINATOR"), (0, u "DIRECTIONALITY_ARABIC_NUMBER"), (0, u "DIRECTIONALITY_COMMON_NUMBER_SEPARATOR"), (0, u "DIRECTIONALITY_NONSPACING_MARK"), (0, u "DIRECTIONALITY_BOUNDARY_NEUTRAL"), (0, u "DIRECTIONALITY_PARAGRAPH_SEPARATOR"), (0, u "DIRECTIONALITY_SEGMENT_SEPARATOR"), (0, u "DIRECTIONALITY_WHITESPACE"), (0, u "DIRECTIONALITY_OTHER_NEUTRALS"), (0, u "DIRECTIONALITY_LEFT_TO_RIGHT_EMBEDDING"), (0, u "DIRECTIONALITY_LEFT_TO_RIGHT_OVERRIDE"), (0, u "DIRECTIONALITY_RIGHT_TO_LEFT_EMBEDDING"), (0, u "DIRECTIONALITY_RIGHT_TO_LEFT_OVERRIDE"), (1, u "DIRECTIONALITY_POP_DIRECTIONAL_FORMAT"), (0, u "DIRECTIONALITY_LEFT_TO_RIGHT_ISOLATE"), (0, u "DIRECTIONALITY_RIGHT_TO_LEFT_ISOLATE"), (0, u "DIRECTIONALITY_FIRST_STRONG_ISOLATE"), (0, u "DIRECTIONALITY_POP_DIRECTIONAL_ISOLATE"), (0, u "MIN_HIGH_SURROGATE"), (0, u "MAX_HIGH_SURROGATE"), (1, u "MIN_LOW_SURROGATE"), (0, u "MAX_LOW_SURROGATE"), (1, u "MIN_SURROGATE"), (0, u "MAX_SURROGATE"), (0, u "MIN_SUPPLEMENTARY_CODE_POINT"), (0, u "MIN_CODE_POINT"), (0, u "MAX_CODE_POINT"), (1, u "serialVersionUID"), (0, u "J"), (2, u "SIZE"), (0, u "BYTES"), (88, .class_ 596), (0, u "java/lang/Character$UnicodeScript"), (0, .class_ 598), (0, u "java/lang/Character$Subset")] 5

def k15c0 : Code := { maxStack := 1, maxLocals := 1, code := jdk_89_method_88_code, exceptionTable := #[], attributes := #[] }
def k15m0 : Method := { name := "isISOControl", desc := "(C)Z", sig := { parameters := [.char], returnType := some .boolean }, accessFlags := 9, code := some k15c0 }
def k15c1 : Code := { maxStack := 2, maxLocals := 1, code := jdk_89_method_89_code, exceptionTable := #[], attributes := #[] }
def k15m1 : Method := { name := "isISOControl", desc := "(I)Z", sig := { parameters := [.int], returnType := some .boolean }, accessFlags := 9, code := some k15c1 }
/-- java/lang/Character -/
def k15 : Class := { plain "java/lang/Character" (some 0) with
  accessFlags := 49
  interfaces := #[2, 3, 5]
  cf := some (fileOf pool15 1 #[.nestMembers #[48, 595, 307, 597]] #[{ accessFlags := 9, nameIndex := 268, descriptorIndex := 81, attributes := #[] }, { accessFlags := 9, nameIndex := 268, descriptorIndex := 114, attributes := #[] }] 49 42 #[385, 387, 389] #[{ accessFlags := 25, nameIndex := 391, descriptorIndex := 392, attributes := #[] }, { accessFlags := 25, nameIndex := 395, descriptorIndex := 392, attributes := #[] }, { accessFlags := 25, nameIndex := 397, descriptorIndex := 22, attributes := #[] }, { accessFlags := 25, nameIndex := 399, descriptorIndex := 22, attributes := #[] }, { accessFlags := 25, nameIndex := 383, descriptorIndex := 384, attributes := #[] }, { accessFlags := 25, nameIndex := 403, descriptorIndex := 404, attributes := #[] }, { accessFlags := 25, nameIndex := 405, descriptorIndex := 404, attributes := #[] }, { accessFlags := 25, nameIndex := 407, descriptorIndex := 404, attributes := #[] }, { accessFlags := 25, nameIndex := 408, descriptorIndex := 404, attributes := #[] }, { accessFlags := 25, nameIndex := 410, descriptorIndex := 404, attributes := #[] }, { accessFlags := 25, nameIndex := 412, descriptorIndex := 404, attributes := #[] }, { accessFlags := 25, nameIndex := 414, descriptorIndex := 404, attributes := #[] }, { accessFlags := 25, nameIndex := 416, descriptorIndex := 404, attributes := #[] }, { accessFlags := 25, nameIndex := 418, descriptorIndex := 404, attributes := #[] }, { accessFlags := 25, nameIndex := 420, descriptorIndex := 404, attributes := #[] }, { accessFlags := 25, nameIndex := 422, descriptorIndex := 404, attributes := #[] }, { accessFlags := 25, nameIndex := 424, descriptorIndex := 404, attributes := #[] }, { accessFlags := 25, nameIndex := 426, descriptorIndex := 404, attributes := #[] }, { accessFlags := 25, nameIndex := 428, descriptorIndex := 404, attributes := #[] }, { accessFlags := 25, nameIndex := 430, descriptorIndex := 404, attributes := #[] }, { accessFlags := 25, nameIndex := 432, descriptorIndex := 404, attributes := #[] }, { accessFlags := 25, nameIndex := 434, descriptorIndex := 404, attributes := #[] }, { accessFlags := 25, nameIndex := 436, descriptorIndex := 404, attributes := #[] }, { accessFlags := 25, nameIndex := 438, descriptorIndex := 404, attributes := #[] }, { accessFlags := 25, nameIndex := 440, descriptorIndex := 404, attributes := #[] }, { accessFlags := 25, nameIndex := 442, descriptorIndex := 404, attributes := #[] }, { accessFlags := 25, nameIndex := 444, descriptorIndex := 404, attributes := #[] }, { accessFlags := 25, nameIndex := 446, descriptorIndex := 404, attributes := #[] }, { accessFlags := 25, nameIndex := 448, descriptorIndex := 404, attributes := #[] }, { accessFlags := 25, nameIndex := 450, descriptorIndex := 404, attributes := #[] }, { accessFlags := 25, nameIndex := 452, descriptorIndex := 404, attributes := #[] }, { accessFlags := 25, nameIndex := 454, descriptorIndex := 404, attributes := #[] }, { accessFlags := 25, nameIndex := 456, descriptorIndex := 404, attributes := #[] }, { accessFlags := 25, nameIndex := 458, descriptorIndex := 404, attributes := #[] }, { accessFlags := 25, nameIndex := 460, descriptorIndex := 404, attributes := #[] }, { accessFlags := 24, nameIndex := 462, descriptorIndex := 392, attributes := #[] }, { accessFlags := 25, nameIndex := 464, descriptorIndex := 404, attributes := #[] }, { accessFlags := 25, nameIndex := 465, descriptorIndex := 404, attributes := #[] }, { accessFlags := 25, nameIndex := 466, descriptorIndex := 404, attributes := #[] }, { accessFlags := 25, nameIndex := 467, descriptorIndex := 404, attributes := #[] }, { accessFlags := 25, nameIndex := 468, descriptorIndex := 404, attributes := #[] }, { accessFlags := 25, nameIndex := 469, descriptorIndex := 404, attributes := #[] }, { accessFlags := 25, nameIndex := 470, descriptorIndex := 404, attributes := #[] }, { accessFlags := 25, nameIndex := 471, descriptorIndex := 404, attributes := #[] }, { accessFlags := 25, nameIndex := 472, descriptorIndex := 404, attributes := #[] }, { accessFlags := 25, nameIndex := 473, descriptorIndex := 404, attributes := #[] }, { accessFlags := 25, nameIndex := 474, descriptorIndex := 404, attributes := #[] }, { accessFlags := 25, nameIndex := 475, descriptorIndex := 404, attributes := #[] }, { accessFlags := 25, nameIndex := 476, descriptorIndex := 404, attributes := #[] }, { accessFlags := 25, nameIndex := 477, descriptorIndex := 404, attributes := #[] }, { accessFlags := 25, nameIndex := 478, descriptorIndex := 404, attributes := #[] }, { accessFlags := 25, nameIndex := 479, descriptorIndex := 404, attributes := #[] }, { accessFlags := 25, nameIndex := 480, descriptorIndex := 404, attributes := #[] }, { accessFlags := 25, nameIndex := 481, descriptorIndex := 404, attributes := #[] }, { accessFlags := 25, nameIndex := 482, descriptorIndex := 404, attributes := #[] }, { accessFlags := 25, nameIndex := 484, descriptorIndex := 404, attributes := #[] }, { accessFlags := 25, nameIndex := 485, descriptorIndex := 404, attributes := #[] }, { accessFlags := 25, nameIndex := 486, descriptorIndex := 404, attributes := #[] }, { accessFlags := 25, nameIndex := 487, descriptorIndex := 404, attributes := #[] }, { accessFlags := 25, nameIndex := 488, descriptorIndex := 404, attributes := #[] }, { accessFlags := 25, nameIndex := 489, descriptorIndex := 22, attributes := #[] }, { accessFlags := 25, nameIndex := 490, descriptorIndex := 22, attributes := #[] }, { accessFlags := 25, nameIndex := 492, descriptorIndex := 22, attributes := #[] }, { accessFlags := 25, nameIndex := 493, descriptorIndex := 22, attributes := #[] }, { accessFlags := 25, nameIndex := 495, descriptorIndex := 22, attributes := #[] }, { accessFlags := 25, nameIndex := 496, descriptorIndex := 22, attributes := #[] }, { accessFlags := 25, nameIndex := 497, descriptorIndex := 392, attributes := #[] }, { accessFlags := 25, nameIndex := 498, descriptorIndex := 392, attributes := #[] }, { accessFlags := 25, nameIndex := 499, descriptorIndex := 392, attributes := #[] }, { accessFlags := 18, nameIndex := 21, descriptorIndex := 22, attributes := #[] }, { accessFlags := 26, nameIndex := 501, descriptorIndex := 502, attributes := #[] }, { accessFlags := 25, nameIndex := 505, descriptorIndex := 392, attributes := #[] }, { accessFlags := 25, nameIndex := 506, descriptorIndex := 392, attributes := #[] }, { accessFlags := 4120, nameIndex := 284, descriptorIndex := 285, attributes := #[] }])
  fields := #[{ name := "MIN_RADIX", type := .int, accessFlags := 25, slot := 0, constantValue := 0 }, { name := "MAX_RADIX", type := .int, accessFlags := 25, slot := 1, constantValue := 0 }, { name := "MIN_VALUE", type := .char, accessFlags := 25, slot := 2, constantValue := 0 }, { name := "MAX_VALUE", type := .char, accessFlags := 25, slot := 3, constantValue := 0 }, { name := "TYPE", type := (.object "java/lang/Class"), accessFlags := 25, slot := 4, constantValue := 0 }, { name := "UNASSIGNED", type := .byte, accessFlags := 25, slot := 5, constantValue := 0 }, { name := "UPPERCASE_LETTER", type := .byte, accessFlags := 25, slot := 6, constantValue := 0 }, { name := "LOWERCASE_LETTER", type := .byte, accessFlags := 25, slot := 7, constantValue := 0 }, { name := "TITLECASE_LETTER", type := .byte, accessFlags := 25, slot := 8, constantValue := 0 }, { name := "MODIFIER_LETTER", type := .byte, accessFlags := 25, slot := 9, constantValue := 0 }, { name := "OTHER_LETTER", type := .byte, accessFlags := 25, slot := 10, constantValue := 0 }, { name := "NON_SPACING_MARK", type := .byte, accessFlags := 25, slot := 11, constantValue := 0 }, { name := "ENCLOSING_MARK", type := .byte, accessFlags := 25, slot := 12, constantValue := 0 }, { name := "COMBINING_SPACING_MARK", type := .byte, accessFlags := 25, slot := 13, constantValue := 0 }, { name := "DECIMAL_DIGIT_NUMBER", type := .byte, accessFlags := 25, slot := 14, constantValue := 0 }, { name := "LETTER_NUMBER", type := .byte, accessFlags := 25, slot := 15, constantValue := 0 }, { name := "OTHER_NUMBER", type := .byte, accessFlags := 25, slot := 16, constantValue := 0 }, { name := "SPACE_SEPARATOR", type := .byte, accessFlags := 25, slot := 17, constantValue := 0 }, { name := "LINE_SEPARATOR", type := .byte, accessFlags := 25, slot := 18, constantValue := 0 }, { name := "PARAGRAPH_SEPARATOR", type := .byte, accessFlags := 25, slot := 19, constantValue := 0 }, { name := "CONTROL", type := .byte, accessFlags := 25, slot := 20, constantValue := 0 }, { name := "FORMAT", type := .byte, accessFlags := 25, slot := 21, constantValue := 0 }, { name := "PRIVATE_USE", type := .byte, accessFlags := 25, slot := 22, constantValue := 0 }, { name := "SURROGATE", type := .byte, accessFlags := 25, slot := 23, constantValue := 0 }, { name := "DASH_PUNCTUATION", type := .byte, accessFlags := 25, slot := 24, constantValue := 0 }, { name := "START_PUNCTUATION", type := .byte, accessFlags := 25, slot := 25, constantValue := 0 }, { name := "END_PUNCTUATION", type := .byte, accessFlags := 25, slot := 26, constantValue := 0 }, { name := "CONNECTOR_PUNCTUATION", type := .byte, accessFlags := 25, slot := 27, constantValue := 0 }, { name := "OTHER_PUNCTUATION", type := .byte, accessFlags := 25, slot := 28, constantValue := 0 }, { name := "MATH_SYMBOL", type := .byte, accessFlags := 25, slot := 29, constantValue := 0 }, { name := "CURRENCY_SYMBOL", type := .byte, accessFlags := 25, slot := 30, constantValue := 0 }, { name := "MODIFIER_SYMBOL", type := .byte, accessFlags := 25, slot := 31, constantValue := 0 }, { name := "OTHER_SYMBOL", type := .byte, accessFlags := 25, slot := 32, constantValue := 0 }, { name := "INITIAL_QUOTE_PUNCTUATION", type := .byte, accessFlags := 25, slot := 33, constantValue := 0 }, { name := "FINAL_QUOTE_PUNCTUATION", type := .byte, accessFlags := 25, slot := 34, constantValue := 0 }, { name := "ERROR", type := .int, accessFlags := 24, slot := 35, constantValue := 0 }, { name := "DIRECTIONALITY_UNDEFINED", type := .byte, accessFlags := 25, slot := 36, constantValue := 0 }, { name := "DIRECTIONALITY_LEFT_TO_RIGHT", type := .byte, accessFlags := 25, slot := 37, constantValue := 0 }, { name := "DIRECTIONALITY_RIGHT_TO_LEFT", type := .byte, accessFlags := 25, slot := 38, constantValue := 0 }, { name := "DIRECTIONALITY_RIGHT_TO_LEFT_ARABIC", type := .byte, accessFlags := 25, slot := 39, constantValue := 0 }, { name := "DIRECTIONALITY_EUROPEAN_NUMBER", type := .byte, accessFlags := 25, slot := 40, constantValue := 0 }, { name := "DIRECTIONALITY_EUROPEAN_NUMBER_SEPARATOR", type := .byte, accessFlags := 25, slot := 41, constantValue := 0 }, { name := "DIRECTIONALITY_EUROPEAN_NUMBER_TERMINATOR", type := .byte, accessFlags := 25, slot := 42, constantValue := 0 }, { name := "DIRECTIONALITY_ARABIC_NUMBER", type := .byte, accessFlags := 25, slot := 43, constantValue := 0 }, { name := "DIRECTIONALITY_COMMON_NUMBER_SEPARATOR", type := .byte, accessFlags := 25, slot := 44, constantValue := 0 }, { name := "DIRECTIONALITY_NONSPACING_MARK", type := .byte, accessFlags := 25, slot := 45, constantValue := 0 }, { name := "DIRECTIONALITY_BOUNDARY_NEUTRAL", type := .byte, accessFlags := 25, slot := 46, constantValue := 0 }, { name := "DIRECTIONALITY_PARAGRAPH_SEPARATOR", type := .byte, accessFlags := 25, slot := 47, constantValue := 0 }, { name := "DIRECTIONALITY_SEGMENT_SEPARATOR", type := .byte, accessFlags := 25, slot := 48, constantValue := 0 }, { name := "DIRECTIONALITY_WHITESPACE", type := .byte, accessFlags := 25, slot := 49, constantValue := 0 }, { name := "DIRECTIONALITY_OTHER_NEUTRALS", type := .byte, accessFlags := 25, slot := 50, constantValue := 0 }, { name := "DIRECTIONALITY_LEFT_TO_RIGHT_EMBEDDING", type := .byte, accessFlags := 25, slot := 51, constantValue := 0 }, { name := "DIRECTIONALITY_LEFT_TO_RIGHT_OVERRIDE", type := .byte, accessFlags := 25, slot := 52, constantValue := 0 }, { name := "DIRECTIONALITY_RIGHT_TO_LEFT_EMBEDDING", type := .byte, accessFlags := 25, slot := 53, constantValue := 0 }, { name := "DIRECTIONALITY_RIGHT_TO_LEFT_OVERRIDE", type := .byte, accessFlags := 25, slot := 54, constantValue := 0 }, { name := "DIRECTIONALITY_POP_DIRECTIONAL_FORMAT", type := .byte, accessFlags := 25, slot := 55, constantValue := 0 }, { name := "DIRECTIONALITY_LEFT_TO_RIGHT_ISOLATE", type := .byte, accessFlags := 25, slot := 56, constantValue := 0 }, { name := "DIRECTIONALITY_RIGHT_TO_LEFT_ISOLATE", type := .byte, accessFlags := 25, slot := 57, constantValue := 0 }, { name := "DIRECTIONALITY_FIRST_STRONG_ISOLATE", type := .byte, accessFlags := 25, slot := 58, constantValue := 0 }, { name := "DIRECTIONALITY_POP_DIRECTIONAL_ISOLATE", type := .byte, accessFlags := 25, slot := 59, constantValue := 0 }, { name := "MIN_HIGH_SURROGATE", type := .char, accessFlags := 25, slot := 60, constantValue := 0 }, { name := "MAX_HIGH_SURROGATE", type := .char, accessFlags := 25, slot := 61, constantValue := 0 }, { name := "MIN_LOW_SURROGATE", type := .char, accessFlags := 25, slot := 62, constantValue := 0 }, { name := "MAX_LOW_SURROGATE", type := .char, accessFlags := 25, slot := 63, constantValue := 0 }, { name := "MIN_SURROGATE", type := .char, accessFlags := 25, slot := 64, constantValue := 0 }, { name := "MAX_SURROGATE", type := .char, accessFlags := 25, slot := 65, constantValue := 0 }, { name := "MIN_SUPPLEMENTARY_CODE_POINT", type := .int, accessFlags := 25, slot := 66, constantValue := 0 }, { name := "MIN_CODE_POINT", type := .int, accessFlags := 25, slot := 67, constantValue := 0 }, { name := "MAX_CODE_POINT", type := .int, accessFlags := 25, slot := 68, constantValue := 0 }, { name := "value", type := .char, accessFlags := 18, slot := 0, constantValue := 0 }, { name := "serialVersionUID", type := .long, accessFlags := 26, slot := 69, constantValue := 0 }, { name := "SIZE", type := .int, accessFlags := 25, slot := 70, constantValue := 0 }, { name := "BYTES", type := .int, accessFlags := 25, slot := 71, constantValue := 0 }, { name := "$assertionsDisabled", type := .boolean, accessFlags := 4120, slot := 72, constantValue := 0 }]
  methods := #[k15m0, k15m1]
  instanceTypes := #[.char]
  staticTypes := #[.int, .int, .char, .char, (.object "java/lang/Class"), .byte, .byte, .byte, .byte, .byte, .byte, .byte, .byte, .byte, .byte, .byte, .byte, .byte, .byte, .byte, .byte, .byte, .byte, .byte, .byte, .byte, .byte, .byte, .byte, .byte, .byte, .byte, .byte, .byte, .byte, .int, .byte, .byte, .byte, .byte, .byte, .byte, .byte, .byte, .byte, .byte, .byte, .byte, .byte, .byte, .byte, .byte, .byte, .byte, .byte, .byte, .byte, .byte, .byte, .byte, .char, .char, .char, .char, .char, .char, .int, .int, .int, .long, .int, .int, .boolean]
  resolved := Array.replicate 604 none
  statics := none }

def pool16 : Array CpInfo := pool [(9, u "<init>"), (6, .class_ 18), (1, u "java/lang/Object"), (0, u "()V"), (1, .class_ 23), (1, u "jdk/internal/util/ArraysSupport"), (0, u "LOG2_ARRAY_LONG_INDEX_SCALE"), (0, u "I"), (2, u "U"), (0, u "Ljdk/internal/misc/Unsafe;"), (8, u "BIG_ENDIAN"), (0, u "Z"), (8, u "LOG2_BYTE_BIT_SIZE"), (4, u "LOG2_ARRAY_INT_INDEX_SCALE"), (54, u "JLA"), (0, u "Ljdk/internal/access/JavaLangAccess;"), (11, u "LOG2_ARRAY_BOOLEAN_INDEX_SCALE"), (9, u "LOG2_ARRAY_BYTE_INDEX_SCALE"), (5, u "LOG2_ARRAY_CHAR_INDEX_SCALE"), (5, u "LOG2_ARRAY_SHORT_INDEX_SCALE"), (18, u "LOG2_ARRAY_FLOAT_INDEX_SCALE"), (24, u "LOG2_ARRAY_DOUBLE_INDEX_SCALE"), (89, u "T_BOOLEAN"), (2, u "T_CHAR"), (1, u "T_FLOAT"), (1, u "T_DOUBLE"), (1, u "T_BYTE"), (1, u "T_SHORT"), (1, u "T_INT"), (1, u "T_LONG"), (1, u "SOFT_MAX_ARRAY_LENGTH")] 83

def k16m0 : Method := { name := "<init>", desc := "()V", sig := { parameters := [], returnType := none }, accessFlags := 2, code := none }
/-- jdk/internal/util/ArraysSupport -/
def k16 : Class := { plain "jdk/internal/util/ArraysSupport" (some 0) with
  accessFlags := 33
  interfaces := #[]
  cf := some (fileOf pool16 21 #[] #[{ accessFlags := 2, nameIndex := 9, descriptorIndex := 19, attributes := #[] }] 33 16 #[] #[{ accessFlags := 24, nameIndex := 28, descriptorIndex := 29, attributes := #[] }, { accessFlags := 26, nameIndex := 38, descriptorIndex := 39, attributes := #[] }, { accessFlags := 25, nameIndex := 121, descriptorIndex := 25, attributes := #[] }, { accessFlags := 25, nameIndex := 131, descriptorIndex := 25, attributes := #[] }, { accessFlags := 25, nameIndex := 137, descriptorIndex := 25, attributes := #[] }, { accessFlags := 25, nameIndex := 143, descriptorIndex := 25, attributes := #[] }, { accessFlags := 25, nameIndex := 53, descriptorIndex := 25, attributes := #[] }, { accessFlags := 25, nameIndex := 24, descriptorIndex := 25, attributes := #[] }, { accessFlags := 25, nameIndex := 162, descriptorIndex := 25, attributes := #[] }, { accessFlags := 25, nameIndex := 187, descriptorIndex := 25, attributes := #[] }, { accessFlags := 26, nameIndex := 48, descriptorIndex := 25, attributes := #[] }, { accessFlags := 25, nameIndex := 277, descriptorIndex := 25, attributes := #[] }, { accessFlags := 25, nameIndex := 280, descriptorIndex := 25, attributes := #[] }, { accessFlags := 25, nameIndex := 282, descriptorIndex := 25, attributes := #[] }, { accessFlags := 25, nameIndex := 284, descriptorIndex := 25, attributes := #[] }, { accessFlags := 25, nameIndex := 286, descriptorIndex := 25, attributes := #[] }, { accessFlags := 25, nameIndex := 288, descriptorIndex := 25, attributes := #[] }, { accessFlags := 25, nameIndex := 290, descriptorIndex := 25, attributes := #[] }, { accessFlags := 25, nameIndex := 292, descriptorIndex := 25, attributes := #[] }, { accessFlags := 26, nameIndex := 108, descriptorIndex := 109, attributes := #[] }, { accessFlags := 25, nameIndex := 294, descriptorIndex := 25, attributes := #[] }])
  fields := #[{ name := "U", type := (.object "jdk/internal/misc/Unsafe"), accessFlags := 24, slot := 0, constantValue := 0 }, { name := "BIG_ENDIAN", type := .boolean, accessFlags := 26, slot := 1, constantValue := 0 }, { name := "LOG2_ARRAY_BOOLEAN_INDEX_SCALE", type := .int, accessFlags := 25, slot := 2, constantValue := 0 }, { name := "LOG2_ARRAY_BYTE_INDEX_SCALE", type := .int, accessFlags := 25, slot := 3, constantValue := 0 }, { name := "LOG2_ARRAY_CHAR_INDEX_SCALE", type := .int, accessFlags := 25, slot := 4, constantValue := 0 }, { name := "LOG2_ARRAY_SHORT_INDEX_SCALE", type := .int, accessFlags := 25, slot := 5, constantValue := 0 }, { name := "LOG2_ARRAY_INT_INDEX_SCALE", type := .int, accessFlags := 25, slot := 6, constantValue := 0 }, { name := "LOG2_ARRAY_LONG_INDEX_SCALE", type := .int, accessFlags := 25, slot := 7, constantValue := 0 }, { name := "LOG2_ARRAY_FLOAT_INDEX_SCALE", type := .int, accessFlags := 25, slot := 8, constantValue := 0 }, { name := "LOG2_ARRAY_DOUBLE_INDEX_SCALE", type := .int, accessFlags := 25, slot := 9, constantValue := 0 }, { name := "LOG2_BYTE_BIT_SIZE", type := .int, accessFlags := 26, slot := 10, constantValue := 0 }, { name := "T_BOOLEAN", type := .int, accessFlags := 25, slot := 11, constantValue := 0 }, { name := "T_CHAR", type := .int, accessFlags := 25, slot := 12, constantValue := 0 }, { name := "T_FLOAT", type := .int, accessFlags := 25, slot := 13, constantValue := 0 }, { name := "T_DOUBLE", type := .int, accessFlags := 25, slot := 14, constantValue := 0 }, { name := "T_BYTE", type := .int, accessFlags := 25, slot := 15, constantValue := 0 }, { name := "T_SHORT", type := .int, accessFlags := 25, slot := 16, constantValue := 0 }, { name := "T_INT", type := .int, accessFlags := 25, slot := 17, constantValue := 0 }, { name := "T_LONG", type := .int, accessFlags := 25, slot := 18, constantValue := 0 }, { name := "JLA", type := (.object "jdk/internal/access/JavaLangAccess"), accessFlags := 26, slot := 19, constantValue := 0 }, { name := "SOFT_MAX_ARRAY_LENGTH", type := .int, accessFlags := 25, slot := 20, constantValue := 0 }]
  methods := #[k16m0]
  instanceTypes := #[]
  staticTypes := #[(.object "jdk/internal/misc/Unsafe"), .boolean, .int, .int, .int, .int, .int, .int, .int, .int, .int, .int, .int, .int, .int, .int, .int, .int, .int, (.object "jdk/internal/access/JavaLangAccess"), .int]
  resolved := Array.replicate 378 none
  statics := none }

def pool17 : Array CpInfo := pool [(1, u "java/lang/Cloneable"), (0, .class_ 1), (0, u "java/lang/Object"), (0, .class_ 3)] 3

/-- java/lang/Cloneable -/
def k17 : Class := { plain "java/lang/Cloneable" (some 0) with
  accessFlags := 1537
  interfaces := #[]
  cf := some (fileOf pool17 2 #[] #[] 1537 4 #[] #[])
  fields := #[]
  methods := #[]
  instanceTypes := #[]
  staticTypes := #[]
  resolved := Array.replicate 8 none
  statics := none }

/-- the primitive byte -/
def k18 : Class := { plain "byte" none with kind := .primitive 'B', accessFlags := 0x411 }
/-- [B -/
def k19 : Class := { plain "[B" (some 0) with kind := .array 18 .byte, interfaces := #[17, 2], accessFlags := 1041 }

/-- the primitive char -/
def k20 : Class := { plain "char" none with kind := .primitive 'C', accessFlags := 0x411 }
/-- [C -/
def k21 : Class := { plain "[C" (some 0) with kind := .array 20 .char, interfaces := #[17, 2], accessFlags := 1041 }

/-- the primitive int -/
def k22 : Class := { plain "int" none with kind := .primitive 'I', accessFlags := 0x411 }
/-- [I -/
def k23 : Class := { plain "[I" (some 0) with kind := .array 22 .int, interfaces := #[17, 2], accessFlags := 1041 }

def heap : Heap := #[{ cls := 7, slots := #[.long 0, .int 1, .null, .int 0, .null, .int 0, .int 0], vm := .statics 7 },
  { cls := 14, slots := #[.null, .null, .null], vm := .statics 14 }]
def classes : Array Class := #[k0, k1, k2, k3, k4, k5, k6, k7, k8, k9, k10, k11, k12, k13, k14, k15, k16, k17, k18, k19, k20, k21, k22, k23]
def interned : List (Array UInt16 × Addr) := []
def slotsUsed : Nat := 10
def theMethod : MethodId := ⟨1, 5⟩
def args0 : Array Value := #[.int 5, .int 5, .int 5, .int 5, .int 5, .int 5]
def aboutOver (below : List Frame) : State where
  vm := { classes := classes, interned := interned.toArray }
  heap := heap
  slotsUsed := slotsUsed
  threads := #[{ frames := .invoking theMethod args0 :: below }]
def below0 : List Frame := [.native { method := ⟨0, 0⟩, args := #[] }]
def about1 : State := aboutOver below0
def p0 : Program := .bare "" "" ""
def e0 : Env := launch0.env 0 0 0
theorem w_frames : about1.frames = Frame.invoking theMethod args0 :: below0 := rfl
set_option maxRecDepth 65536 in
theorem w_args : argsFit about1.vm theMethod args0 = true := by decide +kernel
set_option maxRecDepth 65536 in
theorem w_heap : heapFits about1 = true := by decide +kernel
set_option maxRecDepth 65536 in
theorem w_runnable : about1.curStatus? = some .runnable := by decide +kernel
set_option maxRecDepth 65536 in
theorem w_alone : about1.alone = true := by decide +kernel
set_option maxRecDepth 65536 in
theorem w_named : about1.methodNamed? x = some theMethod := by decide +kernel
set_option maxRecDepth 65536 in
theorem w_hears : about1.hears theMethod below0 = true := by decide +kernel
set_option maxRecDepth 65536 in
theorem w_ripe : about1.ripe theMethod args0 below0 = true := by decide +kernel
theorem w_running : about1.status = .running := rfl
set_option maxRecDepth 65536 in
theorem w_room : about1.hasRoom e0.platform room_1 = true :=
  launch0.hasRoom_least _ room_1 (by decide +kernel) (by decide +kernel) (by decide +kernel) (by decide +kernel) (by decide +kernel) (by decide +kernel)
theorem allAtoms_all (ts : List Jvm.Cond) (a : Array Jvm.Value) (st : Jvm.State) : (allAtoms ts).before a st = ts.all (fun c => c.before a st) := by
  induction ts with
  | nil => rfl
  | cons c t ih =>
    show (Jvm.Cond.and c (allAtoms t)).before a st = _
    rw [Jvm.Cond.before_and, ih, List.all_cons]
def words1 : List Jvm.Cond := Jvm.Cond.code x code maxLocals ret :: tables_1
/-- a 'code' word, met by the world's own term for the bytes: nothing is compared byte by byte -/
theorem code_word {y : MethodName} {bytes : ByteArray} {mx : Nat} {rt : Option FieldType} {a : Array Value} {s : State} {m : MethodId} {meth : Method} {c : Code} (h1 : s.methodNamed? y = some m) (h2 : s.vm.method? m = some meth) (h3 : meth.code = some c) (h4 : c.code = bytes)
    (h5 : (c.maxLocals == mx && c.exceptionTable.isEmpty && decide (c.maxStack ≤ mostOperands) && decide (meth.sig.returnType = rt) && !meth.locks && decide (parseMethodDescriptor y.desc = some meth.sig)) = true) : (Jvm.Cond.code y bytes mx rt).before a s = true := by
  simp only [Bool.and_eq_true, beq_iff_eq, Bool.not_eq_true', decide_eq_true_eq] at h5
  obtain ⟨⟨⟨⟨⟨g1, g2⟩, g3⟩, g4⟩, g5⟩, g6⟩ := h5
  simp [Cond.before, Cond.holds, Cond.value, h1, h2, h3, h4, g1, g2, g3, g4, g5, g6]
def isCode : Jvm.Cond → Bool
  | .code _ _ _ _ => true
  | _ => false
theorem all_split {L : List Jvm.Cond} {P : Jvm.Cond → Bool} (h1 : L.all (fun c => isCode c || P c) = true) (h2 : ∀ c ∈ L.filter isCode, P c = true) : L.all P = true := by
  refine List.all_eq_true.mpr fun c hc => ?_
  have h := List.all_eq_true.mp h1 c hc
  rcases Bool.eq_false_or_eq_true (isCode c) with hi | hi
  · exact h2 c (List.mem_filter.mpr ⟨hc, hi⟩)
  · simpa [hi] using h
set_option maxRecDepth 65536 in
theorem w_c0 : (Jvm.Cond.code x code maxLocals ret).before args0 about1 = true := code_word (m := ⟨1, 5⟩) (meth := k1m5) (c := k1c5) (by decide +kernel) rfl rfl rfl (by decide +kernel)
set_option maxRecDepth 65536 in
theorem w_c1 : (Jvm.Cond.code ({ cls := "com/example/pegwright/pegwright/PegEqualsPinLaw", name := "part", desc := "(IZ)Ljava/lang/String;" } : Jvm.MethodName) method_4_code (4 : Nat) (Option.some (Jvm.ClassFile.FieldType.object "java/lang/String"))).before args0 about1 = true := code_word (m := ⟨1, 3⟩) (meth := k1m3) (c := k1c3) (by decide +kernel) rfl rfl rfl (by decide +kernel)
set_option maxRecDepth 65536 in
theorem w_c2 : (Jvm.Cond.code ({ cls := "com/example/pegwright/pegwright/PegEqualsPinLaw", name := "len", desc := "(I)I" } : Jvm.MethodName) method_3_code (1 : Nat) (Option.some Jvm.ClassFile.FieldType.int)).before args0 about1 = true := code_word (m := ⟨1, 2⟩) (meth := k1m2) (c := k1c2) (by decide +kernel) rfl rfl rfl (by decide +kernel)
set_option maxRecDepth 65536 in
theorem w_c3 : (Jvm.Cond.code ({ cls := "java/lang/String", name := "<init>", desc := "([C)V" } : Jvm.MethodName) jdk_42_method_3_code (2 : Nat) (Option.none : Option Jvm.ClassFile.FieldType)).before args0 about1 = true := code_word (m := ⟨7, 1⟩) (meth := k7m1) (c := k7c1) (by decide +kernel) rfl rfl rfl (by decide +kernel)
set_option maxRecDepth 65536 in
theorem w_c4 : (Jvm.Cond.code ({ cls := "java/lang/String", name := "<init>", desc := "([CIILjava/lang/Void;)V" } : Jvm.MethodName) jdk_42_method_149_code (6 : Nat) (Option.none : Option Jvm.ClassFile.FieldType)).before args0 about1 = true := code_word (m := ⟨7, 8⟩) (meth := k7m8) (c := k7c8) (by decide +kernel) rfl rfl rfl (by decide +kernel)
set_option maxRecDepth 65536 in
theorem w_c5 : (Jvm.Cond.code ({ cls := "java/lang/Object", name := "<init>", desc := "()V" } : Jvm.MethodName) object_method_1_code (1 : Nat) (Option.none : Option Jvm.ClassFile.FieldType)).before args0 about1 = true := code_word (m := ⟨0, 0⟩) (meth := k0m0) (c := k0c0) (by decide +kernel) rfl rfl rfl (by decide +kernel)
set_option maxRecDepth 65536 in
theorem w_c6 : (Jvm.Cond.code ({ cls := "com/example/pegwright/pegwright/PegEqualsPinLaw", name := "ch", desc := "(IZ)C" } : Jvm.MethodName) method_2_code (3 : Nat) (Option.some Jvm.ClassFile.FieldType.char)).before args0 about1 = true := code_word (m := ⟨1, 1⟩) (meth := k1m1) (c := k1c1) (by decide +kernel) rfl rfl rfl (by decide +kernel)
set_option maxRecDepth 65536 in
theorem w_c7 : (Jvm.Cond.code ({ cls := "java/lang/StringUTF16", name := "compress", desc := "([CII)[B" } : Jvm.MethodName) jdk_52_method_16_code (6 : Nat) (Option.some (Jvm.ClassFile.FieldType.array Jvm.ClassFile.FieldType.byte))).before args0 about1 = true := code_word (m := ⟨10, 2⟩) (meth := k10m2) (c := k10c2) (by decide +kernel) rfl rfl rfl (by decide +kernel)
set_option maxRecDepth 65536 in
theorem w_c8 : (Jvm.Cond.code ({ cls := "java/lang/StringUTF16", name := "compress", desc := "([CI[BII)I" } : Jvm.MethodName) jdk_52_method_21_code (7 : Nat) (Option.some Jvm.ClassFile.FieldType.int)).before args0 about1 = true := code_word (m := ⟨10, 3⟩) (meth := k10m3) (c := k10c3) (by decide +kernel) rfl rfl rfl (by decide +kernel)
set_option maxRecDepth 65536 in
theorem w_c9 : (Jvm.Cond.code ({ cls := "java/lang/StringUTF16", name := "coderFromArrayLen", desc := "([BI)B" } : Jvm.MethodName) jdk_52_method_15_code (2 : Nat) (Option.some Jvm.ClassFile.FieldType.byte)).before args0 about1 = true := code_word (m := ⟨10, 1⟩) (meth := k10m1) (c := k10c1) (by decide +kernel) rfl rfl rfl (by decide +kernel)
set_option maxRecDepth 65536 in
theorem w_c10 : (Jvm.Cond.code ({ cls := "com/example/pegwright/pegwright/Peg", name := "<init>", desc := "(Ljava/lang/String;Ljava/lang/String;Ljava/lang/String;)V" } : Jvm.MethodName) prog_17_method_1_code (4 : Nat) (Option.none : Option Jvm.ClassFile.FieldType)).before args0 about1 = true := code_word (m := ⟨9, 0⟩) (meth := k9m0) (c := k9c0) (by decide +kernel) rfl rfl rfl (by decide +kernel)
set_option maxRecDepth 65536 in
theorem w_c11 : (Jvm.Cond.code ({ cls := "java/lang/Record", name := "<init>", desc := "()V" } : Jvm.MethodName) jdk_30_method_1_code (1 : Nat) (Option.none : Option Jvm.ClassFile.FieldType)).before args0 about1 = true := code_word (m := ⟨8, 0⟩) (meth := k8m0) (c := k8c0) (by decide +kernel) rfl rfl rfl (by decide +kernel)
set_option maxRecDepth 65536 in
theorem w_c12 : (Jvm.Cond.code ({ cls := "java/util/Objects", name := "requireNonNull", desc := "(Ljava/lang/Object;Ljava/lang/String;)Ljava/lang/Object;" } : Jvm.MethodName) jdk_31_method_11_code (2 : Nat) (Option.some (Jvm.ClassFile.FieldType.object "java/lang/Object"))).before args0 about1 = true := code_word (m := ⟨11, 1⟩) (meth := k11m1) (c := k11c1) (by decide +kernel) rfl rfl rfl (by decide +kernel)
set_option maxRecDepth 65536 in
theorem w_c13 : (Jvm.Cond.code ({ cls := "com/example/pegwright/pegwright/Names", name := "requireNoControlCharacter", desc := "(Ljava/lang/String;Ljava/lang/String;)Ljava/lang/String;" } : Jvm.MethodName) prog_14_method_5_code (2 : Nat) (Option.some (Jvm.ClassFile.FieldType.object "java/lang/String"))).before args0 about1 = true := code_word (m := ⟨12, 2⟩) (meth := k12m2) (c := k12c2) (by decide +kernel) rfl rfl rfl (by decide +kernel)
set_option maxRecDepth 65536 in
theorem w_c14 : (Jvm.Cond.code ({ cls := "com/example/pegwright/pegwright/Names", name := "holdsControlCharacter", desc := "(Ljava/lang/String;)Z" } : Jvm.MethodName) prog_14_method_2_code (2 : Nat) (Option.some Jvm.ClassFile.FieldType.boolean)).before args0 about1 = true := code_word (m := ⟨12, 1⟩) (meth := k12m1) (c := k12c1) (by decide +kernel) rfl rfl rfl (by decide +kernel)
set_option maxRecDepth 65536 in
theorem w_c15 : (Jvm.Cond.code ({ cls := "java/lang/String", name := "length", desc := "()I" } : Jvm.MethodName) jdk_42_method_54_code (1 : Nat) (Option.some Jvm.ClassFile.FieldType.int)).before args0 about1 = true := code_word (m := ⟨7, 2⟩) (meth := k7m2) (c := k7c2) (by decide +kernel) rfl rfl rfl (by decide +kernel)
set_option maxRecDepth 65536 in
theorem w_c16 : (Jvm.Cond.code ({ cls := "java/lang/String", name := "coder", desc := "()B" } : Jvm.MethodName) jdk_42_method_152_code (1 : Nat) (Option.some Jvm.ClassFile.FieldType.byte)).before args0 about1 = true := code_word (m := ⟨7, 9⟩) (meth := k7m9) (c := k7c9) (by decide +kernel) rfl rfl rfl (by decide +kernel)
set_option maxRecDepth 65536 in
theorem w_c17 : (Jvm.Cond.code ({ cls := "java/lang/String", name := "charAt", desc := "(I)C" } : Jvm.MethodName) jdk_42_method_56_code (2 : Nat) (Option.some Jvm.ClassFile.FieldType.char)).before args0 about1 = true := code_word (m := ⟨7, 3⟩) (meth := k7m3) (c := k7c3) (by decide +kernel) rfl rfl rfl (by decide +kernel)
set_option maxRecDepth 65536 in
theorem w_c18 : (Jvm.Cond.code ({ cls := "java/lang/String", name := "isLatin1", desc := "()Z" } : Jvm.MethodName) jdk_42_method_154_code (1 : Nat) (Option.some Jvm.ClassFile.FieldType.boolean)).before args0 about1 = true := code_word (m := ⟨7, 10⟩) (meth := k7m10) (c := k7c10) (by decide +kernel) rfl rfl rfl (by decide +kernel)
set_option maxRecDepth 65536 in
theorem w_c19 : (Jvm.Cond.code ({ cls := "java/lang/StringLatin1", name := "charAt", desc := "([BI)C" } : Jvm.MethodName) jdk_43_method_2_code (2 : Nat) (Option.some Jvm.ClassFile.FieldType.char)).before args0 about1 = true := code_word (m := ⟨13, 1⟩) (meth := k13m1) (c := k13c1) (by decide +kernel) rfl rfl rfl (by decide +kernel)
set_option maxRecDepth 65536 in
theorem w_c20 : (Jvm.Cond.code ({ cls := "java/lang/String", name := "checkIndex", desc := "(II)V" } : Jvm.MethodName) jdk_42_method_155_code (2 : Nat) (Option.none : Option Jvm.ClassFile.FieldType)).before args0 about1 = true := code_word (m := ⟨7, 11⟩) (meth := k7m11) (c := k7c11) (by decide +kernel) rfl rfl rfl (by decide +kernel)
set_option maxRecDepth 65536 in
theorem w_c21 : (Jvm.Cond.code ({ cls := "jdk/internal/util/Preconditions", name := "checkIndex", desc := "(IILjava/util/function/BiFunction;)I" } : Jvm.MethodName) jdk_41_method_11_code (3 : Nat) (Option.some Jvm.ClassFile.FieldType.int)).before args0 about1 = true := code_word (m := ⟨14, 1⟩) (meth := k14m1) (c := k14c1) (by decide +kernel) rfl rfl rfl (by decide +kernel)
set_option maxRecDepth 65536 in
theorem w_c22 : (Jvm.Cond.code ({ cls := "java/lang/Character", name := "isISOControl", desc := "(C)Z" } : Jvm.MethodName) jdk_89_method_88_code (1 : Nat) (Option.some Jvm.ClassFile.FieldType.boolean)).before args0 about1 = true := code_word (m := ⟨15, 0⟩) (meth := k15m0) (c := k15c0) (by decide +kernel) rfl rfl rfl (by decide +kernel)
set_option maxRecDepth 65536 in
theorem w_c23 : (Jvm.Cond.code ({ cls := "java/lang/Character", name := "isISOControl", desc := "(I)Z" } : Jvm.MethodName) jdk_89_method_89_code (1 : Nat) (Option.some Jvm.ClassFile.FieldType.boolean)).before args0 about1 = true := code_word (m := ⟨15, 1⟩) (meth := k15m1) (c := k15c1) (by decide +kernel) rfl rfl rfl (by decide +kernel)
set_option maxRecDepth 65536 in
theorem w_c24 : (Jvm.Cond.code ({ cls := "com/example/pegwright/pegwright/Names", name := "requireNoSlash", desc := "(Ljava/lang/String;Ljava/lang/String;)Ljava/lang/String;" } : Jvm.MethodName) prog_14_method_8_code (2 : Nat) (Option.some (Jvm.ClassFile.FieldType.object "java/lang/String"))).before args0 about1 = true := code_word (m := ⟨12, 3⟩) (meth := k12m3) (c := k12c3) (by decide +kernel) rfl rfl rfl (by decide +kernel)
set_option maxRecDepth 65536 in
theorem w_c25 : (Jvm.Cond.code ({ cls := "java/lang/String", name := "contains", desc := "(Ljava/lang/CharSequence;)Z" } : Jvm.MethodName) jdk_42_method_97_code (2 : Nat) (Option.some Jvm.ClassFile.FieldType.boolean)).before args0 about1 = true := code_word (m := ⟨7, 6⟩) (meth := k7m6) (c := k7c6) (by decide +kernel) rfl rfl rfl (by decide +kernel)
set_option maxRecDepth 65536 in
theorem w_c26 : (Jvm.Cond.code ({ cls := "java/lang/String", name := "toString", desc := "()Ljava/lang/String;" } : Jvm.MethodName) jdk_42_method_126_code (1 : Nat) (Option.some (Jvm.ClassFile.FieldType.object "java/lang/String"))).before args0 about1 = true := code_word (m := ⟨7, 7⟩) (meth := k7m7) (c := k7c7) (by decide +kernel) rfl rfl rfl (by decide +kernel)
set_option maxRecDepth 65536 in
theorem w_c27 : (Jvm.Cond.code ({ cls := "java/lang/String", name := "indexOf", desc := "(Ljava/lang/String;)I" } : Jvm.MethodName) jdk_42_method_84_code (3 : Nat) (Option.some Jvm.ClassFile.FieldType.int)).before args0 about1 = true := code_word (m := ⟨7, 5⟩) (meth := k7m5) (c := k7c5) (by decide +kernel) rfl rfl rfl (by decide +kernel)
set_option maxRecDepth 65536 in
theorem w_c28 : (Jvm.Cond.code ({ cls := "java/lang/StringLatin1", name := "indexOf", desc := "([B[B)I" } : Jvm.MethodName) jdk_43_method_24_code (2 : Nat) (Option.some Jvm.ClassFile.FieldType.int)).before args0 about1 = true := code_word (m := ⟨13, 3⟩) (meth := k13m3) (c := k13c3) (by decide +kernel) rfl rfl rfl (by decide +kernel)
set_option maxRecDepth 65536 in
theorem w_c29 : (Jvm.Cond.code ({ cls := "java/lang/StringLatin1", name := "indexOf", desc := "([BI[BII)I" } : Jvm.MethodName) jdk_43_method_25_code (11 : Nat) (Option.some Jvm.ClassFile.FieldType.int)).before args0 about1 = true := code_word (m := ⟨13, 4⟩) (meth := k13m4) (c := k13c4) (by decide +kernel) rfl rfl rfl (by decide +kernel)
set_option maxRecDepth 65536 in
theorem w_c30 : (Jvm.Cond.code ({ cls := "com/example/pegwright/pegwright/PegEqualsPinLaw", name := "samePart", desc := "(IIZ)Z" } : Jvm.MethodName) method_5_code (5 : Nat) (Option.some Jvm.ClassFile.FieldType.boolean)).before args0 about1 = true := code_word (m := ⟨1, 4⟩) (meth := k1m4) (c := k1c4) (by decide +kernel) rfl rfl rfl (by decide +kernel)
set_option maxRecDepth 65536 in
theorem w_c31 : (Jvm.Cond.code ({ cls := "com/example/pegwright/pegwright/Peg", name := "equals", desc := "(Ljava/lang/Object;)Z" } : Jvm.MethodName) prog_17_method_4_code (3 : Nat) (Option.some Jvm.ClassFile.FieldType.boolean)).before args0 about1 = true := code_word (m := ⟨9, 1⟩) (meth := k9m1) (c := k9c1) (by decide +kernel) rfl rfl rfl (by decide +kernel)
set_option maxRecDepth 65536 in
theorem w_c32 : (Jvm.Cond.code ({ cls := "java/lang/String", name := "equals", desc := "(Ljava/lang/Object;)Z" } : Jvm.MethodName) jdk_42_method_66_code (3 : Nat) (Option.some Jvm.ClassFile.FieldType.boolean)).before args0 about1 = true := code_word (m := ⟨7, 4⟩) (meth := k7m4) (c := k7c4) (by decide +kernel) rfl rfl rfl (by decide +kernel)
set_option maxRecDepth 65536 in
theorem w_c33 : (Jvm.Cond.code ({ cls := "java/lang/StringLatin1", name := "equals", desc := "([B[B)Z" } : Jvm.MethodName) jdk_43_method_13_code (3 : Nat) (Option.some Jvm.ClassFile.FieldType.boolean)).before args0 about1 = true := code_word (m := ⟨13, 2⟩) (meth := k13m2) (c := k13c2) (by decide +kernel) rfl rfl rfl (by decide +kernel)
def codes1 : List Jvm.Cond := [Jvm.Cond.code x code maxLocals ret, Jvm.Cond.code ({ cls := "com/example/pegwright/pegwright/PegEqualsPinLaw", name := "part", desc := "(IZ)Ljava/lang/String;" } : Jvm.MethodName) method_4_code (4 : Nat) (Option.some (Jvm.ClassFile.FieldType.object "java/lang/String")), Jvm.Cond.code ({ cls := "com/example/pegwright/pegwright/PegEqualsPinLaw", name := "len", desc := "(I)I" } : Jvm.MethodName) method_3_code (1 : Nat) (Option.some Jvm.ClassFile.FieldType.int), Jvm.Cond.code ({ cls := "java/lang/String", name := "<init>", desc := "([C)V" } : Jvm.MethodName) jdk_42_method_3_code (2 : Nat) (Option.none : Option Jvm.ClassFile.FieldType), Jvm.Cond.code ({ cls := "java/lang/String", name := "<init>", desc := "([CIILjava/lang/Void;)V" } : Jvm.MethodName) jdk_42_method_149_code (6 : Nat) (Option.none : Option Jvm.ClassFile.FieldType), Jvm.Cond.code ({ cls := "java/lang/Object", name := "<init>", desc := "()V" } : Jvm.MethodName) object_method_1_code (1 : Nat) (Option.none : Option Jvm.ClassFile.FieldType), Jvm.Cond.code ({ cls := "com/example/pegwright/pegwright/PegEqualsPinLaw", name := "ch", desc := "(IZ)C" } : Jvm.MethodName) method_2_code (3 : Nat) (Option.some Jvm.ClassFile.FieldType.char), Jvm.Cond.code ({ cls := "java/lang/StringUTF16", name := "compress", desc := "([CII)[B" } : Jvm.MethodName) jdk_52_method_16_code (6 : Nat) (Option.some (Jvm.ClassFile.FieldType.array Jvm.ClassFile.FieldType.byte)), Jvm.Cond.code ({ cls := "java/lang/StringUTF16", name := "compress", desc := "([CI[BII)I" } : Jvm.MethodName) jdk_52_method_21_code (7 : Nat) (Option.some Jvm.ClassFile.FieldType.int), Jvm.Cond.code ({ cls := "java/lang/StringUTF16", name := "coderFromArrayLen", desc := "([BI)B" } : Jvm.MethodName) jdk_52_method_15_code (2 : Nat) (Option.some Jvm.ClassFile.FieldType.byte), Jvm.Cond.code ({ cls := "com/example/pegwright/pegwright/Peg", name := "<init>", desc := "(Ljava/lang/String;Ljava/lang/String;Ljava/lang/String;)V" } : Jvm.MethodName) prog_17_method_1_code (4 : Nat) (Option.none : Option Jvm.ClassFile.FieldType), Jvm.Cond.code ({ cls := "java/lang/Record", name := "<init>", desc := "()V" } : Jvm.MethodName) jdk_30_method_1_code (1 : Nat) (Option.none : Option Jvm.ClassFile.FieldType), Jvm.Cond.code ({ cls := "java/util/Objects", name := "requireNonNull", desc := "(Ljava/lang/Object;Ljava/lang/String;)Ljava/lang/Object;" } : Jvm.MethodName) jdk_31_method_11_code (2 : Nat) (Option.some (Jvm.ClassFile.FieldType.object "java/lang/Object")), Jvm.Cond.code ({ cls := "com/example/pegwright/pegwright/Names", name := "requireNoControlCharacter", desc := "(Ljava/lang/String;Ljava/lang/String;)Ljava/lang/String;" } : Jvm.MethodName) prog_14_method_5_code (2 : Nat) (Option.some (Jvm.ClassFile.FieldType.object "java/lang/String")), Jvm.Cond.code ({ cls := "com/example/pegwright/pegwright/Names", name := "holdsControlCharacter", desc := "(Ljava/lang/String;)Z" } : Jvm.MethodName) prog_14_method_2_code (2 : Nat) (Option.some Jvm.ClassFile.FieldType.boolean), Jvm.Cond.code ({ cls := "java/lang/String", name := "length", desc := "()I" } : Jvm.MethodName) jdk_42_method_54_code (1 : Nat) (Option.some Jvm.ClassFile.FieldType.int), Jvm.Cond.code ({ cls := "java/lang/String", name := "coder", desc := "()B" } : Jvm.MethodName) jdk_42_method_152_code (1 : Nat) (Option.some Jvm.ClassFile.FieldType.byte), Jvm.Cond.code ({ cls := "java/lang/String", name := "charAt", desc := "(I)C" } : Jvm.MethodName) jdk_42_method_56_code (2 : Nat) (Option.some Jvm.ClassFile.FieldType.char), Jvm.Cond.code ({ cls := "java/lang/String", name := "isLatin1", desc := "()Z" } : Jvm.MethodName) jdk_42_method_154_code (1 : Nat) (Option.some Jvm.ClassFile.FieldType.boolean), Jvm.Cond.code ({ cls := "java/lang/StringLatin1", name := "charAt", desc := "([BI)C" } : Jvm.MethodName) jdk_43_method_2_code (2 : Nat) (Option.some Jvm.ClassFile.FieldType.char), Jvm.Cond.code ({ cls := "java/lang/String", name := "checkIndex", desc := "(II)V" } : Jvm.MethodName) jdk_42_method_155_code (2 : Nat) (Option.none : Option Jvm.ClassFile.FieldType), Jvm.Cond.code ({ cls := "jdk/internal/util/Preconditions", name := "checkIndex", desc := "(IILjava/util/function/BiFunction;)I" } : Jvm.MethodName) jdk_41_method_11_code (3 : Nat) (Option.some Jvm.ClassFile.FieldType.int), Jvm.Cond.code ({ cls := "java/lang/Character", name := "isISOControl", desc := "(C)Z" } : Jvm.MethodName) jdk_89_method_88_code (1 : Nat) (Option.some Jvm.ClassFile.FieldType.boolean), Jvm.Cond.code ({ cls := "java/lang/Character", name := "isISOControl", desc := "(I)Z" } : Jvm.MethodName) jdk_89_method_89_code (1 : Nat) (Option.some Jvm.ClassFile.FieldType.boolean), Jvm.Cond.code ({ cls := "com/example/pegwright/pegwright/Names", name := "requireNoSlash", desc := "(Ljava/lang/String;Ljava/lang/String;)Ljava/lang/String;" } : Jvm.MethodName) prog_14_method_8_code (2 : Nat) (Option.some (Jvm.ClassFile.FieldType.object "java/lang/String")), Jvm.Cond.code ({ cls := "java/lang/String", name := "contains", desc := "(Ljava/lang/CharSequence;)Z" } : Jvm.MethodName) jdk_42_method_97_code (2 : Nat) (Option.some Jvm.ClassFile.FieldType.boolean), Jvm.Cond.code ({ cls := "java/lang/String", name := "toString", desc := "()Ljava/lang/String;" } : Jvm.MethodName) jdk_42_method_126_code (1 : Nat) (Option.some (Jvm.ClassFile.FieldType.object "java/lang/String")), Jvm.Cond.code ({ cls := "java/lang/String", name := "indexOf", desc := "(Ljava/lang/String;)I" } : Jvm.MethodName) jdk_42_method_84_code (3 : Nat) (Option.some Jvm.ClassFile.FieldType.int), Jvm.Cond.code ({ cls := "java/lang/StringLatin1", name := "indexOf", desc := "([B[B)I" } : Jvm.MethodName) jdk_43_method_24_code (2 : Nat) (Option.some Jvm.ClassFile.FieldType.int), Jvm.Cond.code ({ cls := "java/lang/StringLatin1", name := "indexOf", desc := "([BI[BII)I" } : Jvm.MethodName) jdk_43_method_25_code (11 : Nat) (Option.some Jvm.ClassFile.FieldType.int), Jvm.Cond.code ({ cls := "com/example/pegwright/pegwright/PegEqualsPinLaw", name := "samePart", desc := "(IIZ)Z" } : Jvm.MethodName) method_5_code (5 : Nat) (Option.some Jvm.ClassFile.FieldType.boolean), Jvm.Cond.code ({ cls := "com/example/pegwright/pegwright/Peg", name := "equals", desc := "(Ljava/lang/Object;)Z" } : Jvm.MethodName) prog_17_method_4_code (3 : Nat) (Option.some Jvm.ClassFile.FieldType.boolean), Jvm.Cond.code ({ cls := "java/lang/String", name := "equals", desc := "(Ljava/lang/Object;)Z" } : Jvm.MethodName) jdk_42_method_66_code (3 : Nat) (Option.some Jvm.ClassFile.FieldType.boolean), Jvm.Cond.code ({ cls := "java/lang/StringLatin1", name := "equals", desc := "([B[B)Z" } : Jvm.MethodName) jdk_43_method_13_code (3 : Nat) (Option.some Jvm.ClassFile.FieldType.boolean)]
set_option maxRecDepth 65536 in
theorem codes_eq : words1.filter isCode = codes1 := rfl
theorem w_codes : ∀ c ∈ words1.filter isCode, c.before args0 about1 = true := by
  rw [codes_eq]
  intro c hc
  simp only [codes1, List.mem_cons, List.not_mem_nil, or_false] at hc
  rcases hc with rfl | rfl | rfl | rfl | rfl | rfl | rfl | rfl | rfl | rfl | rfl | rfl | rfl | rfl | rfl | rfl | rfl | rfl | rfl | rfl | rfl | rfl | rfl | rfl | rfl | rfl | rfl | rfl | rfl | rfl | rfl | rfl | rfl | rfl
  · exact w_c0
  · exact w_c1
  · exact w_c2
  · exact w_c3
  · exact w_c4
  · exact w_c5
  · exact w_c6
  · exact w_c7
  · exact w_c8
  · exact w_c9
  · exact w_c10
  · exact w_c11
  · exact w_c12
  · exact w_c13
  · exact w_c14
  · exact w_c15
  · exact w_c16
  · exact w_c17
  · exact w_c18
  · exact w_c19
  · exact w_c20
  · exact w_c21
  · exact w_c22
  · exact w_c23
  · exact w_c24
  · exact w_c25
  · exact w_c26
  · exact w_c27
  · exact w_c28
  · exact w_c29
  · exact w_c30
  · exact w_c31
  · exact w_c32
  · exact w_c33
set_option maxRecDepth 65536 in
theorem w_t1 : (words1.take 24).all (fun c => isCode c || c.before args0 about1) = true := by decide +kernel
set_option maxRecDepth 65536 in
theorem w_t2 : ((words1.drop 24).take 24).all (fun c => isCode c || c.before args0 about1) = true := by decide +kernel
set_option maxRecDepth 65536 in
theorem w_t3 : (((words1.drop 24).drop 24).take 24).all (fun c => isCode c || c.before args0 about1) = true := by decide +kernel
set_option maxRecDepth 65536 in
theorem w_t4 : ((((words1.drop 24).drop 24).drop 24).take 24).all (fun c => isCode c || c.before args0 about1) = true := by decide +kernel
set_option maxRecDepth 65536 in
theorem w_t5 : (((((words1.drop 24).drop 24).drop 24).drop 24).take 24).all (fun c => isCode c || c.before args0 about1) = true := by decide +kernel
set_option maxRecDepth 65536 in
theorem w_t6 : ((((((words1.drop 24).drop 24).drop 24).drop 24).drop 24).take 24).all (fun c => isCode c || c.before args0 about1) = true := by decide +kernel
set_option maxRecDepth 65536 in
theorem w_t7 : (((((((words1.drop 24).drop 24).drop 24).drop 24).drop 24).drop 24).take 24).all (fun c => isCode c || c.before args0 about1) = true := by decide +kernel
set_option maxRecDepth 65536 in
theorem w_t8 : (((((((words1.drop 24).drop 24).drop 24).drop 24).drop 24).drop 24).drop 24).all (fun c => isCode c || c.before args0 about1) = true := by decide +kernel
theorem w_tables : (allAtoms (Jvm.Cond.code x code maxLocals ret :: tables_1)).before args0 about1 = true := by
  rw [allAtoms_all]
  show words1.all (fun c => c.before args0 about1) = true
  refine all_split ?_ w_codes
  rw [← List.take_append_drop 24 words1, List.all_append, w_t1, ← List.take_append_drop 24 (words1.drop 24), List.all_append, w_t2, ← List.take_append_drop 24 ((words1.drop 24).drop 24), List.all_append, w_t3, ← List.take_append_drop 24 (((words1.drop 24).drop 24).drop 24), List.all_append, w_t4, ← List.take_append_drop 24 ((((words1.drop 24).drop 24).drop 24).drop 24), List.all_append, w_t5, ← List.take_append_drop 24 (((((words1.drop 24).drop 24).drop 24).drop 24).drop 24), List.all_append, w_t6, ← List.take_append_drop 24 ((((((words1.drop 24).drop 24).drop 24).drop 24).drop 24).drop 24), List.all_append, w_t7, w_t8]
  rfl
set_option maxRecDepth 65536 in
theorem w_rest : rest_1_c.before args0 about1 = true := by decide +kernel
set_option maxRecDepth 65536 in
theorem w_case : (Jvm.Cond.and given_1 narrow_1).before args0 about1 = true := by decide +kernel
set_option maxRecDepth 65536 in
theorem w_consts : constsHeld consts_1 about1 := Jvm.Lit.constsHeldB_iff.mp (by decide +kernel)
theorem w_applies : (headSpec (Jvm.Cond.code x code maxLocals ret :: tables_1) room_1).applies x e0.platform about1 = true :=
  (Spec.applies_iff w_frames).mpr ⟨w_running, w_runnable, w_alone, w_named, w_hears, w_ripe, w_room, w_tables⟩
theorem atStart : AtStart classFile x code maxLocals ret World_1 tables_1 room_1 Calls_1 rest_1 Pre_1 launch0 p0 e0 about1 theMethod args0 below0 :=
  ⟨lists_1, trivial, launch0.admits_env _ _ _, launch0.least_env, fairChoices_fair.cas, fairChoices_fair.clock, w_frames, w_args, w_heap, w_applies, ⟨w_consts, trivial⟩, w_rest, w_case⟩
end start1
theorem witness_1 : WitnessClaimed_1 := ⟨start1.p0, start1.e0, start1.about1, start1.theMethod, start1.args0, start1.below0, start1.atStart⟩
end Jvm.Pilot.@@N@@
