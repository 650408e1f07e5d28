import JvmDerived
import JvmDerived.Pilot.@@N@@Statement
import JvmDerived.Pilot.@@N@@Code
set_option linter.unusedVariables false
set_option linter.unusedSimpArgs false
namespace Jvm.RoadKit
theorem Ext.refl (h : Heap) : Ext h h := ⟨Nat.le_refl _, fun _ _ q => q⟩
theorem Ext.trans {h h1 h2 : Heap} (A : Ext h h1) (B : Ext h1 h2) : Ext h h2 := ⟨Nat.le_trans A.1 B.1, fun a c q => B.2 a c (A.2 a c q)⟩
end Jvm.RoadKit
namespace Jvm.OwnKit
open Sem ClassFile Op Lib Jvm.Stand Jvm.Free Jvm.LawKit Jvm.RoadKit

/-- where the walk stands: the tables so far, nothing old written, the String constants held, the objects under construction -/
def St (p : Program) (l : Launch) (e : Env) (R : Room) (s : State) (m : MethodId) (args : Array Value) (below : List Frame) (meth : Method) (c : Code)
    (own : String) (bytes : ByteArray) (maxL : Nat) (ret : Option FieldType) (nm : String) (Z : State) (EL : List (String × Nat)) (nw : Bool) (us : List Addr) (bs : List (String × Nat × Addr))
    (T : State) (h : Heap) (cells slots : Nat) : Prop :=
  (p.tables.exec = Jvm.exec ∧ c.code = bytes ∧ c.maxLocals = maxL ∧ meth.sig.returnType = ret ∧ meth.name = nm ∧ meth.locks = false ∧ ∃ a0, EW Z a0 EL) ∧
  ∃ (vm0 : Vm) (locs : List Loc), Stand p l e R (s.setVm vm0) m args below meth c T locs cells slots ∧ Fr Z.heap.size locs ∧ T.heap = h ∧ s.Since vm0 h.size ∧
    Z.Warmed39 vm0 ∧ vm0.findClass own = some m.cls ∧ Ext Z.heap h ∧ CHr Z EL s.vm s.heap vm0 h ∧
    (∀ x ∈ us, Z.heap.size ≤ x ∧ x < h.size ∧ Safe Z EL vm0 h x) ∧ (nw = true → s.WarmedH vm0) ∧ ∀ q ∈ bs, Lit (s.setVm vm0) q.1 q.2.1 q.2.2

/-- from here the method returns, with Q of what it returns and of the heap it leaves -/
def Goes (p : Program) (e : Env) (below : List Frame) (s Z : State) (EL : List (String × Nat)) (nw : Bool) (Q : Option Value → Heap → Prop) (kk nn : Nat) (S : State) : Prop :=
  ∃ U o, Steps p.tables e below S U ∧ U.status = .running ∧ Ended U below o ∧ ∃ v L, o = .returned v ∧ Q v U.heap ∧ Fr Z.heap.size L ∧ Ext Z.heap U.heap ∧
    CHr Z EL s.vm s.heap U.vm U.heap ∧ ReturnedEndW s o U L kk nn ∧ (nw = true → s.WarmedH U.vm)

/-- the contract of a method for the arguments as' at the heap h -/
def Ctr (l : Launch) (Z : State) (EL : List (String × Nat)) (nw : Bool) (y : MethodName) (bytes : ByteArray) (maxL : Nat) (ret : Option FieldType) (rm : Room) (as' : Array Value) (h : Heap) (us : List Addr)
    (Q : Option Value → Heap → Prop) : Prop :=
  ∀ ws : List Jvm.Cond, MetFree l y (head1 (Jvm.Cond.code y bytes maxL ret :: ws) rm)
    (fun a U => a = as' ∧ Z.Warmed39 U.vm ∧ U.heap = h ∧ Ext Z.heap h ∧ CHv Z EL U.vm h ∧ ∀ x ∈ us, Z.heap.size ≤ x ∧ x < h.size ∧ Safe Z EL U.vm h x)
    (fun _ _ _ _ _ => True)
    (fun _ U o U' => ∃ v L, o = .returned v ∧ Q v U'.heap ∧ Fr Z.heap.size L ∧ Ext Z.heap U'.heap ∧ CHr Z EL U.vm U.heap U'.vm U'.heap ∧ ReturnedEndW U o U' L rm.cells rm.slots ∧ (nw = true → U.WarmedH U'.vm))

def PureQ (h : Heap) (Qv : Value → Prop) : Option Value → Heap → Prop := fun v h' => h' = h ∧ ∃ w, v = some w ∧ Qv w
def ValQ (Qv : Value → Heap → Prop) : Option Value → Heap → Prop := fun v h' => ∃ w, v = some w ∧ Qv w h'
def VoidQ (Qn : Heap → Prop) : Option Value → Heap → Prop := fun v h' => v = none ∧ Qn h'
section Base
variable {p : Program} {l : Launch} {e : Env} {R : Room} {s : State} {m : MethodId} {args : Array Value} {below : List Frame} {meth : Method} {c : Code}
  {own : String} {bytes : ByteArray} {maxL : Nat} {ret : Option FieldType} {nm : String} {Z : State} {EL : List (String × Nat)} {nw : Bool} {us : List Addr} {bs : List (String × Nat × Addr)}
  {T : State} {h : Heap} {cells slots : Nat} {Q : Option Value → Heap → Prop} {kk nn : Nat} {a0 : Array Value}

theorem ext_keep {h h1 h2 : Heap} {ws : List Addr} (A : Ext h h1) (K : Keep h1 h2 ws) (q : ∀ x ∈ ws, h.size ≤ x) : Ext h h2 :=
  ⟨Nat.le_trans A.1 K.1, fun a c r => K.2.1 a c (A.2 a c r) fun z => absurd (Array.getElem?_eq_some_iff.mp r).1 (Nat.not_lt.mpr (q a z))⟩
theorem ext_wr {h h1 h2 : Heap} {a : Addr} {sl : Nat} {v : Value} (A : Ext h h1) (W : Wr h1 h2 a sl v) (q : h.size ≤ a) : Ext h h2 :=
  ext_keep A (Keep.of_wr W) (fun x hx => by cases List.mem_singleton.mp hx; exact q)
theorem nar_mask (x : Int32) : nar .char (x &&& 255) = x &&& 255 := i2c_mask x
theorem ref_nar {v : Value} {t : FieldType} (h : v.isRef = true) (ht : t.isReference = true) : narrow t v = v := by
  rcases ref_cases h with rfl | ⟨a, rfl⟩ <;> cases t <;> first | rfl | simp [FieldType.isReference] at ht
theorem ref_fit {v : Value} {t : FieldType} (h : v.isRef = true) (ht : t.isReference = true) : fits t v = true := by
  rcases ref_cases h with rfl | ⟨a, rfl⟩ <;> cases t <;> first | rfl | simp [FieldType.isReference] at ht
theorem Sta.keepN {h1 h2 : Heap} {C n d : String} {v : Value} {ws : List Addr} (F : Sta Z Z.heap C n d v) (E : Ext Z.heap h2) : Sta Z h2 C n d v := Sta.ext E F

theorem St.at (X : St p l e R s m args below meth c own bytes maxL ret nm Z EL nw us bs T h cells slots) : At T m c below := by obtain ⟨-, _, _, Y, -⟩ := X; exact Y.here
theorem St.std (X : St p l e R s m args below meth c own bytes maxL ret nm Z EL nw us bs T h cells slots) : ∃ vm0 locs, Stand p l e R (s.setVm vm0) m args below meth c T locs cells slots := by obtain ⟨-, vm0, locs, Y, -⟩ := X; exact ⟨vm0, locs, Y⟩
theorem St.hx (X : St p l e R s m args below meth c own bytes maxL ret nm Z EL nw us bs T h cells slots) : p.tables.exec = Jvm.exec := X.1.1
theorem St.by (X : St p l e R s m args below meth c own bytes maxL ret nm Z EL nw us bs T h cells slots) : c.code = bytes := X.1.2.1
theorem St.old (X : St p l e R s m args below meth c own bytes maxL ret nm Z EL nw us bs T h cells slots) : Ext Z.heap h := by obtain ⟨-, _, _, -, -, -, -, -, -, q, -⟩ := X; exact q
theorem St.new (X : St p l e R s m args below meth c own bytes maxL ret nm Z EL nw us bs T h cells slots) {x : Addr} (hx : x ∈ us) : Z.heap.size ≤ x ∧ x < h.size := by
  obtain ⟨-, _, _, -, -, -, -, -, -, -, -, q, -⟩ := X; exact ⟨(q x hx).1, (q x hx).2.1⟩
theorem St.mono (X : St p l e R s m args below meth c own bytes maxL ret nm Z EL nw us bs T h cells slots) {cells' slots' : Nat} (hc : cells ≤ cells') (hs : slots ≤ slots') : St p l e R s m args below meth c own bytes maxL ret nm Z EL nw us bs T h cells' slots' := by
  obtain ⟨cx, vm0, locs, Y, r⟩ := X
  exact ⟨cx, vm0, locs, Y.mono hc hs, r⟩
theorem St.sub (X : St p l e R s m args below meth c own bytes maxL ret nm Z EL nw us bs T h cells slots) {us' : List Addr} (q : ∀ x ∈ us', x ∈ us) : St p l e R s m args below meth c own bytes maxL ret nm Z EL nw us' bs T h cells slots := by
  obtain ⟨cx, vm0, locs, Y, r1, r2, r3, r4, r5, r6, r7, r8, r9⟩ := X
  exact ⟨cx, vm0, locs, Y, r1, r2, r3, r4, r5, r6, r7, fun x hx => r8 x (q x hx), r9⟩

theorem Goes.step {S S' : State} (f : ∀ t, Steps p.tables e below S' t → Steps p.tables e below S t) (K : Goes p e below s Z EL nw Q kk nn S') : Goes p e below s Z EL nw Q kk nn S := by
  obtain ⟨U, o, hs, r⟩ := K; exact ⟨U, o, f _ hs, r⟩
theorem Goes.imp {Q' : Option Value → Heap → Prop} {S : State} (f : ∀ v h, Q v h → Q' v h) (K : Goes p e below s Z EL nw Q kk nn S) : Goes p e below s Z EL nw Q' kk nn S := by
  obtain ⟨U, o, h1, h2, h3, v, L, h4, h5, r⟩ := K; exact ⟨U, o, h1, h2, h3, v, L, h4, f _ _ h5, r⟩

/-- entering a method -/
theorem Ctr.enter {y : MethodName} {rm : Room} {as' : Array Value} (h1 : y.cls = own) (h2 : y.name = nm) (hEL : EW Z a0 EL) (hn : plainFor y = true) (Ls : Array Slot) (ef : ∀ m, entryFrame m as' maxL = mkF m 0 Ls [])
    (body : ∀ (p : Program) (e : Env) (s : State) (m : MethodId) (below : List Frame) (meth : Method) (c : Code) (T : State),
      St p l e rm s m as' below meth c own bytes maxL ret nm Z EL nw us [] T h 0 0 → Goes p e below s Z EL nw Q rm.cells rm.slots (T.setTop (mkF m 0 Ls []))) :
    Ctr l Z EL nw y bytes maxL ret rm as' h us Q := by
  subst h1 h2
  intro ws
  refine MetFree.of_bodySF hn hisR ?_
  intro p e s m args below meth c s₁ Bd hml0 hP _
  obtain ⟨rfl, hZ, hh, hE, hC, hU⟩ := hP
  have hnm := (name_of_methodNamed Bd.named Bd.method).1
  have hown : s.vm.findClass y.cls = some m.cls := findClass_of_methodNamed Bd.named
  have e0 : s₁.heap = h := by rw [← hh, Bd.state]; rfl
  have X0 : Stand p l e rm (s.setVm s.vm) m args below meth c s₁ [] 0 0 := Stand.of_body Bd
  have X : St p l e rm s m args below meth c y.cls bytes maxL ret y.name Z EL nw us [] s₁ h 0 0 :=
    ⟨⟨Bd.exec, Bd.bytes, hml0, Bd.returns, hnm, Bd.notSynchronized, a0, hEL⟩, s.vm, [], X0, Fr.nil _, e0, (State.WarmedH.refl s).since _, hZ, hown, hE, by rw [hh]; exact CHr.refl hC, hU, fun _ => State.WarmedH.refl s, fun _ q => by cases q⟩
  obtain ⟨U, o, h1, h2, h3, h4⟩ := body p e s m below meth c s₁ X
  refine ⟨U, o, ?_, h2, h3, h4⟩
  rw [ef m]; exact h1

theorem leave0 (X : St p l e R s m args below meth c own bytes maxL ret nm Z EL nw us bs T h cells slots) {v : Option Value} (hv : ret = none → v = none) (hc : cells ≤ kk) (hn : slots ≤ nn) (hQ : Q v h)
    {S : State} (f : ∀ fs, (∀ (f : JFrame) (acts : List Action), f.method = m → f.locked = none → f.entered = [] → (doReturn e (T.setTop f) acts v).1 = T.setFrames fs) → Steps p.tables e below S (T.setFrames fs)) :
    Goes p e below s Z EL nw Q kk nn S := by
  obtain ⟨⟨h1, h2, h3, h4, h5, h6, a0', hEL⟩, vm0, locs, Y, N, eT, hS, hZ, hown, hE, hC, hU, hW⟩ := X
  have Y' := Y.mono hc hn
  obtain ⟨fs, g1, g2, g3, g4⟩ := Y'.leaveW hS (Nat.le_of_eq (by rw [eT])) (v := v) (fun q => hv (h4 ▸ q)) h6
  have hal : CHr Z EL s.vm s.heap (T.setFrames fs).vm (T.setFrames fs).heap := by
    show CHr Z EL s.vm s.heap T.vm T.heap
    rw [eT]
    exact hC.trans (CHv.at Y hZ hEL hC.1)
  exact ⟨_, _, f fs g1, g2, g3, v, locs, rfl, by show Q v T.heap; rw [eT]; exact hQ, N, by show Ext Z.heap T.heap; rw [eT]; exact hE, hal, g4, fun q => State.WarmedH.trans (t := s.setVm vm0) (hW.1 q) Y.warmed⟩
end Base
section Ops
variable {p : Program} {l : Launch} {e : Env} {R : Room} {s : State} {m : MethodId} {args : Array Value} {below : List Frame} {meth : Method} {c : Code}
  {own : String} {bytes : ByteArray} {maxL : Nat} {ret : Option FieldType} {nm : String} {Z : State} {EL : List (String × Nat)} {nw : Bool} {us : List Addr} {bs : List (String × Nat × Addr)}
  {T : State} {h : Heap} {cells slots : Nat} {Q : Option Value → Heap → Prop} {kk nn : Nat} {a0 : Array Value} {pc : Nat} {Ls : Array Slot} {st : List Value}
theorem g_aload (X : St p l e R s m args below meth c own bytes maxL ret nm Z EL nw us bs T h cells slots) {k : Nat} {v : Value} (hd : decode bytes pc = .ok (.aload k, 2)) (hl : Ls[k]? = some (.val v)) (hv : v.isRef = true) (pc' : Nat) (hp : pc + 2 = pc')
    (K : Goes p e below s Z EL nw Q kk nn (T.setTop (mkF m pc' Ls (v :: st)))) : Goes p e below s Z EL nw Q kk nn (T.setTop (mkF m pc Ls (st))) := by
  subst hp
  exact K.step fun t k => XS.aload X.at X.hx rfl (hb X.by hd) hl hv k

theorem g_aloadN (X : St p l e R s m args below meth c own bytes maxL ret nm Z EL nw us bs T h cells slots) {k : Fin 4} {v : Value} (hd : decode bytes pc = .ok (.aload_n k, 1)) (hl : Ls[k.val]? = some (.val v)) (hv : v.isRef = true) (pc' : Nat) (hp : pc + 1 = pc')
    (K : Goes p e below s Z EL nw Q kk nn (T.setTop (mkF m pc' Ls (v :: st)))) : Goes p e below s Z EL nw Q kk nn (T.setTop (mkF m pc Ls (st))) := by
  subst hp
  exact K.step fun t k => XS.aloadN X.at X.hx rfl (hb X.by hd) hl hv k

theorem g_iload (X : St p l e R s m args below meth c own bytes maxL ret nm Z EL nw us bs T h cells slots) {k : Nat} {v : Int32} (hd : decode bytes pc = .ok (.iload k, 2)) (hl : Ls[k]? = some (.val (.int v))) (pc' : Nat) (hp : pc + 2 = pc')
    (K : Goes p e below s Z EL nw Q kk nn (T.setTop (mkF m pc' Ls (.int v :: st)))) : Goes p e below s Z EL nw Q kk nn (T.setTop (mkF m pc Ls (st))) := by
  subst hp
  exact K.step fun t k => XS.iload X.at X.hx rfl (hb X.by hd) hl k

theorem g_iloadN (X : St p l e R s m args below meth c own bytes maxL ret nm Z EL nw us bs T h cells slots) {k : Fin 4} {v : Int32} (hd : decode bytes pc = .ok (.iload_n k, 1)) (hl : Ls[k.val]? = some (.val (.int v))) (pc' : Nat) (hp : pc + 1 = pc')
    (K : Goes p e below s Z EL nw Q kk nn (T.setTop (mkF m pc' Ls (.int v :: st)))) : Goes p e below s Z EL nw Q kk nn (T.setTop (mkF m pc Ls (st))) := by
  subst hp
  exact K.step fun t k => XS.iloadN X.at X.hx rfl (hb X.by hd) hl k

theorem g_istore (X : St p l e R s m args below meth c own bytes maxL ret nm Z EL nw us bs T h cells slots) {k : Nat} {x : Int32} {Ls' : Array Slot} (hd : decode bytes pc = .ok (.istore k, 2)) (hl : storeLocals Ls k (.int x) = some Ls') (pc' : Nat) (hp : pc + 2 = pc')
    (K : Goes p e below s Z EL nw Q kk nn (T.setTop (mkF m pc' Ls' (st)))) : Goes p e below s Z EL nw Q kk nn (T.setTop (mkF m pc Ls (.int x :: st))) := by
  subst hp
  exact K.step fun t k => XS.istore X.at X.hx rfl (hb X.by hd) rfl hl k

theorem g_istoreN (X : St p l e R s m args below meth c own bytes maxL ret nm Z EL nw us bs T h cells slots) {k : Fin 4} {x : Int32} {Ls' : Array Slot} (hd : decode bytes pc = .ok (.istore_n k, 1)) (hl : storeLocals Ls k.val (.int x) = some Ls') (pc' : Nat) (hp : pc + 1 = pc')
    (K : Goes p e below s Z EL nw Q kk nn (T.setTop (mkF m pc' Ls' (st)))) : Goes p e below s Z EL nw Q kk nn (T.setTop (mkF m pc Ls (.int x :: st))) := by
  subst hp
  exact K.step fun t k => XS.istoreN X.at X.hx rfl (hb X.by hd) rfl hl k

theorem g_astore (X : St p l e R s m args below meth c own bytes maxL ret nm Z EL nw us bs T h cells slots) {k : Nat} {x : Value} {Ls' : Array Slot} (hd : decode bytes pc = .ok (.astore k, 2)) (hv : x.isRef = true) (hl : storeLocals Ls k x = some Ls') (pc' : Nat) (hp : pc + 2 = pc')
    (K : Goes p e below s Z EL nw Q kk nn (T.setTop (mkF m pc' Ls' (st)))) : Goes p e below s Z EL nw Q kk nn (T.setTop (mkF m pc Ls (x :: st))) := by
  subst hp
  exact K.step fun t k => XS.astore X.at X.hx rfl (hb X.by hd) rfl hv hl k

theorem g_astoreN (X : St p l e R s m args below meth c own bytes maxL ret nm Z EL nw us bs T h cells slots) {k : Fin 4} {x : Value} {Ls' : Array Slot} (hd : decode bytes pc = .ok (.astore_n k, 1)) (hv : x.isRef = true) (hl : storeLocals Ls k.val x = some Ls') (pc' : Nat) (hp : pc + 1 = pc')
    (K : Goes p e below s Z EL nw Q kk nn (T.setTop (mkF m pc' Ls' (st)))) : Goes p e below s Z EL nw Q kk nn (T.setTop (mkF m pc Ls (x :: st))) := by
  subst hp
  exact K.step fun t k => XS.astoreN X.at X.hx rfl (hb X.by hd) rfl hv hl k

theorem g_iconst (X : St p l e R s m args below meth c own bytes maxL ret nm Z EL nw us bs T h cells slots) {i : Int} (w : Int32) (hd : decode bytes pc = .ok (.iconst i, 1)) (hw : Int32.ofInt i = w) (pc' : Nat) (hp : pc + 1 = pc')
    (K : Goes p e below s Z EL nw Q kk nn (T.setTop (mkF m pc' Ls (.int w :: st)))) : Goes p e below s Z EL nw Q kk nn (T.setTop (mkF m pc Ls (st))) := by
  subst hp
  exact K.step fun t k => XS.iconst X.at X.hx rfl (hb X.by hd) (by rw [hw]; exact k)

theorem g_bipush (X : St p l e R s m args below meth c own bytes maxL ret nm Z EL nw us bs T h cells slots) {i : Int} (w : Int32) (hd : decode bytes pc = .ok (.bipush i, 2)) (hw : (Int8.ofInt i).toInt32 = w) (pc' : Nat) (hp : pc + 2 = pc')
    (K : Goes p e below s Z EL nw Q kk nn (T.setTop (mkF m pc' Ls (.int w :: st)))) : Goes p e below s Z EL nw Q kk nn (T.setTop (mkF m pc Ls (st))) := by
  subst hp
  exact K.step fun t k => XS.bipush X.at X.hx rfl (hb X.by hd) (by rw [hw]; exact k)

theorem g_sipush (X : St p l e R s m args below meth c own bytes maxL ret nm Z EL nw us bs T h cells slots) {i : Int} (w : Int32) (hd : decode bytes pc = .ok (.sipush i, 3)) (hw : (Int16.ofInt i).toInt32 = w) (pc' : Nat) (hp : pc + 3 = pc')
    (K : Goes p e below s Z EL nw Q kk nn (T.setTop (mkF m pc' Ls (.int w :: st)))) : Goes p e below s Z EL nw Q kk nn (T.setTop (mkF m pc Ls (st))) := by
  subst hp
  exact K.step fun t k => XS.sipush X.at X.hx rfl (hb X.by hd) (by rw [hw]; exact k)

theorem g_aconstNull (X : St p l e R s m args below meth c own bytes maxL ret nm Z EL nw us bs T h cells slots)  (hd : decode bytes pc = .ok (.aconst_null, 1))  (pc' : Nat) (hp : pc + 1 = pc')
    (K : Goes p e below s Z EL nw Q kk nn (T.setTop (mkF m pc' Ls (.null :: st)))) : Goes p e below s Z EL nw Q kk nn (T.setTop (mkF m pc Ls (st))) := by
  subst hp
  exact K.step fun t k => XS.aconstNull X.at X.hx rfl (hb X.by hd) k

theorem g_iadd (X : St p l e R s m args below meth c own bytes maxL ret nm Z EL nw us bs T h cells slots) {x y : Int32} (hd : decode bytes pc = .ok (.iadd, 1)) (w : Int32) (hw : x + y = w) (pc' : Nat) (hp : pc + 1 = pc')
    (K : Goes p e below s Z EL nw Q kk nn (T.setTop (mkF m pc' Ls (.int w :: st)))) : Goes p e below s Z EL nw Q kk nn (T.setTop (mkF m pc Ls (.int y :: .int x :: st))) := by
  subst hp
  exact K.step fun t k => XS.iadd X.at X.hx rfl (hb X.by hd) rfl (by rw [hw]; exact k)

theorem g_isub (X : St p l e R s m args below meth c own bytes maxL ret nm Z EL nw us bs T h cells slots) {x y : Int32} (hd : decode bytes pc = .ok (.isub, 1)) (w : Int32) (hw : x - y = w) (pc' : Nat) (hp : pc + 1 = pc')
    (K : Goes p e below s Z EL nw Q kk nn (T.setTop (mkF m pc' Ls (.int w :: st)))) : Goes p e below s Z EL nw Q kk nn (T.setTop (mkF m pc Ls (.int y :: .int x :: st))) := by
  subst hp
  exact K.step fun t k => XS.isub X.at X.hx rfl (hb X.by hd) rfl (by rw [hw]; exact k)

theorem g_iand (X : St p l e R s m args below meth c own bytes maxL ret nm Z EL nw us bs T h cells slots) {x y : Int32} (hd : decode bytes pc = .ok (.iand, 1)) (w : Int32) (hw : x &&& y = w) (pc' : Nat) (hp : pc + 1 = pc')
    (K : Goes p e below s Z EL nw Q kk nn (T.setTop (mkF m pc' Ls (.int w :: st)))) : Goes p e below s Z EL nw Q kk nn (T.setTop (mkF m pc Ls (.int y :: .int x :: st))) := by
  subst hp
  exact K.step fun t k => XS.iand X.at X.hx rfl (hb X.by hd) rfl (by rw [hw]; exact k)

theorem g_imul (X : St p l e R s m args below meth c own bytes maxL ret nm Z EL nw us bs T h cells slots) {x y : Int32} (hd : decode bytes pc = .ok (.imul, 1)) (w : Int32) (hw : x * y = w) (pc' : Nat) (hp : pc + 1 = pc')
    (K : Goes p e below s Z EL nw Q kk nn (T.setTop (mkF m pc' Ls (.int w :: st)))) : Goes p e below s Z EL nw Q kk nn (T.setTop (mkF m pc Ls (.int y :: .int x :: st))) := by
  subst hp
  exact K.step fun t k => XS.imul X.at X.hx rfl (hb X.by hd) rfl (by rw [hw]; exact k)

theorem g_ixor (X : St p l e R s m args below meth c own bytes maxL ret nm Z EL nw us bs T h cells slots) {x y : Int32} (hd : decode bytes pc = .ok (.ixor, 1)) (w : Int32) (hw : x ^^^ y = w) (pc' : Nat) (hp : pc + 1 = pc')
    (K : Goes p e below s Z EL nw Q kk nn (T.setTop (mkF m pc' Ls (.int w :: st)))) : Goes p e below s Z EL nw Q kk nn (T.setTop (mkF m pc Ls (.int y :: .int x :: st))) := by
  subst hp
  exact K.step fun t k => XT.ixor X.at X.hx rfl (hb X.by hd) rfl (by rw [hw]; exact k)

theorem g_ior (X : St p l e R s m args below meth c own bytes maxL ret nm Z EL nw us bs T h cells slots) {x y : Int32} (hd : decode bytes pc = .ok (.ior, 1)) (w : Int32) (hw : x ||| y = w) (pc' : Nat) (hp : pc + 1 = pc')
    (K : Goes p e below s Z EL nw Q kk nn (T.setTop (mkF m pc' Ls (.int w :: st)))) : Goes p e below s Z EL nw Q kk nn (T.setTop (mkF m pc Ls (.int y :: .int x :: st))) := by
  subst hp
  exact K.step fun t k => XT.ior X.at X.hx rfl (hb X.by hd) rfl (by rw [hw]; exact k)

theorem g_irem (X : St p l e R s m args below meth c own bytes maxL ret nm Z EL nw us bs T h cells slots) {x y : Int32} (hd : decode bytes pc = .ok (.irem, 1)) (hy : y ≠ 0) (w : Int32) (hw : x % y = w) (pc' : Nat) (hp : pc + 1 = pc')
    (K : Goes p e below s Z EL nw Q kk nn (T.setTop (mkF m pc' Ls (.int w :: st)))) : Goes p e below s Z EL nw Q kk nn (T.setTop (mkF m pc Ls (.int y :: .int x :: st))) := by
  subst hp hw
  obtain ⟨vm0, locs, Y⟩ := X.std
  exact K.step fun t k => iremM Y X.hx rfl (hb X.by hd) rfl hy k

theorem g_idiv (X : St p l e R s m args below meth c own bytes maxL ret nm Z EL nw us bs T h cells slots) {x y : Int32} (hd : decode bytes pc = .ok (.idiv, 1)) (hy : y ≠ 0) (w : Int32) (hw : x / y = w) (pc' : Nat) (hp : pc + 1 = pc')
    (K : Goes p e below s Z EL nw Q kk nn (T.setTop (mkF m pc' Ls (.int w :: st)))) : Goes p e below s Z EL nw Q kk nn (T.setTop (mkF m pc Ls (.int y :: .int x :: st))) := by
  subst hp
  exact K.step fun t k => XS.idiv X.at X.hx rfl (hb X.by hd) rfl hy (by rw [hw]; exact k)

theorem g_ineg (X : St p l e R s m args below meth c own bytes maxL ret nm Z EL nw us bs T h cells slots) {x : Int32} (hd : decode bytes pc = .ok (.ineg, 1)) (w : Int32) (hw : -x = w) (pc' : Nat) (hp : pc + 1 = pc')
    (K : Goes p e below s Z EL nw Q kk nn (T.setTop (mkF m pc' Ls (.int w :: st)))) : Goes p e below s Z EL nw Q kk nn (T.setTop (mkF m pc Ls (.int x :: st))) := by
  subst hp
  exact K.step fun t k => XS.ineg X.at X.hx rfl (hb X.by hd) rfl (by rw [hw]; exact k)

theorem g_iushr (X : St p l e R s m args below meth c own bytes maxL ret nm Z EL nw us bs T h cells slots) {x y : Int32} (hd : decode bytes pc = .ok (.iushr, 1)) (w : Int32) (hw : XT.ushr x y = w) (pc' : Nat) (hp : pc + 1 = pc')
    (K : Goes p e below s Z EL nw Q kk nn (T.setTop (mkF m pc' Ls (.int w :: st)))) : Goes p e below s Z EL nw Q kk nn (T.setTop (mkF m pc Ls (.int y :: .int x :: st))) := by
  subst hp
  exact K.step fun t k => XT.iushr X.at X.hx rfl (hb X.by hd) rfl (by rw [hw]; exact k)

theorem g_ishr (X : St p l e R s m args below meth c own bytes maxL ret nm Z EL nw us bs T h cells slots) {x y : Int32} (hd : decode bytes pc = .ok (.ishr, 1)) (w : Int32) (hw : x >>> (y &&& 31) = w) (pc' : Nat) (hp : pc + 1 = pc')
    (K : Goes p e below s Z EL nw Q kk nn (T.setTop (mkF m pc' Ls (.int w :: st)))) : Goes p e below s Z EL nw Q kk nn (T.setTop (mkF m pc Ls (.int y :: .int x :: st))) := by
  subst hp
  exact K.step fun t k => XT.ishr X.at X.hx rfl (hb X.by hd) rfl (by rw [hw]; exact k)

theorem g_ishl (X : St p l e R s m args below meth c own bytes maxL ret nm Z EL nw us bs T h cells slots) {x y : Int32} (hd : decode bytes pc = .ok (.ishl, 1)) (w : Int32) (hw : x <<< (y &&& 31) = w) (pc' : Nat) (hp : pc + 1 = pc')
    (K : Goes p e below s Z EL nw Q kk nn (T.setTop (mkF m pc' Ls (.int w :: st)))) : Goes p e below s Z EL nw Q kk nn (T.setTop (mkF m pc Ls (.int y :: .int x :: st))) := by
  subst hp
  exact K.step fun t k => XT.ishl X.at X.hx rfl (hb X.by hd) rfl (by rw [hw]; exact k)

theorem g_i2c (X : St p l e R s m args below meth c own bytes maxL ret nm Z EL nw us bs T h cells slots) {x : Int32} (hd : decode bytes pc = .ok (.i2c, 1)) (w : Int32) (hw : x.toUInt32.toUInt16.toUInt32.toInt32 = w) (pc' : Nat) (hp : pc + 1 = pc')
    (K : Goes p e below s Z EL nw Q kk nn (T.setTop (mkF m pc' Ls (.int w :: st)))) : Goes p e below s Z EL nw Q kk nn (T.setTop (mkF m pc Ls (.int x :: st))) := by
  subst hp
  exact K.step fun t k => XT.i2c X.at X.hx rfl (hb X.by hd) rfl (by rw [hw]; exact k)

theorem g_i2b (X : St p l e R s m args below meth c own bytes maxL ret nm Z EL nw us bs T h cells slots) {x : Int32} (hd : decode bytes pc = .ok (.i2b, 1)) (w : Int32) (hw : x.toInt8.toInt32 = w) (pc' : Nat) (hp : pc + 1 = pc')
    (K : Goes p e below s Z EL nw Q kk nn (T.setTop (mkF m pc' Ls (.int w :: st)))) : Goes p e below s Z EL nw Q kk nn (T.setTop (mkF m pc Ls (.int x :: st))) := by
  subst hp
  exact K.step fun t k => XT.i2b X.at X.hx rfl (hb X.by hd) rfl (by rw [hw]; exact k)

theorem g_i2l (X : St p l e R s m args below meth c own bytes maxL ret nm Z EL nw us bs T h cells slots) {x : Int32} (hd : decode bytes pc = .ok (.i2l, 1)) (w : Int64) (hw : x.toInt64 = w) (pc' : Nat) (hp : pc + 1 = pc')
    (K : Goes p e below s Z EL nw Q kk nn (T.setTop (mkF m pc' Ls (.long w :: st)))) : Goes p e below s Z EL nw Q kk nn (T.setTop (mkF m pc Ls (.int x :: st))) := by
  subst hp
  exact K.step fun t k => XT.i2l X.at X.hx rfl (hb X.by hd) rfl (by rw [hw]; exact k)

theorem g_lsub (X : St p l e R s m args below meth c own bytes maxL ret nm Z EL nw us bs T h cells slots) {x y : Int64} (hd : decode bytes pc = .ok (.lsub, 1)) (w : Int64) (hw : x - y = w) (pc' : Nat) (hp : pc + 1 = pc')
    (K : Goes p e below s Z EL nw Q kk nn (T.setTop (mkF m pc' Ls (.long w :: st)))) : Goes p e below s Z EL nw Q kk nn (T.setTop (mkF m pc Ls (.long y :: .long x :: st))) := by
  subst hp
  exact K.step fun t k => XT.lsub X.at X.hx rfl (hb X.by hd) rfl (by rw [hw]; exact k)

theorem g_lcmp (X : St p l e R s m args below meth c own bytes maxL ret nm Z EL nw us bs T h cells slots) {x y : Int64} (hd : decode bytes pc = .ok (.lcmp, 1)) (w : Int32) (hw : XT.cmpL x y = w) (pc' : Nat) (hp : pc + 1 = pc')
    (K : Goes p e below s Z EL nw Q kk nn (T.setTop (mkF m pc' Ls (.int w :: st)))) : Goes p e below s Z EL nw Q kk nn (T.setTop (mkF m pc Ls (.long y :: .long x :: st))) := by
  subst hp
  exact K.step fun t k => XT.lcmp X.at X.hx rfl (hb X.by hd) rfl (by rw [hw]; exact k)

theorem g_dup (X : St p l e R s m args below meth c own bytes maxL ret nm Z EL nw us bs T h cells slots) {x : Value} (hd : decode bytes pc = .ok (.dup, 1)) (hc : x.category = 1) (pc' : Nat) (hp : pc + 1 = pc')
    (K : Goes p e below s Z EL nw Q kk nn (T.setTop (mkF m pc' Ls (x :: x :: st)))) : Goes p e below s Z EL nw Q kk nn (T.setTop (mkF m pc Ls (x :: st))) := by
  subst hp
  exact K.step fun t k => XS.dup X.at X.hx rfl (hb X.by hd) rfl hc k

theorem g_pop (X : St p l e R s m args below meth c own bytes maxL ret nm Z EL nw us bs T h cells slots) {x : Value} (hd : decode bytes pc = .ok (.pop, 1)) (hc : x.category = 1) (pc' : Nat) (hp : pc + 1 = pc')
    (K : Goes p e below s Z EL nw Q kk nn (T.setTop (mkF m pc' Ls (st)))) : Goes p e below s Z EL nw Q kk nn (T.setTop (mkF m pc Ls (x :: st))) := by
  subst hp
  exact K.step fun t k => XT.pop X.at X.hx rfl (hb X.by hd) rfl hc k

theorem g_iinc (X : St p l e R s m args below meth c own bytes maxL ret nm Z EL nw us bs T h cells slots) {k : Nat} {i : Int} {x : Int32} {Ls' : Array Slot} (hd : decode bytes pc = .ok (.iinc k i, 3)) (hl : Ls[k]? = some (.val (.int x))) (w : Int32) (hw : x + Int32.ofInt i = w) (hl' : storeLocals Ls k (.int w) = some Ls') (pc' : Nat) (hp : pc + 3 = pc')
    (K : Goes p e below s Z EL nw Q kk nn (T.setTop (mkF m pc' Ls' (st)))) : Goes p e below s Z EL nw Q kk nn (T.setTop (mkF m pc Ls (st))) := by
  subst hp
  exact K.step fun t k => XS.iinc X.at X.hx rfl (hb X.by hd) hl (by rw [hw]; exact hl') k

theorem g_ifNo (X : St p l e R s m args below meth c own bytes maxL ret nm Z EL nw us bs T h cells slots) {cd : ClassFile.Cond} {o : Int} {x : Int32} (hd : decode bytes pc = .ok (.ifCond cd o, 3)) (hc : if_icmp.holds cd x 0 = false) (pc' : Nat) (hp : pc + 3 = pc')
    (K : Goes p e below s Z EL nw Q kk nn (T.setTop (mkF m pc' Ls (st)))) : Goes p e below s Z EL nw Q kk nn (T.setTop (mkF m pc Ls (.int x :: st))) := by
  subst hp
  exact K.step fun t k => XS.ifNo X.at X.hx rfl (hb X.by hd) rfl ((if0 cd x).trans hc) k

theorem g_icmpNo (X : St p l e R s m args below meth c own bytes maxL ret nm Z EL nw us bs T h cells slots) {cd : ClassFile.Cond} {o : Int} {x y : Int32} (hd : decode bytes pc = .ok (.if_icmp cd o, 3)) (hc : if_icmp.holds cd x y = false) (pc' : Nat) (hp : pc + 3 = pc')
    (K : Goes p e below s Z EL nw Q kk nn (T.setTop (mkF m pc' Ls (st)))) : Goes p e below s Z EL nw Q kk nn (T.setTop (mkF m pc Ls (.int y :: .int x :: st))) := by
  subst hp
  exact K.step fun t k => XS.icmpNo X.at X.hx rfl (hb X.by hd) rfl hc k

theorem g_ifnullNo (X : St p l e R s m args below meth c own bytes maxL ret nm Z EL nw us bs T h cells slots) {o : Int} {b : Addr} (hd : decode bytes pc = .ok (.ifnull o, 3))  (pc' : Nat) (hp : pc + 3 = pc')
    (K : Goes p e below s Z EL nw Q kk nn (T.setTop (mkF m pc' Ls (st)))) : Goes p e below s Z EL nw Q kk nn (T.setTop (mkF m pc Ls (.ref b :: st))) := by
  subst hp
  exact K.step fun t k => XS.ifnullNo X.at X.hx rfl (hb X.by hd) rfl k

theorem g_ifnonnullNo (X : St p l e R s m args below meth c own bytes maxL ret nm Z EL nw us bs T h cells slots) {o : Int} (hd : decode bytes pc = .ok (.ifnonnull o, 3))  (pc' : Nat) (hp : pc + 3 = pc')
    (K : Goes p e below s Z EL nw Q kk nn (T.setTop (mkF m pc' Ls (st)))) : Goes p e below s Z EL nw Q kk nn (T.setTop (mkF m pc Ls (.null :: st))) := by
  subst hp
  exact K.step fun t k => XT.ifnonnullNo X.at X.hx rfl (hb X.by hd) rfl k

theorem g_acmpNo (X : St p l e R s m args below meth c own bytes maxL ret nm Z EL nw us bs T h cells slots) {cd : ClassFile.ACond} {o : Int} {x y : Value} (hd : decode bytes pc = .ok (.if_acmp cd o, 3)) (hx' : x.isRef = true) (hy' : y.isRef = true) (hc : XT.acmp cd x y = false) (pc' : Nat) (hp : pc + 3 = pc')
    (K : Goes p e below s Z EL nw Q kk nn (T.setTop (mkF m pc' Ls (st)))) : Goes p e below s Z EL nw Q kk nn (T.setTop (mkF m pc Ls (y :: x :: st))) := by
  subst hp
  exact K.step fun t k => XT.acmpNo X.at X.hx rfl (hb X.by hd) rfl hx' hy' hc k

theorem g_goto (X : St p l e R s m args below meth c own bytes maxL ret nm Z EL nw us bs T h cells slots)  {o : Int} (hd : decode bytes pc = .ok (.goto o, 3))  (pc' : Nat) (ho : 0 ≤ (pc : Int) + o) (hp : ((pc : Int) + o).toNat = pc')
    (K : Goes p e below s Z EL nw Q kk nn (T.setTop (mkF m pc' Ls (st)))) : Goes p e below s Z EL nw Q kk nn (T.setTop (mkF m pc Ls (st))) :=
  K.step fun t k => XS.goto X.at X.hx rfl (pc0 := pc) rfl (hb X.by hd) ho hp k

theorem g_ifYes (X : St p l e R s m args below meth c own bytes maxL ret nm Z EL nw us bs T h cells slots) {cd : ClassFile.Cond} {x : Int32} {o : Int} (hd : decode bytes pc = .ok (.ifCond cd o, 3)) (hc : if_icmp.holds cd x 0 = true) (pc' : Nat) (ho : 0 ≤ (pc : Int) + o) (hp : ((pc : Int) + o).toNat = pc')
    (K : Goes p e below s Z EL nw Q kk nn (T.setTop (mkF m pc' Ls (st)))) : Goes p e below s Z EL nw Q kk nn (T.setTop (mkF m pc Ls (.int x :: st))) :=
  K.step fun t k => XS.ifYes X.at X.hx rfl (pc0 := pc) rfl (hb X.by hd) rfl ((if0 cd x).trans hc) ho hp k

theorem g_icmpYes (X : St p l e R s m args below meth c own bytes maxL ret nm Z EL nw us bs T h cells slots) {cd : ClassFile.Cond} {x y : Int32} {o : Int} (hd : decode bytes pc = .ok (.if_icmp cd o, 3)) (hc : if_icmp.holds cd x y = true) (pc' : Nat) (ho : 0 ≤ (pc : Int) + o) (hp : ((pc : Int) + o).toNat = pc')
    (K : Goes p e below s Z EL nw Q kk nn (T.setTop (mkF m pc' Ls (st)))) : Goes p e below s Z EL nw Q kk nn (T.setTop (mkF m pc Ls (.int y :: .int x :: st))) :=
  K.step fun t k => XS.icmpYes X.at X.hx rfl (pc0 := pc) rfl (hb X.by hd) rfl hc ho hp k

theorem g_ifnullYes (X : St p l e R s m args below meth c own bytes maxL ret nm Z EL nw us bs T h cells slots)  {o : Int} (hd : decode bytes pc = .ok (.ifnull o, 3))  (pc' : Nat) (ho : 0 ≤ (pc : Int) + o) (hp : ((pc : Int) + o).toNat = pc')
    (K : Goes p e below s Z EL nw Q kk nn (T.setTop (mkF m pc' Ls (st)))) : Goes p e below s Z EL nw Q kk nn (T.setTop (mkF m pc Ls (.null :: st))) :=
  K.step fun t k => XS.ifnullYes X.at X.hx rfl (pc0 := pc) rfl (hb X.by hd) rfl ho hp k

theorem g_ifnonnullYes (X : St p l e R s m args below meth c own bytes maxL ret nm Z EL nw us bs T h cells slots) {b : Addr} {o : Int} (hd : decode bytes pc = .ok (.ifnonnull o, 3))  (pc' : Nat) (ho : 0 ≤ (pc : Int) + o) (hp : ((pc : Int) + o).toNat = pc')
    (K : Goes p e below s Z EL nw Q kk nn (T.setTop (mkF m pc' Ls (st)))) : Goes p e below s Z EL nw Q kk nn (T.setTop (mkF m pc Ls (.ref b :: st))) :=
  K.step fun t k => XT.ifnonnullYes X.at X.hx rfl (pc0 := pc) rfl (hb X.by hd) rfl ho hp k

theorem g_acmpYes (X : St p l e R s m args below meth c own bytes maxL ret nm Z EL nw us bs T h cells slots) {cd : ClassFile.ACond} {x y : Value} {o : Int} (hd : decode bytes pc = .ok (.if_acmp cd o, 3)) (hx' : x.isRef = true) (hy' : y.isRef = true) (hc : XT.acmp cd x y = true) (pc' : Nat) (ho : 0 ≤ (pc : Int) + o) (hp : ((pc : Int) + o).toNat = pc')
    (K : Goes p e below s Z EL nw Q kk nn (T.setTop (mkF m pc' Ls (st)))) : Goes p e below s Z EL nw Q kk nn (T.setTop (mkF m pc Ls (y :: x :: st))) :=
  K.step fun t k => XT.acmpYes X.at X.hx rfl (pc0 := pc) rfl (hb X.by hd) rfl hx' hy' hc ho hp k
end Ops
section Rets
variable {p : Program} {l : Launch} {e : Env} {R : Room} {s : State} {m : MethodId} {args : Array Value} {below : List Frame} {meth : Method} {c : Code}
  {own : String} {bytes : ByteArray} {maxL : Nat} {ret : Option FieldType} {nm : String} {Z : State} {EL : List (String × Nat)} {nw : Bool} {us : List Addr} {bs : List (String × Nat × Addr)}
  {T : State} {h : Heap} {cells slots : Nat} {Q : Option Value → Heap → Prop} {kk nn : Nat} {a0 : Array Value} {pc : Nat} {Ls : Array Slot} {st : List Value}

theorem g_retN (X : St p l e R s m args below meth c own bytes maxL ret nm Z EL nw us bs T h cells slots) {z : Int32} {t : FieldType} {rest : List Value} (hret : ret = some t) (ht : t = .boolean ∨ t = .byte ∨ t = .char ∨ t = .short) (hd : decode bytes pc = .ok (.ireturn, 1)) (w : Int32) (hw : nar t z = w) (hc : cells ≤ kk) (hn : slots ≤ nn) (hQ : Q (some (.int w)) h) :
    Goes p e below s Z EL nw Q kk nn (T.setTop (mkF m pc Ls (.int z :: rest))) := by
  subst hw
  have h4 := X.1.2.2.2.1
  exact leave0 X (fun q => by rw [hret] at q; cases q) hc hn hQ fun fs g1 => by
    obtain ⟨vm0, locs, Y⟩ := X.std
    exact retN Y X.hx (h4.trans hret) ht (hb X.by hd) g1
theorem g_retI (X : St p l e R s m args below meth c own bytes maxL ret nm Z EL nw us bs T h cells slots) {z : Int32} {rest : List Value} (hret : ret = some .int) (hd : decode bytes pc = .ok (.ireturn, 1)) (hc : cells ≤ kk) (hn : slots ≤ nn) (hQ : Q (some (.int z)) h) :
    Goes p e below s Z EL nw Q kk nn (T.setTop (mkF m pc Ls (.int z :: rest))) := by
  have h4 := X.1.2.2.2.1
  exact leave0 X (fun q => by rw [hret] at q; cases q) hc hn hQ fun fs g1 => by
    obtain ⟨vm0, locs, Y⟩ := X.std
    exact retOut Y X.hx (h4.trans hret) rfl (Or.inl ⟨rfl, Or.inl rfl, z, rfl⟩) (hb X.by hd) g1
theorem g_retA (X : St p l e R s m args below meth c own bytes maxL ret nm Z EL nw us bs T h cells slots) {w : Value} {t : FieldType} {rest : List Value} (hret : ret = some t) (ht : t.isReference = true) (hw : w.isRef = true) (hd : decode bytes pc = .ok (.areturn, 1)) (hc : cells ≤ kk) (hn : slots ≤ nn) (hQ : Q (some w) h) :
    Goes p e below s Z EL nw Q kk nn (T.setTop (mkF m pc Ls (w :: rest))) := by
  have h4 := X.1.2.2.2.1
  have hnar : narrow t w = w := by
    rcases ref_cases hw with rfl | ⟨a, rfl⟩ <;> cases t <;> first | rfl | simp [FieldType.isReference] at ht
  exact leave0 X (fun q => by rw [hret] at q; cases q) hc hn hQ fun fs g1 => by
    obtain ⟨vm0, locs, Y⟩ := X.std
    exact retOut Y X.hx (h4.trans hret) hnar (Or.inr (Or.inr (Or.inr (Or.inr ⟨rfl, ht, hw⟩)))) (hb X.by hd) g1
theorem g_ret (X : St p l e R s m args below meth c own bytes maxL ret nm Z EL nw us bs T h cells slots) (hret : ret = none) (hd : decode bytes pc = .ok (.return_, 1)) (hc : cells ≤ kk) (hn : slots ≤ nn) (hQ : Q none h) :
    Goes p e below s Z EL nw Q kk nn (T.setTop (mkF m pc Ls [])) := by
  have h4 := X.1.2.2.2.1
  exact leave0 X (fun _ => rfl) hc hn hQ fun fs g1 => by
    obtain ⟨vm0, locs, Y⟩ := X.std
    exact Y.returnOut X.hx (h4.trans hret) (hb X.by hd) g1
end Rets
section HeapOps
variable {p : Program} {l : Launch} {e : Env} {R : Room} {s : State} {m : MethodId} {args : Array Value} {below : List Frame} {meth : Method} {c : Code}
  {own : String} {bytes : ByteArray} {maxL : Nat} {ret : Option FieldType} {nm : String} {Z : State} {EL : List (String × Nat)} {nw : Bool} {us : List Addr} {bs : List (String × Nat × Addr)}
  {T : State} {h : Heap} {cells slots : Nat} {Q : Option Value → Heap → Prop} {kk nn : Nat} {a0 : Array Value} {pc : Nat} {Ls : Array Slot} {st : List Value}

theorem g_ldcI (X : St p l e R s m args below meth c own bytes maxL ret nm Z EL nw us bs T h cells slots) {ix : Nat} {v : Int32} (w : (Jvm.Cond.constant own ix v).before a0 Z = true) (hd : decode bytes pc = .ok (.ldc ix, 2)) (pc' : Nat) (hp : pc + 2 = pc')
    (K : Goes p e below s Z EL nw Q kk nn (T.setTop (mkF m pc' Ls (.int v :: st)))) : Goes p e below s Z EL nw Q kk nn (T.setTop (mkF m pc Ls st)) := by
  subst hp
  obtain ⟨cx, vm0, locs, Y, N, eT, hS, hZ, hown, r⟩ := X
  exact K.step fun t k => Y.ldcI cx.1 hown (mv (s := s.setVm vm0) hZ w) rfl (hb cx.2.1 hd) k
theorem g_getF (X : St p l e R s m args below meth c own bytes maxL ret nm Z EL nw us bs T h cells slots) {R0 O n d host : String} {ix : Nat} {a : Addr} {v : Value} (w : (Jvm.Cond.fieldLink own ix R0 n d).before a0 Z = true ∨ (Jvm.Cond.fieldLinkNest own ix R0 n d host).before a0 Z = true) (via : Via Z R0 O n d) (F : Fld Z h a O n d v)
    (hd : decode bytes pc = .ok (.getfield ix, 3)) (pc' : Nat) (hp : pc + 3 = pc')
    (K : ∀ T', St p l e R s m args below meth c own bytes maxL ret nm Z EL nw us bs T' h cells slots → Goes p e below s Z EL nw Q kk nn (T'.setTop (mkF m pc' Ls (v :: st)))) : Goes p e below s Z EL nw Q kk nn (T.setTop (mkF m pc Ls (.ref a :: st))) := by
  subst hp
  obtain ⟨cx, vm0, locs, Y, N, eT, hS, hZ, hown, r⟩ := X
  obtain ⟨T', Y', e', stp⟩ := getF Y cx.1 hZ hown w via eT F (g := mkF m pc Ls (.ref a :: st)) rfl rfl (hb cx.2.1 hd)
  exact (K T' ⟨cx, vm0, locs, Y', N, e', hS, hZ, hown, r⟩).step stp
theorem g_getS (X : St p l e R s m args below meth c own bytes maxL ret nm Z EL nw us bs T h cells slots) {R0 O n d host : String} {ix : Nat} {v : Value} (w : (Jvm.Cond.fieldLink own ix R0 n d).before a0 Z = true ∨ (Jvm.Cond.fieldLinkNest own ix R0 n d host).before a0 Z = true) (via : Via Z R0 O n d) (F : Sta Z h O n d v)
    (hd : decode bytes pc = .ok (.getstatic ix, 3)) (pc' : Nat) (hp : pc + 3 = pc')
    (K : ∀ T', St p l e R s m args below meth c own bytes maxL ret nm Z EL nw us bs T' h cells slots → Goes p e below s Z EL nw Q kk nn (T'.setTop (mkF m pc' Ls (v :: st)))) : Goes p e below s Z EL nw Q kk nn (T.setTop (mkF m pc Ls st)) := by
  subst hp
  obtain ⟨cx, vm0, locs, Y, N, eT, hS, hZ, hown, r⟩ := X
  obtain ⟨T', Y', e', stp⟩ := getS2 Y cx.1 hZ hown w via eT F (g := mkF m pc Ls st) rfl (hb cx.2.1 hd)
  exact (K T' ⟨cx, vm0, locs, Y', N, e', hS, hZ, hown, r⟩).step stp
theorem own_noassign {C S D : String} {n : Nat} (w : (Jvm.Cond.superclass C S).before a0 Z = true) (w0 : (Jvm.Cond.noSuperclass S).before a0 Z = true) (wi : (Jvm.Cond.instantiable D n).before a0 Z = true) (hn : C ≠ D) (hs : S ≠ D) : ∃ c t, Z.vm.findClass C = some c ∧ Z.vm.findClass D = some t ∧ Z.vm.assignable c t = false := by
  obtain ⟨t, k', g0, g2, g5, gr⟩ := Jvm.Cond.instantiable_spec wi
  obtain ⟨cs, ks, s1, s2, s3, -, -⟩ := Jvm.Cond.noSuperclass_spec w0
  obtain ⟨c, h0⟩ := found_sup w
  obtain ⟨p, k, kp, h1, h2, h3, h4, h5, -, h7⟩ := Jvm.Cond.superclass_spec h0 w
  cases s1.symm.trans h1
  have ne := ids_ne h0 g0 hn
  have ne2 := ids_ne s1 g0 hs
  have gi : k'.isInterface = false := (Bool.or_eq_false_iff.mp gr.1).1
  have n3 : ∀ fuel, Z.vm.isSubclassAux fuel c t = false := by
    intro fuel
    cases fuel with
    | zero => rfl
    | succ f =>
      cases f with
      | zero => simp [Vm.isSubclassAux, ne, h2, h4]
      | succ f => simp [Vm.isSubclassAux, ne, h2, h4, ne2, s2, s3]
  refine ⟨c, t, h0, g0, ?_⟩
  show Z.vm.assignableAux (255 + 1) c t = false
  simp [Vm.assignableAux, ne, h2, g2, h5, g5, Vm.isSubclass, n3, gi]
theorem g_instNull (X : St p l e R s m args below meth c own bytes maxL ret nm Z EL nw us bs T h cells slots) {ix : Nat} (hd : decode bytes pc = .ok (.instanceof ix, 3)) (pc' : Nat) (hp : pc + 3 = pc')
    (K : Goes p e below s Z EL nw Q kk nn (T.setTop (mkF m pc' Ls (.int 0 :: st)))) : Goes p e below s Z EL nw Q kk nn (T.setTop (mkF m pc Ls (.null :: st))) := by
  subst hp
  obtain ⟨vm0, locs, Y⟩ := X.std
  exact K.step fun t k => Y.instanceofNull X.hx (g := mkF m pc Ls (.null :: st)) rfl rfl (hb X.by hd) t k
theorem g_cast (X : St p l e R s m args below meth c own bytes maxL ret nm Z EL nw us bs T h cells slots) {C : String} {ix : Nat} {a : Addr} (w : (Jvm.Cond.classLink own ix C).before a0 Z = true) (F : Ins Z h a C true) (hd : decode bytes pc = .ok (.checkcast ix, 3)) (pc' : Nat) (hp : pc + 3 = pc')
    (K : ∀ T', St p l e R s m args below meth c own bytes maxL ret nm Z EL nw us bs T' h cells slots → Goes p e below s Z EL nw Q kk nn (T'.setTop (mkF m pc' Ls (.ref a :: st)))) : Goes p e below s Z EL nw Q kk nn (T.setTop (mkF m pc Ls (.ref a :: st))) := by
  subst hp
  obtain ⟨cx, vm0, locs, Y, N, eT, hS, hZ, hown, r⟩ := X
  obtain ⟨T', Y', e', stp⟩ := castY Y cx.1 hZ hown w eT F (g := mkF m pc Ls (.ref a :: st)) rfl rfl (hb cx.2.1 hd)
  exact (K T' ⟨cx, vm0, locs, Y', N, e', hS, hZ, hown, r⟩).step stp
theorem g_instY (X : St p l e R s m args below meth c own bytes maxL ret nm Z EL nw us bs T h cells slots) {C : String} {ix : Nat} {a : Addr} (w : (Jvm.Cond.classLink own ix C).before a0 Z = true) (F : Ins Z h a C true) (hd : decode bytes pc = .ok (.instanceof ix, 3)) (pc' : Nat) (hp : pc + 3 = pc')
    (K : ∀ T', St p l e R s m args below meth c own bytes maxL ret nm Z EL nw us bs T' h cells slots → Goes p e below s Z EL nw Q kk nn (T'.setTop (mkF m pc' Ls (.int 1 :: st)))) : Goes p e below s Z EL nw Q kk nn (T.setTop (mkF m pc Ls (.ref a :: st))) := by
  subst hp
  obtain ⟨cx, vm0, locs, Y, N, eT, hS, hZ, hown, r⟩ := X
  obtain ⟨T', Y', e', stp⟩ := instY Y cx.1 hZ hown w eT F (g := mkF m pc Ls (.ref a :: st)) rfl rfl (hb cx.2.1 hd)
  exact (K T' ⟨cx, vm0, locs, Y', N, e', hS, hZ, hown, r⟩).step stp
theorem g_instNo (X : St p l e R s m args below meth c own bytes maxL ret nm Z EL nw us bs T h cells slots) {C D : String} {ix : Nat} {a : Addr} (w : (Jvm.Cond.classLink own ix D).before a0 Z = true) (E : Exa Z h a C) (F : ∃ c t, Z.vm.findClass C = some c ∧ Z.vm.findClass D = some t ∧ Z.vm.assignable c t = false) (hd : decode bytes pc = .ok (.instanceof ix, 3)) (pc' : Nat) (hp : pc + 3 = pc')
    (K : ∀ T', St p l e R s m args below meth c own bytes maxL ret nm Z EL nw us bs T' h cells slots → Goes p e below s Z EL nw Q kk nn (T'.setTop (mkF m pc' Ls (.int 0 :: st)))) : Goes p e below s Z EL nw Q kk nn (T.setTop (mkF m pc Ls (.ref a :: st))) := by
  subst hp
  obtain ⟨cx, vm0, locs, Y, N, eT, hS, hZ, hown, r⟩ := X
  obtain ⟨T', Y', e', stp⟩ := instNo Y cx.1 hZ hown w eT E F (g := mkF m pc Ls (.ref a :: st)) rfl rfl (hb cx.2.1 hd)
  exact (K T' ⟨cx, vm0, locs, Y', N, e', hS, hZ, hown, r⟩).step stp
/-- 'new': the new object is under construction -/
theorem g_new (X : St p l e R s m args below meth c own bytes maxL ret nm Z EL nw us bs T h cells slots) {C : String} {ix k : Nat} (w : (Jvm.Cond.classLink own ix C).before a0 Z = true) (wi : (Jvm.Cond.instantiable C k).before a0 Z = true) (wz : (Jvm.Cond.initialized C).before a0 Z = true)
    (hd : decode bytes pc = .ok (.new ix, 3)) {ck cs : Nat} (hck : cells + 1 = ck) (hcs : slots + k = cs) (hc : ck ≤ R.cells) (hl : cs ≤ R.slots) (pc' : Nat) (hp : pc + 3 = pc')
    (K : ∀ a T' h', a = h.size → St p l e R s m args below meth c own bytes maxL ret nm Z EL nw (a :: us) bs T' h' ck cs → Ext h h' → Exa Z h' a C →
      (∀ {O n d : String} {ty : FieldType}, Laid Z a0 C O n d → parseFieldDescriptor d = some ty → Fld Z h' a O n d (defaultValue ty)) → Goes p e below s Z EL nw Q kk nn (T'.setTop (mkF m pc' Ls (.ref a :: st)))) : Goes p e below s Z EL nw Q kk nn (T.setTop (mkF m pc Ls st)) := by
  subst hp hck hcs
  obtain ⟨cx, vm0, locs, Y, N, eT, hS, hZ, hown, hE, hC, hU, hW⟩ := X
  obtain ⟨T', h', Y', e', E, A, D, -, stp⟩ := newO Y cx.1 hZ hown w wi wz eT (g := mkF m pc Ls st) rfl (hb cx.2.1 hd) hc hl
  refine (K h.size T' h' rfl ⟨cx, vm0, locs, Y', N, e', ⟨hS.1, hS.2.mono E.1⟩, hZ, hown, hE.trans E, hC.trans (CHr.ext E hC.1), ?_, hW⟩ E A (fun L q => D L q)).step stp
  intro x hx
  rcases List.mem_cons.mp hx with rfl | hx
  · exact ⟨hE.1, A.lt, Safe.ext E hC.1 (Safe.new (Nat.le_refl _))⟩
  · obtain ⟨q1, q2, q3⟩ := hU x hx
    exact ⟨q1, Nat.lt_of_lt_of_le q2 E.1, Safe.ext E hC.1 q3⟩
/-- an array of a primitive kind, new -/
theorem g_newP (X : St p l e R s m args below meth c own bytes maxL ret nm Z EL nw us bs T h cells slots) {aty : ArrayType} {z : Int32} (w : (Jvm.Cond.arrayClass (newarray.typeOf aty)).before a0 Z = true) (hd : decode bytes pc = .ok (.newarray aty, 2)) (hn : ¬ z < 0) (cap : Nat) (hcap : z.toNatClampNeg ≤ cap) (hb' : cap * 8 ≤ 536870912)
    {ck cs : Nat} (hck : cells + 1 = ck) (hcs : slots + cap = cs) (hc : ck ≤ R.cells) (hl : cs ≤ R.slots) (pc' : Nat) (hp : pc + 2 = pc')
    (K : ∀ a T' h' k, a = h.size → St p l e R s m args below meth c own bytes maxL ret nm Z EL nw (a :: us) bs T' h' ck cs → Ext h h' → Arv Z h' a k (newarray.typeOf aty) z [] (defaultValue (newarray.typeOf aty)) →
      Goes p e below s Z EL nw Q kk nn (T'.setTop (mkF m pc' Ls (.ref a :: st)))) : Goes p e below s Z EL nw Q kk nn (T.setTop (mkF m pc Ls (.int z :: st))) := by
  subst hp hck hcs
  obtain ⟨cx, vm0, locs, Y, N, eT, hS, hZ, hown, hE, hC, hU, hW⟩ := X
  obtain ⟨T', h', cA, Y', e', E, A, stp⟩ := newP Y cx.1 hZ w eT (g := mkF m pc Ls (.int z :: st)) rfl (hb cx.2.1 hd) rfl hn hcap hb' hc hl
  refine (K h.size T' h' cA rfl ⟨cx, vm0, locs, Y', N, e', ⟨hS.1, hS.2.mono E.1⟩, hZ, hown, hE.trans E, hC.trans (CHr.ext E hC.1), ?_, hW⟩ E (Arv.new A hn)).step stp
  intro x hx
  rcases List.mem_cons.mp hx with rfl | hx
  · exact ⟨hE.1, A.lt, Safe.ext E hC.1 (Safe.new (Nat.le_refl _))⟩
  · obtain ⟨q1, q2, q3⟩ := hU x hx
    exact ⟨q1, Nat.lt_of_lt_of_le q2 E.1, Safe.ext E hC.1 q3⟩
/-- a store's part that is common -/
theorem St.wrote {vm0 : Vm} {locs : List Loc} {T' : State} {h' : Heap} {a : Addr} {sl : Nat} {v : Value}
    (cx : p.tables.exec = Jvm.exec ∧ c.code = bytes ∧ c.maxLocals = maxL ∧ meth.sig.returnType = ret ∧ meth.name = nm ∧ meth.locks = false ∧ ∃ a0, EW Z a0 EL)
    (Y : Stand p l e R (s.setVm vm0) m args below meth c T' (locs ++ [⟨a, sl⟩]) cells slots) (N : Fr Z.heap.size locs) (eT : T'.heap = h') (hS : s.Since vm0 h.size) (hZ : Z.Warmed39 vm0) (hown : vm0.findClass own = some m.cls) (hE : Ext Z.heap h) (hC : CHr Z EL s.vm s.heap vm0 h)
    (hU : ∀ x ∈ us, Z.heap.size ≤ x ∧ x < h.size ∧ Safe Z EL vm0 h x) (hW : (nw = true → s.WarmedH vm0) ∧ ∀ q ∈ bs, Lit (s.setVm vm0) q.1 q.2.1 q.2.2) (W : Wr h h' a sl v) (ha : a ∈ us) : St p l e R s m args below meth c own bytes maxL ret nm Z EL nw us bs T' h' cells slots := by
  obtain ⟨q1, q2, q3⟩ := hU a ha
  refine ⟨cx, vm0, locs ++ [⟨a, sl⟩], Y, Fr.snoc Y N q1, eT, ⟨hS.1, hS.2.mono (Nat.le_of_eq W.size.symm)⟩, hZ, hown, ext_wr hE W q1, hC.trans (CHr.wr W q3 hC.1), fun x hx => ?_, hW⟩
  obtain ⟨r1, r2, r3⟩ := hU x hx
  exact ⟨r1, by rw [W.size]; exact r2, Safe.wr W q3 hC.1 r3⟩
theorem g_putF (X : St p l e R s m args below meth c own bytes maxL ret nm Z EL nw us bs T h cells slots) {R0 O n d host C : String} {ix k : Nat} {ty : FieldType} {a : Addr} {v old : Value} (w : (Jvm.Cond.fieldLink own ix R0 n d).before a0 Z = true ∨ (Jvm.Cond.fieldLinkNest own ix R0 n d host).before a0 Z = true) (via : Via Z R0 O n d) (F : Fld Z h a O n d old) (E : Exa Z h a C)
    (L : (Jvm.Cond.lays C O n d).before a0 Z = true ∨ ((Jvm.Cond.laysFinal C O n d).before a0 Z = true ∧ own = O ∧ nm = "<init>")) (wi : (Jvm.Cond.instantiable C k).before a0 Z = true) (hty : parseFieldDescriptor d = some ty) (hn : narrow ty v = v) (hf : fits ty v = true) (ha : a ∈ us)
    (hd : decode bytes pc = .ok (.putfield ix, 3)) (pc' : Nat) (hp : pc + 3 = pc')
    (K : ∀ T' h', St p l e R s m args below meth c own bytes maxL ret nm Z EL nw us bs T' h' cells slots → Wr h h' a (Jvm.RoadKit.slotOf Z O n d) v → Fld Z h' a O n d v → Exa Z h' a C → Goes p e below s Z EL nw Q kk nn (T'.setTop (mkF m pc' Ls st))) : Goes p e below s Z EL nw Q kk nn (T.setTop (mkF m pc Ls (v :: .ref a :: st))) := by
  subst hp
  obtain ⟨cx, vm0, locs, Y, N, eT, hS, hZ, hown, hE, hC, hU, hW⟩ := X
  have L' : (Jvm.Cond.lays C O n d).before a0 Z = true ∨ ((Jvm.Cond.laysFinal C O n d).before a0 Z = true ∧ own = O ∧ meth.name = "<init>") := by
    rcases L with L | ⟨L1, L2, L3⟩
    · exact Or.inl L
    · exact Or.inr ⟨L1, L2, by rw [cx.2.2.2.2.1]; exact L3⟩
  obtain ⟨T', h', Y', e', W, stp⟩ := putF Y cx.1 hZ hown w via eT F E L' wi hty hn hf (g := mkF m pc Ls (v :: .ref a :: st)) rfl rfl (hb cx.2.1 hd)
  exact (K T' h' (St.wrote cx Y' N e' hS hZ hown hE hC hU hW W ha) W (F.same W) (E.wr W)).step stp
theorem g_castore (X : St p l e R s m args below meth c own bytes maxL ret nm Z EL nw us bs T h cells slots) {a : Addr} {k : ClassId} {z j x : Int32} {vs : List Value} {dv : Value} (A : Arv Z h a k .char z vs dv) (i : Nat) (hj : j.toNatClampNeg = i) (hj0 : ¬ j < 0) (hz : j < z) (hi : i < vs.length) (w : Int32) (hw : nar .char x = w) (ha : a ∈ us)
    (hd : decode bytes pc = .ok (.castore, 1)) (pc' : Nat) (hp : pc + 1 = pc')
    (K : ∀ T' h', St p l e R s m args below meth c own bytes maxL ret nm Z EL nw us bs T' h' cells slots → Wr h h' a i (.int w) → Arv Z h' a k .char z (vs.set i (.int w)) dv → Goes p e below s Z EL nw Q kk nn (T'.setTop (mkF m pc' Ls st))) : Goes p e below s Z EL nw Q kk nn (T.setTop (mkF m pc Ls (.int x :: .int j :: .ref a :: st))) := by
  subst hp hj hw
  obtain ⟨cx, vm0, locs, Y, N, eT, hS, hZ, hown, hE, hC, hU, hW⟩ := X
  obtain ⟨cl, Ar, q1, Sz, q3, H, Gt⟩ := A
  obtain ⟨T', h', Y', e', W, stp⟩ := stC Y cx.1 hZ eT Ar (inb_of Sz ⟨hj0, hz⟩) (g := mkF m pc Ls (.int x :: .int j :: .ref a :: st)) rfl rfl (hb cx.2.1 hd)
  exact (K T' h' (St.wrote cx Y' N e' hS hZ hown hE hC hU hW W ha) W (Arv.set Ar q1 Sz q3 H Gt (fits_nar_char x) W _ rfl hi)).step stp
theorem g_bastore (X : St p l e R s m args below meth c own bytes maxL ret nm Z EL nw us bs T h cells slots) {a : Addr} {k : ClassId} {z j x : Int32} {vs : List Value} {dv : Value} (A : Arv Z h a k .byte z vs dv) (i : Nat) (hj : j.toNatClampNeg = i) (hj0 : ¬ j < 0) (hz : j < z) (hi : i < vs.length) (w : Int32) (hw : nar .byte x = w) (ha : a ∈ us)
    (hd : decode bytes pc = .ok (.bastore, 1)) (pc' : Nat) (hp : pc + 1 = pc')
    (K : ∀ T' h', St p l e R s m args below meth c own bytes maxL ret nm Z EL nw us bs T' h' cells slots → Wr h h' a i (.int w) → Arv Z h' a k .byte z (vs.set i (.int w)) dv → Goes p e below s Z EL nw Q kk nn (T'.setTop (mkF m pc' Ls st))) : Goes p e below s Z EL nw Q kk nn (T.setTop (mkF m pc Ls (.int x :: .int j :: .ref a :: st))) := by
  subst hp hj hw
  obtain ⟨cx, vm0, locs, Y, N, eT, hS, hZ, hown, hE, hC, hU, hW⟩ := X
  obtain ⟨cl, Ar, q1, Sz, q3, H, Gt⟩ := A
  obtain ⟨T', h', Y', e', W, stp⟩ := stB Y cx.1 hZ eT Ar (inb_of Sz ⟨hj0, hz⟩) (g := mkF m pc Ls (.int x :: .int j :: .ref a :: st)) rfl rfl (hb cx.2.1 hd)
  exact (K T' h' (St.wrote cx Y' N e' hS hZ hown hE hC hU hW W ha) W (Arv.set Ar q1 Sz q3 H Gt (fits_nar_byte x) W _ rfl hi)).step stp
theorem arrOf {vm0 : Vm} {cl : Cell} {ty : FieldType} (hZ : Z.Warmed39 vm0) (q : Z.isArrayOf cl ty) : (s.setVm vm0).isArrayOf cl ty := State.isArrayOf_alike (show Z.vm.Alike (s.setVm vm0).vm from hZ.alike) q
theorem g_arrlen (X : St p l e R s m args below meth c own bytes maxL ret nm Z EL nw us bs T h cells slots) {a : Addr} {k : ClassId} {ty : FieldType} {z : Int32} {vs : List Value} {dv : Value} (A : Arv Z h a k ty z vs dv) (hd : decode bytes pc = .ok (.arraylength, 1)) (pc' : Nat) (hp : pc + 1 = pc')
    (K : Goes p e below s Z EL nw Q kk nn (T.setTop (mkF m pc' Ls (.int z :: st)))) : Goes p e below s Z EL nw Q kk nn (T.setTop (mkF m pc Ls (.ref a :: st))) := by
  subst hp
  obtain ⟨cx, vm0, locs, Y, N, eT, hS, hZ, r⟩ := X
  obtain ⟨cl, Ar, q1, Sz, q3, H, Gt⟩ := A
  refine K.step fun t k => Y.arraylength cx.1 (cell := cl) (by rw [eT]; exact Ar.1) (arrOf hZ Ar.2.1) (g := mkF m pc Ls (.ref a :: st)) rfl rfl (hb cx.2.1 hd) t ?_
  rw [len_of Sz q3]; exact k
theorem g_caload (X : St p l e R s m args below meth c own bytes maxL ret nm Z EL nw us bs T h cells slots) {a : Addr} {k : ClassId} {z j : Int32} {vs : List Value} {dv : Value} (A : Arv Z h a k .char z vs dv) (hj0 : ¬ j < 0) (hz : j < z) (v : Value) (hv : vs.getD j.toNatClampNeg dv = v) (hd : decode bytes pc = .ok (.caload, 1)) (pc' : Nat) (hp : pc + 1 = pc')
    (K : Goes p e below s Z EL nw Q kk nn (T.setTop (mkF m pc' Ls (v :: st)))) : Goes p e below s Z EL nw Q kk nn (T.setTop (mkF m pc Ls (.int j :: .ref a :: st))) := by
  subst hp
  obtain ⟨cx, vm0, locs, Y, N, eT, hS, hZ, r⟩ := X
  obtain ⟨cl, Ar, q1, Sz, q3, H, Gt⟩ := A
  have hin := inb_of Sz ⟨hj0, hz⟩
  exact K.step fun t k => Y.caload cx.1 (cell := cl) (by rw [eT]; exact Ar.1) (arrOf hZ Ar.2.1) Ar.2.2 hin (H.at hin hv) (g := mkF m pc Ls (.int j :: .ref a :: st)) rfl rfl (hb cx.2.1 hd) t k
theorem g_baload (X : St p l e R s m args below meth c own bytes maxL ret nm Z EL nw us bs T h cells slots) {a : Addr} {k : ClassId} {z j : Int32} {vs : List Value} {dv : Value} (A : Arv Z h a k .byte z vs dv) (hj0 : ¬ j < 0) (hz : j < z) (v : Value) (hv : vs.getD j.toNatClampNeg dv = v) (hd : decode bytes pc = .ok (.baload, 1)) (pc' : Nat) (hp : pc + 1 = pc')
    (K : Goes p e below s Z EL nw Q kk nn (T.setTop (mkF m pc' Ls (v :: st)))) : Goes p e below s Z EL nw Q kk nn (T.setTop (mkF m pc Ls (.int j :: .ref a :: st))) := by
  subst hp
  obtain ⟨cx, vm0, locs, Y, N, eT, hS, hZ, r⟩ := X
  obtain ⟨cl, Ar, q1, Sz, q3, H, Gt⟩ := A
  have hin := inb_of Sz ⟨hj0, hz⟩
  exact K.step fun t k => Y.baloadBytes cx.1 (cell := cl) (by rw [eT]; exact Ar.1) (arrOf hZ Ar.2.1) Ar.2.2 hin (H.at hin hv) (g := mkF m pc Ls (.int j :: .ref a :: st)) rfl rfl (hb cx.2.1 hd) t k
theorem g_aaload (X : St p l e R s m args below meth c own bytes maxL ret nm Z EL nw us bs T h cells slots) {a : Addr} {k : ClassId} {ty : FieldType} {z j : Int32} {vs : List Value} {dv : Value} (A : Arv Z h a k ty z vs dv) (hty : ty.isReference = true) (hj0 : ¬ j < 0) (hz : j < z) (v : Value) (hv : vs.getD j.toNatClampNeg dv = v) (hd : decode bytes pc = .ok (.aaload, 1)) (pc' : Nat) (hp : pc + 1 = pc')
    (K : Goes p e below s Z EL nw Q kk nn (T.setTop (mkF m pc' Ls (v :: st)))) : Goes p e below s Z EL nw Q kk nn (T.setTop (mkF m pc Ls (.int j :: .ref a :: st))) := by
  subst hp
  obtain ⟨cx, vm0, locs, Y, N, eT, hS, hZ, r⟩ := X
  obtain ⟨cl, Ar, q1, Sz, q3, H, Gt⟩ := A
  have hin := inb_of Sz ⟨hj0, hz⟩
  exact K.step fun t k => Y.aaload cx.1 (cell := cl) (by rw [eT]; exact Ar.1) (arrOf hZ Ar.2.1) hty Ar.2.2 hin (H.at hin hv) (g := mkF m pc Ls (.int j :: .ref a :: st)) rfl rfl (hb cx.2.1 hd) t k
theorem g_aaloadA (X : St p l e R s m args below meth c own bytes maxL ret nm Z EL nw us bs T h cells slots) {a : Addr} {cl : Cell} {ty : FieldType} {j : Int32} (A : Arr Z h a cl ty) (hty : ty.isReference = true) (hin : ¬ (j < 0 ∨ cl.slots.size ≤ j.toNatClampNeg)) {v : Value} (hv : cl.slots[j.toNatClampNeg]? = some v) (hd : decode bytes pc = .ok (.aaload, 1)) (pc' : Nat) (hp : pc + 1 = pc')
    (K : Goes p e below s Z EL nw Q kk nn (T.setTop (mkF m pc' Ls (v :: st)))) : Goes p e below s Z EL nw Q kk nn (T.setTop (mkF m pc Ls (.int j :: .ref a :: st))) := by
  subst hp
  obtain ⟨cx, vm0, locs, Y, N, eT, hS, hZ, r⟩ := X
  exact K.step fun t k => Y.aaload cx.1 (cell := cl) (by rw [eT]; exact A.1) (arrOf hZ A.2.1) hty A.2.2 hin hv (g := mkF m pc Ls (.int j :: .ref a :: st)) rfl rfl (hb cx.2.1 hd) t k
/-- System.arraycopy between two arrays of one primitive kind -/
theorem g_arrcopy (X : St p l e R s m args below meth c own bytes maxL ret nm Z EL nw us bs T h cells slots) {ix : Nat} {a b : Addr} {k k' : ClassId} {ty : FieldType} {z z' sp dp nn0 : Int32} {vs vd : List Value} {dv dd : Value} (w1 : (Jvm.Cond.methodLink own ix Jvm.Stand.acN).before a0 Z = true) (w2 : (Jvm.Cond.native Jvm.Stand.acN).before a0 Z = true) (w3 : (Jvm.Cond.static Jvm.Stand.acN).before a0 Z = true) (w4 : (Jvm.Cond.initialized "java/lang/System").before a0 Z = true)
    (A : Arv Z h a k ty z vs dv) (B : Arv Z h b k' ty z' vd dd) (hty : refKind ty = false) (h1 : ¬ sp < 0) (h2 : ¬ dp < 0) (h3 : ¬ nn0 < 0) (h4 : sp.toNatClampNeg + nn0.toNatClampNeg ≤ z.toNatClampNeg) (h5 : dp.toNatClampNeg + nn0.toNatClampNeg ≤ z'.toNatClampNeg) (hl : dp.toNatClampNeg + nn0.toNatClampNeg ≤ vd.length)
    (vr : List Value) (hvr : vd.take dp.toNatClampNeg ++ ((List.range nn0.toNatClampNeg).map fun i => vs.getD (sp.toNatClampNeg + i) dv) ++ vd.drop (dp.toNatClampNeg + nn0.toNatClampNeg) = vr) (hb' : b ∈ us) (hsize : Ls.size = maxL) (hd : decode bytes pc = .ok (.invokestatic ix, 3))
    (hf : 1 ≤ R.frames) (W : Nat) (hW : (st.map fun v => v.category).sum ≤ W) (hlo : W + (nativeFrameWords "java/lang/System" "arraycopy" 5 + 11) ≤ R.locals) (pc' : Nat) (hp : pc + 3 = pc')
    (K : ∀ T' h', St p l e R s m args below meth c own bytes maxL ret nm Z EL nw us bs T' h' cells slots → Keep h h' [b] → Arv Z h' b k' ty z' vr dd → Goes p e below s Z EL nw Q kk nn (T'.setTop (mkF m pc' Ls st))) : Goes p e below s Z EL nw Q kk nn (T.setTop (mkF m pc Ls (.int nn0 :: .int dp :: .ref b :: .int sp :: .ref a :: st))) := by
  subst hp hvr
  obtain ⟨cx, vm0, locs, Y, N, eT, hS, hZ, hown, hE, hC, hU, hWn⟩ := X
  obtain ⟨u1, u2, u3⟩ := hU b hb'
  obtain ⟨T', h', L, Y', e', N', K', A', stp⟩ := cpA Y cx.1 hZ hown w1 w2 w3 w4 eT A B (Or.inl ⟨rfl, hty⟩) h1 h2 h3 h4 h5 rfl hl N u1 (g := mkF m pc Ls (.int nn0 :: .int dp :: .ref b :: .int sp :: .ref a :: st)) rfl (by rw [cx.2.2.1]; exact hsize) rfl (hb cx.2.1 hd) hf (W := W) (by show 2 * 0 + _ ≤ _; omega) hlo
  have hsf : ∀ x ∈ [b], Safe Z EL vm0 h x := fun x hx => by cases List.mem_singleton.mp hx; exact u3
  exact (K T' h' ⟨cx, vm0, L, Y', N', e', ⟨hS.1, hS.2.mono K'.1⟩, hZ, hown, ext_keep hE K' (fun x hx => by cases List.mem_singleton.mp hx; exact u1), hC.trans (CHr.keep K' hsf hC.1), fun x hx => ⟨(hU x hx).1, Nat.lt_of_lt_of_le (hU x hx).2.1 K'.1, Safe.keep K' hsf hC.1 (hU x hx).2.2⟩, hWn⟩ K' A').step stp
/-- Object's constructor -/
theorem g_initO (X : St p l e R s m args below meth c own bytes maxL ret nm Z EL nw us bs T h cells slots) {ix : Nat} {a : Addr} (w1 : (Jvm.Cond.methodLink own ix Lib.objectInit).before a0 Z = true) (w2 : (Jvm.Cond.instanceMethod Lib.objectInit).before a0 Z = true) (w3 : (Jvm.Cond.code Lib.objectInit ⟨#[0xb1]⟩ 1 none).before a0 Z = true) (hsize : Ls.size = maxL)
    (hd : decode bytes pc = .ok (.invokespecial ix, 3)) (hf : 1 ≤ R.frames) (W : Nat) (hW : (st.map fun v => v.category).sum ≤ W) (hl : W + 12 ≤ R.locals) (pc' : Nat) (hp : pc + 3 = pc')
    (K : ∀ T', St p l e R s m args below meth c own bytes maxL ret nm Z EL nw us bs T' h cells slots → Goes p e below s Z EL nw Q kk nn (T'.setTop (mkF m pc' Ls st))) : Goes p e below s Z EL nw Q kk nn (T.setTop (mkF m pc Ls (.ref a :: st))) := by
  subst hp
  obtain ⟨cx, vm0, locs, Y, N, eT, hS, hZ, hown, r⟩ := X
  obtain ⟨T', Y', e', stp⟩ := initO Y cx.1 hZ hown w1 w2 w3 eT (g := mkF m pc Ls (.ref a :: st)) rfl (by rw [cx.2.2.1]; exact hsize) rfl (hb cx.2.1 hd) hf (W := W) (by show 2 * 0 + _ ≤ _; omega) hl
  exact (K T' ⟨cx, vm0, locs, Y', N, e', hS, hZ, hown, r⟩).step stp
/-- an array's clone -/
theorem g_clone (X : St p l e R s m args below meth c own bytes maxL ret nm Z EL nw us bs T h cells slots) {ad : String} {ix : Nat} {a : Addr} {k : ClassId} {ty : FieldType} {z : Int32} {vs : List Value} {dv : Value}
    (w1 : (Jvm.Cond.methodLink own ix ⟨ad, "clone", "()Ljava/lang/Object;"⟩).before a0 Z = true) (w2 : (Jvm.Cond.sameMethod ad "java/lang/Object" "clone" "()Ljava/lang/Object;").before a0 Z = true) (w3 : (Jvm.Cond.native ⟨"java/lang/Object", "clone", "()Ljava/lang/Object;"⟩).before a0 Z = true)
    (w4 : (Jvm.Cond.instanceMethod ⟨"java/lang/Object", "clone", "()Ljava/lang/Object;"⟩).before a0 Z = true) (w5 : (Jvm.Cond.selects ad ⟨ad, "clone", "()Ljava/lang/Object;"⟩ ⟨"java/lang/Object", "clone", "()Ljava/lang/Object;"⟩).before a0 Z = true) (w6 : (Jvm.Cond.castable ad "java/lang/Cloneable").before a0 Z = true)
    (A : Arv Z h a k ty z vs dv) (E : Exa Z h a ad) (hsize : Ls.size = maxL) (hd : decode bytes pc = .ok (.invokevirtual ix, 3)) (hf : 1 ≤ R.frames) (W : Nat) (hW : (st.map fun v => v.category).sum ≤ W) (hl : W + 14 ≤ R.locals) (cap : Nat) (hcap : z.toNatClampNeg ≤ cap)
    {ck cs : Nat} (hck : cells + 1 = ck) (hcs : slots + cap = cs) (hc : ck ≤ R.cells) (hs : cs ≤ R.slots) (pc' : Nat) (hp : pc + 3 = pc')
    (K : ∀ a' T' h', a' = h.size → St p l e R s m args below meth c own bytes maxL ret nm Z EL nw (a' :: us) bs T' h' ck cs → Ext h h' → Arv Z h' a' k ty z vs dv → Exa Z h' a' ad → Goes p e below s Z EL nw Q kk nn (T'.setTop (mkF m pc' Ls (.ref a' :: st)))) : Goes p e below s Z EL nw Q kk nn (T.setTop (mkF m pc Ls (.ref a :: st))) := by
  subst hp hck hcs
  obtain ⟨cx, vm0, locs, Y, N, eT, hS, hZ, hown, hE, hC, hU, hWn⟩ := X
  obtain ⟨T', h', Y', e', Ex, A', E', stp⟩ := cloneH Y cx.1 hZ hown w1 w2 w3 w4 w5 w6 eT A.arh E (g := mkF m pc Ls (.ref a :: st)) rfl (by rw [cx.2.2.1]; exact hsize) rfl (hb cx.2.1 hd) hf (W := W) (by show 2 * 0 + _ ≤ _; omega) hl hcap hc hs
  obtain ⟨cl, q1, q2, q3, q4, q5, q6⟩ := A'
  refine (K h.size T' h' rfl ⟨cx, vm0, locs, Y', N, e', ⟨hS.1, hS.2.mono Ex.1⟩, hZ, hown, hE.trans Ex, hC.trans (CHr.ext Ex hC.1), ?_, hWn⟩ Ex ⟨cl, q1, q2, q3, q4, fun i hi => q5 i hi, fun i hi => q6 i hi⟩ E').step stp
  intro x hx
  rcases List.mem_cons.mp hx with rfl | hx
  · exact ⟨hE.1, E'.lt, Safe.ext Ex hC.1 (Safe.new (Nat.le_refl _))⟩
  · obtain ⟨q1, q2, q3⟩ := hU x hx
    exact ⟨q1, Nat.lt_of_lt_of_le q2 Ex.1, Safe.ext Ex hC.1 q3⟩
end HeapOps
section CallOps
variable {p : Program} {l : Launch} {e : Env} {R : Room} {s : State} {m : MethodId} {args : Array Value} {below : List Frame} {meth : Method} {c : Code}
  {own : String} {bytes : ByteArray} {maxL : Nat} {ret : Option FieldType} {nm : String} {Z : State} {EL : List (String × Nat)} {nw : Bool} {us : List Addr} {bs : List (String × Nat × Addr)}
  {T : State} {h : Heap} {cells slots : Nat} {Q : Option Value → Heap → Prop} {kk nn : Nat} {a0 : Array Value} {pc : Nat} {Ls : Array Slot} {st : List Value}

/-- who pays a call: the callee's contract -/
theorem backC {y : MethodName} {cb : ByteArray} {cm : Nat} {cr : Option FieldType} {rm : Room} {len W : Nat} {as' : Array Value} {us' : List Addr} {Qc : Option Value → Heap → Prop} {vm0 : Vm}
    (hM : Ctr l Z EL nw y cb cm cr rm as' h us' Qc) (hZ : Z.Warmed39 vm0) (wc : (Jvm.Cond.code y cb cm cr).before a0 Z = true) (wz : (Jvm.Cond.initialized y.cls).before a0 Z = true) (hf : rm.frames + 1 ≤ R.frames) (hl : W + (cm + 11) + rm.locals ≤ R.locals)
    {a1 : Array Value} (hEL : EW Z a1 EL) (hE : Ext Z.heap h) (H : CHv Z EL vm0 h) (hU : ∀ x ∈ us', Z.heap.size ≤ x ∧ x < h.size ∧ Safe Z EL vm0 h x) :
    BackS l R p e below (s.setVm vm0) args y len W (fun A a => a = as' ∧ A.U.heap = h ∧ A.cells + rm.cells ≤ R.cells ∧ A.slots + rm.slots ≤ R.slots)
      (fun A _ v B => ∃ L, Qc v B.U.heap ∧ Fr Z.heap.size L ∧ Ext Z.heap B.U.heap ∧ B.locs = A.locs ++ L ∧ B.cells = A.cells + rm.cells ∧ B.slots = A.slots + rm.slots ∧ CHr Z EL vm0 h B.U.vm B.U.heap ∧ (nw = true → (s.setVm vm0).WarmedH B.U.vm)) :=
  BackS.of_freeW (bytes := cb) (maxL := cm) (ret := cr)
    (E := fun _ first o t L k n => k = rm.cells ∧ n = rm.slots ∧ (∃ v, o = .returned v ∧ Qc v t.heap) ∧ Fr Z.heap.size L ∧ Ext Z.heap t.heap ∧ CHr Z EL first.vm first.heap t.vm t.heap ∧ (nw = true → first.WarmedH t.vm)) (hM []) hf hl
    (fun m meth c A a Y hp => have hU : Z.Warmed39 A.U.vm := wtrans (s := s.setVm vm0) hZ Y.warmed
      ⟨by show (Jvm.Cond.and _ .tt).before a A.U = true; rw [Jvm.Cond.before_and, mv hU wc]; rfl, mv hU wc, mv hU wz, hp.2.2.1, hp.2.2.2⟩)
    (fun m meth c A a g mk Y hp => ⟨hp.1, wtrans (s := s.setVm vm0) hZ Y.warmed, hp.2.1, hE, (CHv.at Y hZ hEL H).1, fun x hx => ⟨(hU x hx).1, (hU x hx).2.1, (CHv.at Y hZ hEL H).safe (hU x hx).2.1 (hU x hx).2.2⟩⟩) (fun _ _ _ _ _ _ _ _ _ => trivial)
    (fun _ _ _ _ ⟨v, L, h1, h2, h3, h4, h5, h6, h7⟩ => ⟨L, _, _, h6, rfl, rfl, ⟨v, h1, h2⟩, h3, h4, h5, h7⟩)
    (fun m meth c A a g mk v t L k n Y hp _ _ ⟨e1, e2, ⟨v', e3, e4⟩, e5, e6, e7, e8⟩ => by
      cases e3; subst e1 e2
      refine ⟨L, e4, e5, e6, rfl, rfl, rfl, (CHv.at Y hZ hEL H).trans ?_, fun q => State.WarmedH.trans (t := A.U) Y.warmed (e8 q)⟩
      rw [← hp.2.1]; exact e7)
/-- behind a call -/
theorem St.back {vm0 : Vm} {locs : List Loc} {B : Pt} {L : List Loc} {ck cs : Nat}
    (cx : p.tables.exec = Jvm.exec ∧ c.code = bytes ∧ c.maxLocals = maxL ∧ meth.sig.returnType = ret ∧ meth.name = nm ∧ meth.locks = false ∧ ∃ a0, EW Z a0 EL)
    (N : Fr Z.heap.size locs) (hS : s.Since vm0 h.size) (hZ : Z.Warmed39 vm0) (hown : vm0.findClass own = some m.cls) (hC : CHr Z EL s.vm s.heap vm0 h)
    (hU : ∀ x ∈ us, Z.heap.size ≤ x ∧ x < h.size ∧ Safe Z EL vm0 h x) (hW : (nw = true → s.WarmedH vm0) ∧ ∀ q ∈ bs, Lit (s.setVm vm0) q.1 q.2.1 q.2.2)
    (Y : Stand p l e R ((s.setVm vm0).setVm B.U.vm) m args below meth c B.U B.locs B.cells B.slots) (h2 : (s.setVm vm0).Since B.U.vm B.U.heap.size) (hg : h.size ≤ B.U.heap.size)
    (N' : Fr Z.heap.size L) (hE : Ext Z.heap B.U.heap) (l1 : B.locs = locs ++ L) (l2 : B.cells = ck) (l3 : B.slots = cs) (hC' : CHr Z EL vm0 h B.U.vm B.U.heap) (hW' : nw = true → (s.setVm vm0).WarmedH B.U.vm) :
    St p l e R s m args below meth c own bytes maxL ret nm Z EL nw us bs B.U B.U.heap ck cs := by
  subst l2 l3
  rw [l1] at Y
  exact ⟨cx, B.U.vm, locs ++ L, Y, N.app N', rfl, hS.trans h2 hg, State.Warmed39.trans hZ h2.1, (h2.1.alike.findClass _ _).trans hown, hE, hC.trans hC', fun x hx => ⟨(hU x hx).1, Nat.lt_of_lt_of_le (hU x hx).2.1 hg, hC'.safe (hU x hx).2.1 (hU x hx).2.2⟩, fun q => State.WarmedH.trans (t := s.setVm vm0) (hW.1 q) (hW' q), fun q hq => (hW.2 q hq).stays h2.1⟩
theorem g_callS (X : St p l e R s m args below meth c own bytes maxL ret nm Z EL nw us bs T h cells slots) {y : MethodName} {cb : ByteArray} {cm : Nat} {cr : Option FieldType} {rm : Room} {as' : Array Value} {us' : List Addr} {Qc : Option Value → Heap → Prop} {ix : Nat}
    (w1 : (Jvm.Cond.methodLink own ix y).before a0 Z = true) (w2 : (Jvm.Cond.static y).before a0 Z = true) (w3 : (Jvm.Cond.initialized y.cls).before a0 Z = true) (w4 : (Jvm.Cond.code y cb cm cr).before a0 Z = true)
    (hy : y.cls ≠ "java/lang/invoke/MethodHandle" ∧ y.cls ≠ "java/lang/invoke/VarHandle") (hM : Ctr l Z EL nw y cb cm cr rm as' h us' Qc) (hus : ∀ x ∈ us', x ∈ us)
    {argsL rest : List Value} {ps : List FieldType} {rt : Option FieldType} (hpd : parseMethodDescriptor y.desc = some ⟨ps, rt⟩) (hlen : argsL.length = ps.length) (has : argsL.toArray = as') (hst : st = argsL.reverse ++ rest) (hsize : Ls.size = maxL)
    (W : Nat) (hW : (rest.map fun v => v.category).sum ≤ W) (hf : rm.frames + 1 ≤ R.frames) (hl : W + (cm + 11) + rm.locals ≤ R.locals) {ck cs : Nat} (hck : cells + rm.cells = ck) (hcs : slots + rm.slots = cs) (hc : ck ≤ R.cells) (hs : cs ≤ R.slots)
    (hd : decode bytes pc = .ok (.invokestatic ix, 3)) (pc' : Nat) (hp : pc + 3 = pc')
    (K : ∀ v T' h', St p l e R s m args below meth c own bytes maxL ret nm Z EL nw us bs T' h' ck cs → Qc v h' → Goes p e below s Z EL nw Q kk nn (T'.setTop (mkF m pc' Ls (v.toList ++ rest)))) : Goes p e below s Z EL nw Q kk nn (T.setTop (mkF m pc Ls st)) := by
  subst hp hck hcs
  obtain ⟨cx, vm0, locs, Y, N, eT, hS, hZ, hown, hE, hC, hU, hWn⟩ := X
  obtain ⟨a1, hEL⟩ := cx.2.2.2.2.2.2
  have w4' := mvT (s := s.setVm vm0) (args := args) hZ w4
  obtain ⟨mk, hnamed⟩ := Jvm.Cond.code_named w4'
  obtain ⟨methM, cM, hmethM, -, -, -, -, -, -, hsigM⟩ := Jvm.Cond.code_spec hnamed w4'
  obtain ⟨v, vm₁, B, -, Y', h2, hg, ⟨L, q1, q2, q3, q4, q5, q6, q7, q8⟩, stp⟩ := Y.staticBackS cx.1 (own := own) (index := ix) (y := y) hown (mvT (s := s.setVm vm0) hZ w1) (mvT (s := s.setVm vm0) hZ w2) (mvT (s := s.setVm vm0) hZ w3) hnamed hmethM hsigM hy
    (backC (W := W) hM hZ w4 w3 hf hl hEL hE hC.1 fun x hx => hU x (hus x hx)) (g := mkF m pc Ls st) rfl (by rw [cx.2.2.1]; exact hsize) (Steps.refl _) (argsL := argsL) (rest := rest) (lenOf hpd hlen) hst (by show 2 * 0 + _ ≤ _; omega) (hb cx.2.1 hd)
    (fun _ _ => ⟨has, eT, hc, hs⟩)
  exact (K v B.U B.U.heap (St.back cx N hS hZ hown hC hU hWn Y' h2 (by rw [← eT]; exact hg) q2 q3 q4 q5 q6 q7 q8) q1).step fun t k => stp.trans k
theorem g_callI (X : St p l e R s m args below meth c own bytes maxL ret nm Z EL nw us bs T h cells slots) {y : MethodName} {cb : ByteArray} {cm : Nat} {rm : Room} {as' : Array Value} {us' : List Addr} {Qc : Option Value → Heap → Prop} {ix : Nat} (hy1 : y.name = "<init>")
    (w1 : (Jvm.Cond.methodLink own ix y).before a0 Z = true) (w2 : (Jvm.Cond.instanceMethod y).before a0 Z = true) (w3 : (Jvm.Cond.initialized y.cls).before a0 Z = true) (w4 : (Jvm.Cond.code y cb cm none).before a0 Z = true)
    (hy : y.cls ≠ "java/lang/invoke/MethodHandle" ∧ y.cls ≠ "java/lang/invoke/VarHandle") (hM : Ctr l Z EL nw y cb cm none rm as' h us' Qc) (hus : ∀ x ∈ us', x ∈ us)
    {a : Addr} {argsL rest : List Value} {ps : List FieldType} {rt : Option FieldType} (hpd : parseMethodDescriptor y.desc = some ⟨ps, rt⟩) (hlen : argsL.length = ps.length) (has : (.ref a :: argsL).toArray = as') (hst : st = argsL.reverse ++ .ref a :: rest) (hsize : Ls.size = maxL)
    (W : Nat) (hW : (rest.map fun v => v.category).sum ≤ W) (hf : rm.frames + 1 ≤ R.frames) (hl : W + (cm + 11) + rm.locals ≤ R.locals) {ck cs : Nat} (hck : cells + rm.cells = ck) (hcs : slots + rm.slots = cs) (hc : ck ≤ R.cells) (hs : cs ≤ R.slots)
    (hd : decode bytes pc = .ok (.invokespecial ix, 3)) (pc' : Nat) (hp : pc + 3 = pc')
    (K : ∀ v T' h', St p l e R s m args below meth c own bytes maxL ret nm Z EL nw us bs T' h' ck cs → Qc v h' → Goes p e below s Z EL nw Q kk nn (T'.setTop (mkF m pc' Ls (v.toList ++ rest)))) : Goes p e below s Z EL nw Q kk nn (T.setTop (mkF m pc Ls st)) := by
  subst hp hck hcs
  obtain ⟨cx, vm0, locs, Y, N, eT, hS, hZ, hown, hE, hC, hU, hWn⟩ := X
  obtain ⟨a1, hEL⟩ := cx.2.2.2.2.2.2
  obtain ⟨v, vm₁, B, -, Y', h2, hg, ⟨L, q1, q2, q3, q4, q5, q6, q7, q8⟩, stp⟩ := Y.specialBackS cx.1 (own := own) (index := ix) (y := y) hy1 hown (mvT (s := s.setVm vm0) hZ w1) (mvT (s := s.setVm vm0) hZ w2) (mvT (s := s.setVm vm0) hZ w4) hy
    (backC (W := W) hM hZ w4 w3 hf hl hEL hE hC.1 fun x hx => hU x (hus x hx)) (g := mkF m pc Ls st) rfl (by rw [cx.2.2.1]; exact hsize) (Steps.refl _) (a := a) (argsL := argsL) (rest := rest) (lenOf hpd hlen) hst (by show 2 * 0 + _ ≤ _; omega) (hb cx.2.1 hd)
    (fun _ _ => ⟨has, eT, hc, hs⟩)
  exact (K v B.U B.U.heap (St.back cx N hS hZ hown hC hU hWn Y' h2 (by rw [← eT]; exact hg) q2 q3 q4 q5 q6 q7 q8) q1).step fun t k => stp.trans k
theorem nfSel {C : String} {y : MethodName} (w : (Jvm.Cond.selects C y y).before a0 Z = true) : ∀ s' : State, Z.Warmed39 s'.vm → NotFace s' y := fun s' hZ => notFace_of_selects (args := #[]) (mvT (s := s') hZ w)
theorem g_callV (X : St p l e R s m args below meth c own bytes maxL ret nm Z EL nw us bs T h cells slots) {C : String} {y z : MethodName} {cb : ByteArray} {cm : Nat} {cr : Option FieldType} {rm : Room} {as' : Array Value} {us' : List Addr} {Qc : Option Value → Heap → Prop} {ix : Nat}
    (w1 : (Jvm.Cond.methodLink own ix y).before a0 Z = true) (w2 : (Jvm.Cond.declares y).before a0 Z = true) (w3 : (Jvm.Cond.selects C y z).before a0 Z = true) (w4 : (Jvm.Cond.instanceMethod z).before a0 Z = true) (w5 : (Jvm.Cond.initialized z.cls).before a0 Z = true) (w6 : (Jvm.Cond.code z cb cm cr).before a0 Z = true)
    (hnf : ∀ s' : State, Z.Warmed39 s'.vm → NotFace s' y) (hy : y.cls ≠ "java/lang/invoke/MethodHandle" ∧ y.cls ≠ "java/lang/invoke/VarHandle") {a : Addr} (Ex : Exa Z h a C) (hM : Ctr l Z EL nw z cb cm cr rm as' h us' Qc) (hus : ∀ x ∈ us', x ∈ us)
    {argsL rest : List Value} {ps : List FieldType} {rt : Option FieldType} (hpd : parseMethodDescriptor y.desc = some ⟨ps, rt⟩) (hlen : argsL.length = ps.length) (has : (.ref a :: argsL).toArray = as') (hst : st = argsL.reverse ++ .ref a :: rest) (hsize : Ls.size = maxL)
    (W : Nat) (hW : (rest.map fun v => v.category).sum ≤ W) (hf : rm.frames + 1 ≤ R.frames) (hl : W + (cm + 11) + rm.locals ≤ R.locals) {ck cs : Nat} (hck : cells + rm.cells = ck) (hcs : slots + rm.slots = cs) (hc : ck ≤ R.cells) (hs : cs ≤ R.slots)
    (hd : decode bytes pc = .ok (.invokevirtual ix, 3)) (pc' : Nat) (hp : pc + 3 = pc')
    (K : ∀ v T' h', St p l e R s m args below meth c own bytes maxL ret nm Z EL nw us bs T' h' ck cs → Qc v h' → Goes p e below s Z EL nw Q kk nn (T'.setTop (mkF m pc' Ls (v.toList ++ rest)))) : Goes p e below s Z EL nw Q kk nn (T.setTop (mkF m pc Ls st)) := by
  subst hp hck hcs
  obtain ⟨cx, vm0, locs, Y, N, eT, hS, hZ, hown, hE, hC, hU, hWn⟩ := X
  obtain ⟨a1, hEL⟩ := cx.2.2.2.2.2.2
  obtain ⟨cq, kq, qa, qb, qc⟩ := isOf (s := s.setVm vm0) hZ eT Ex
  obtain ⟨v, vm₁, B, -, Y', h2, hg, ⟨L, q1, q2, q3, q4, q5, q6, q7, q8⟩, stp⟩ := Y.virtualBackS cx.1 (own := own) (index := ix) (y := y) (z := z) hown (mvT (s := s.setVm vm0) hZ w1) (mvT (s := s.setVm vm0) hZ w2) (hnf (s.setVm vm0) hZ) (mvT (s := s.setVm vm0) hZ w3) (mvT (s := s.setVm vm0) hZ w4) hy
    (backC (W := W) hM hZ w6 w5 hf hl hEL hE hC.1 fun x hx => hU x (hus x hx)) qa qc (g := mkF m pc Ls st) rfl (by rw [cx.2.2.1]; exact hsize) (Steps.refl _) (argsL := argsL) (rest := rest) (lenOf hpd hlen) hst (by show 2 * 0 + _ ≤ _; omega) (hb cx.2.1 hd)
    (fun _ _ => ⟨has, eT, hc, hs⟩)
  exact (K v B.U B.U.heap (St.back cx N hS hZ hown hC hU hWn Y' h2 (by rw [← eT]; exact hg) q2 q3 q4 q5 q6 q7 q8) q1).step fun t k => stp.trans k
theorem g_callSp (X : St p l e R s m args below meth c own bytes maxL ret nm Z EL nw us bs T h cells slots) {y : MethodName} {cb : ByteArray} {cm : Nat} {cr : Option FieldType} {rm : Room} {as' : Array Value} {us' : List Addr} {Qv : Value → Prop} {ix : Nat}
    (w1 : (Jvm.Cond.methodLink own ix y).before a0 Z = true) (w2 : (Jvm.Cond.static y).before a0 Z = true) (w3 : (Jvm.Cond.initialized y.cls).before a0 Z = true) (w4 : (Jvm.Cond.code y cb cm cr).before a0 Z = true)
    (hy : y.cls ≠ "java/lang/invoke/MethodHandle" ∧ y.cls ≠ "java/lang/invoke/VarHandle") (hM : Ctr l Z EL nw y cb cm cr rm as' h us' (PureQ h Qv)) (hus : ∀ x ∈ us', x ∈ us)
    {argsL rest : List Value} {ps : List FieldType} {rt : Option FieldType} (hpd : parseMethodDescriptor y.desc = some ⟨ps, rt⟩) (hlen : argsL.length = ps.length) (has : argsL.toArray = as') (hst : st = argsL.reverse ++ rest) (hsize : Ls.size = maxL)
    (W : Nat) (hW : (rest.map fun v => v.category).sum ≤ W) (hf : rm.frames + 1 ≤ R.frames) (hl : W + (cm + 11) + rm.locals ≤ R.locals) {ck cs : Nat} (hck : cells + rm.cells = ck) (hcs : slots + rm.slots = cs) (hc : ck ≤ R.cells) (hs : cs ≤ R.slots)
    (hd : decode bytes pc = .ok (.invokestatic ix, 3)) (pc' : Nat) (hp : pc + 3 = pc')
    (K : ∀ w T', St p l e R s m args below meth c own bytes maxL ret nm Z EL nw us bs T' h ck cs → Qv w → Goes p e below s Z EL nw Q kk nn (T'.setTop (mkF m pc' Ls (w :: rest)))) : Goes p e below s Z EL nw Q kk nn (T.setTop (mkF m pc Ls st)) :=
  g_callS X w1 w2 w3 w4 hy hM hus hpd hlen has hst hsize W hW hf hl hck hcs hc hs hd pc' hp (by
    intro v T' h' X' hq
    obtain ⟨rfl, w, rfl, hw⟩ := hq
    exact K w T' X' hw)
theorem g_callSv (X : St p l e R s m args below meth c own bytes maxL ret nm Z EL nw us bs T h cells slots) {y : MethodName} {cb : ByteArray} {cm : Nat} {cr : Option FieldType} {rm : Room} {as' : Array Value} {us' : List Addr} {Qv : Value → Heap → Prop} {ix : Nat}
    (w1 : (Jvm.Cond.methodLink own ix y).before a0 Z = true) (w2 : (Jvm.Cond.static y).before a0 Z = true) (w3 : (Jvm.Cond.initialized y.cls).before a0 Z = true) (w4 : (Jvm.Cond.code y cb cm cr).before a0 Z = true)
    (hy : y.cls ≠ "java/lang/invoke/MethodHandle" ∧ y.cls ≠ "java/lang/invoke/VarHandle") (hM : Ctr l Z EL nw y cb cm cr rm as' h us' (ValQ Qv)) (hus : ∀ x ∈ us', x ∈ us)
    {argsL rest : List Value} {ps : List FieldType} {rt : Option FieldType} (hpd : parseMethodDescriptor y.desc = some ⟨ps, rt⟩) (hlen : argsL.length = ps.length) (has : argsL.toArray = as') (hst : st = argsL.reverse ++ rest) (hsize : Ls.size = maxL)
    (W : Nat) (hW : (rest.map fun v => v.category).sum ≤ W) (hf : rm.frames + 1 ≤ R.frames) (hl : W + (cm + 11) + rm.locals ≤ R.locals) {ck cs : Nat} (hck : cells + rm.cells = ck) (hcs : slots + rm.slots = cs) (hc : ck ≤ R.cells) (hs : cs ≤ R.slots)
    (hd : decode bytes pc = .ok (.invokestatic ix, 3)) (pc' : Nat) (hp : pc + 3 = pc')
    (K : ∀ w T' h', St p l e R s m args below meth c own bytes maxL ret nm Z EL nw us bs T' h' ck cs → Qv w h' → Goes p e below s Z EL nw Q kk nn (T'.setTop (mkF m pc' Ls (w :: rest)))) : Goes p e below s Z EL nw Q kk nn (T.setTop (mkF m pc Ls st)) :=
  g_callS X w1 w2 w3 w4 hy hM hus hpd hlen has hst hsize W hW hf hl hck hcs hc hs hd pc' hp (by
    intro v T' h' X' hq
    obtain ⟨w, rfl, hw⟩ := hq
    exact K w T' h' X' hw)
theorem g_callSn (X : St p l e R s m args below meth c own bytes maxL ret nm Z EL nw us bs T h cells slots) {y : MethodName} {cb : ByteArray} {cm : Nat} {cr : Option FieldType} {rm : Room} {as' : Array Value} {us' : List Addr} {Qn : Heap → Prop} {ix : Nat}
    (w1 : (Jvm.Cond.methodLink own ix y).before a0 Z = true) (w2 : (Jvm.Cond.static y).before a0 Z = true) (w3 : (Jvm.Cond.initialized y.cls).before a0 Z = true) (w4 : (Jvm.Cond.code y cb cm cr).before a0 Z = true)
    (hy : y.cls ≠ "java/lang/invoke/MethodHandle" ∧ y.cls ≠ "java/lang/invoke/VarHandle") (hM : Ctr l Z EL nw y cb cm cr rm as' h us' (VoidQ Qn)) (hus : ∀ x ∈ us', x ∈ us)
    {argsL rest : List Value} {ps : List FieldType} {rt : Option FieldType} (hpd : parseMethodDescriptor y.desc = some ⟨ps, rt⟩) (hlen : argsL.length = ps.length) (has : argsL.toArray = as') (hst : st = argsL.reverse ++ rest) (hsize : Ls.size = maxL)
    (W : Nat) (hW : (rest.map fun v => v.category).sum ≤ W) (hf : rm.frames + 1 ≤ R.frames) (hl : W + (cm + 11) + rm.locals ≤ R.locals) {ck cs : Nat} (hck : cells + rm.cells = ck) (hcs : slots + rm.slots = cs) (hc : ck ≤ R.cells) (hs : cs ≤ R.slots)
    (hd : decode bytes pc = .ok (.invokestatic ix, 3)) (pc' : Nat) (hp : pc + 3 = pc')
    (K : ∀ T' h', St p l e R s m args below meth c own bytes maxL ret nm Z EL nw us bs T' h' ck cs → Qn h' → Goes p e below s Z EL nw Q kk nn (T'.setTop (mkF m pc' Ls rest))) : Goes p e below s Z EL nw Q kk nn (T.setTop (mkF m pc Ls st)) :=
  g_callS X w1 w2 w3 w4 hy hM hus hpd hlen has hst hsize W hW hf hl hck hcs hc hs hd pc' hp (by
    intro v T' h' X' hq
    obtain ⟨rfl, hw⟩ := hq
    exact K T' h' X' hw)
theorem g_callIn (X : St p l e R s m args below meth c own bytes maxL ret nm Z EL nw us bs T h cells slots) {y : MethodName} {cb : ByteArray} {cm : Nat} {rm : Room} {as' : Array Value} {us' : List Addr} {Qn : Heap → Prop} {ix : Nat} (hy1 : y.name = "<init>")
    (w1 : (Jvm.Cond.methodLink own ix y).before a0 Z = true) (w2 : (Jvm.Cond.instanceMethod y).before a0 Z = true) (w3 : (Jvm.Cond.initialized y.cls).before a0 Z = true) (w4 : (Jvm.Cond.code y cb cm none).before a0 Z = true)
    (hy : y.cls ≠ "java/lang/invoke/MethodHandle" ∧ y.cls ≠ "java/lang/invoke/VarHandle") (hM : Ctr l Z EL nw y cb cm none rm as' h us' (VoidQ Qn)) (hus : ∀ x ∈ us', x ∈ us)
    {a : Addr} {argsL rest : List Value} {ps : List FieldType} {rt : Option FieldType} (hpd : parseMethodDescriptor y.desc = some ⟨ps, rt⟩) (hlen : argsL.length = ps.length) (has : (.ref a :: argsL).toArray = as') (hst : st = argsL.reverse ++ .ref a :: rest) (hsize : Ls.size = maxL)
    (W : Nat) (hW : (rest.map fun v => v.category).sum ≤ W) (hf : rm.frames + 1 ≤ R.frames) (hl : W + (cm + 11) + rm.locals ≤ R.locals) {ck cs : Nat} (hck : cells + rm.cells = ck) (hcs : slots + rm.slots = cs) (hc : ck ≤ R.cells) (hs : cs ≤ R.slots)
    (hd : decode bytes pc = .ok (.invokespecial ix, 3)) (pc' : Nat) (hp : pc + 3 = pc')
    (K : ∀ T' h', St p l e R s m args below meth c own bytes maxL ret nm Z EL nw us bs T' h' ck cs → Qn h' → Goes p e below s Z EL nw Q kk nn (T'.setTop (mkF m pc' Ls rest))) : Goes p e below s Z EL nw Q kk nn (T.setTop (mkF m pc Ls st)) :=
  g_callI X hy1 w1 w2 w3 w4 hy hM hus hpd hlen has hst hsize W hW hf hl hck hcs hc hs hd pc' hp (by
    intro v T' h' X' hq
    obtain ⟨rfl, hw⟩ := hq
    exact K T' h' X' hw)
theorem g_callVp (X : St p l e R s m args below meth c own bytes maxL ret nm Z EL nw us bs T h cells slots) {C : String} {y z : MethodName} {cb : ByteArray} {cm : Nat} {cr : Option FieldType} {rm : Room} {as' : Array Value} {us' : List Addr} {Qv : Value → Prop} {ix : Nat}
    (w1 : (Jvm.Cond.methodLink own ix y).before a0 Z = true) (w2 : (Jvm.Cond.declares y).before a0 Z = true) (w3 : (Jvm.Cond.selects C y z).before a0 Z = true) (w4 : (Jvm.Cond.instanceMethod z).before a0 Z = true) (w5 : (Jvm.Cond.initialized z.cls).before a0 Z = true) (w6 : (Jvm.Cond.code z cb cm cr).before a0 Z = true)
    (hnf : ∀ s' : State, Z.Warmed39 s'.vm → NotFace s' y) (hy : y.cls ≠ "java/lang/invoke/MethodHandle" ∧ y.cls ≠ "java/lang/invoke/VarHandle") {a : Addr} (Ex : Exa Z h a C) (hM : Ctr l Z EL nw z cb cm cr rm as' h us' (PureQ h Qv)) (hus : ∀ x ∈ us', x ∈ us)
    {argsL rest : List Value} {ps : List FieldType} {rt : Option FieldType} (hpd : parseMethodDescriptor y.desc = some ⟨ps, rt⟩) (hlen : argsL.length = ps.length) (has : (.ref a :: argsL).toArray = as') (hst : st = argsL.reverse ++ .ref a :: rest) (hsize : Ls.size = maxL)
    (W : Nat) (hW : (rest.map fun v => v.category).sum ≤ W) (hf : rm.frames + 1 ≤ R.frames) (hl : W + (cm + 11) + rm.locals ≤ R.locals) {ck cs : Nat} (hck : cells + rm.cells = ck) (hcs : slots + rm.slots = cs) (hc : ck ≤ R.cells) (hs : cs ≤ R.slots)
    (hd : decode bytes pc = .ok (.invokevirtual ix, 3)) (pc' : Nat) (hp : pc + 3 = pc')
    (K : ∀ w T', St p l e R s m args below meth c own bytes maxL ret nm Z EL nw us bs T' h ck cs → Qv w → Goes p e below s Z EL nw Q kk nn (T'.setTop (mkF m pc' Ls (w :: rest)))) : Goes p e below s Z EL nw Q kk nn (T.setTop (mkF m pc Ls st)) :=
  g_callV X w1 w2 w3 w4 w5 w6 hnf hy Ex hM hus hpd hlen has hst hsize W hW hf hl hck hcs hc hs hd pc' hp (by
    intro v T' h' X' hq
    obtain ⟨rfl, w, rfl, hw⟩ := hq
    exact K w T' X' hw)
theorem g_callVv (X : St p l e R s m args below meth c own bytes maxL ret nm Z EL nw us bs T h cells slots) {C : String} {y z : MethodName} {cb : ByteArray} {cm : Nat} {cr : Option FieldType} {rm : Room} {as' : Array Value} {us' : List Addr} {Qv : Value → Heap → Prop} {ix : Nat}
    (w1 : (Jvm.Cond.methodLink own ix y).before a0 Z = true) (w2 : (Jvm.Cond.declares y).before a0 Z = true) (w3 : (Jvm.Cond.selects C y z).before a0 Z = true) (w4 : (Jvm.Cond.instanceMethod z).before a0 Z = true) (w5 : (Jvm.Cond.initialized z.cls).before a0 Z = true) (w6 : (Jvm.Cond.code z cb cm cr).before a0 Z = true)
    (hnf : ∀ s' : State, Z.Warmed39 s'.vm → NotFace s' y) (hy : y.cls ≠ "java/lang/invoke/MethodHandle" ∧ y.cls ≠ "java/lang/invoke/VarHandle") {a : Addr} (Ex : Exa Z h a C) (hM : Ctr l Z EL nw z cb cm cr rm as' h us' (ValQ Qv)) (hus : ∀ x ∈ us', x ∈ us)
    {argsL rest : List Value} {ps : List FieldType} {rt : Option FieldType} (hpd : parseMethodDescriptor y.desc = some ⟨ps, rt⟩) (hlen : argsL.length = ps.length) (has : (.ref a :: argsL).toArray = as') (hst : st = argsL.reverse ++ .ref a :: rest) (hsize : Ls.size = maxL)
    (W : Nat) (hW : (rest.map fun v => v.category).sum ≤ W) (hf : rm.frames + 1 ≤ R.frames) (hl : W + (cm + 11) + rm.locals ≤ R.locals) {ck cs : Nat} (hck : cells + rm.cells = ck) (hcs : slots + rm.slots = cs) (hc : ck ≤ R.cells) (hs : cs ≤ R.slots)
    (hd : decode bytes pc = .ok (.invokevirtual ix, 3)) (pc' : Nat) (hp : pc + 3 = pc')
    (K : ∀ w T' h', St p l e R s m args below meth c own bytes maxL ret nm Z EL nw us bs T' h' ck cs → Qv w h' → Goes p e below s Z EL nw Q kk nn (T'.setTop (mkF m pc' Ls (w :: rest)))) : Goes p e below s Z EL nw Q kk nn (T.setTop (mkF m pc Ls st)) :=
  g_callV X w1 w2 w3 w4 w5 w6 hnf hy Ex hM hus hpd hlen has hst hsize W hW hf hl hck hcs hc hs hd pc' hp (by
    intro v T' h' X' hq
    obtain ⟨w, rfl, hw⟩ := hq
    exact K w T' h' X' hw)
theorem g_callVn (X : St p l e R s m args below meth c own bytes maxL ret nm Z EL nw us bs T h cells slots) {C : String} {y z : MethodName} {cb : ByteArray} {cm : Nat} {cr : Option FieldType} {rm : Room} {as' : Array Value} {us' : List Addr} {Qn : Heap → Prop} {ix : Nat}
    (w1 : (Jvm.Cond.methodLink own ix y).before a0 Z = true) (w2 : (Jvm.Cond.declares y).before a0 Z = true) (w3 : (Jvm.Cond.selects C y z).before a0 Z = true) (w4 : (Jvm.Cond.instanceMethod z).before a0 Z = true) (w5 : (Jvm.Cond.initialized z.cls).before a0 Z = true) (w6 : (Jvm.Cond.code z cb cm cr).before a0 Z = true)
    (hnf : ∀ s' : State, Z.Warmed39 s'.vm → NotFace s' y) (hy : y.cls ≠ "java/lang/invoke/MethodHandle" ∧ y.cls ≠ "java/lang/invoke/VarHandle") {a : Addr} (Ex : Exa Z h a C) (hM : Ctr l Z EL nw z cb cm cr rm as' h us' (VoidQ Qn)) (hus : ∀ x ∈ us', x ∈ us)
    {argsL rest : List Value} {ps : List FieldType} {rt : Option FieldType} (hpd : parseMethodDescriptor y.desc = some ⟨ps, rt⟩) (hlen : argsL.length = ps.length) (has : (.ref a :: argsL).toArray = as') (hst : st = argsL.reverse ++ .ref a :: rest) (hsize : Ls.size = maxL)
    (W : Nat) (hW : (rest.map fun v => v.category).sum ≤ W) (hf : rm.frames + 1 ≤ R.frames) (hl : W + (cm + 11) + rm.locals ≤ R.locals) {ck cs : Nat} (hck : cells + rm.cells = ck) (hcs : slots + rm.slots = cs) (hc : ck ≤ R.cells) (hs : cs ≤ R.slots)
    (hd : decode bytes pc = .ok (.invokevirtual ix, 3)) (pc' : Nat) (hp : pc + 3 = pc')
    (K : ∀ T' h', St p l e R s m args below meth c own bytes maxL ret nm Z EL nw us bs T' h' ck cs → Qn h' → Goes p e below s Z EL nw Q kk nn (T'.setTop (mkF m pc' Ls rest))) : Goes p e below s Z EL nw Q kk nn (T.setTop (mkF m pc Ls st)) :=
  g_callV X w1 w2 w3 w4 w5 w6 hnf hy Ex hM hus hpd hlen has hst hsize W hW hf hl hck hcs hc hs hd pc' hp (by
    intro v T' h' X' hq
    obtain ⟨rfl, hw⟩ := hq
    exact K T' h' X' hw)
end CallOps
end Jvm.OwnKit
namespace Jvm.OwnKit
open Sem ClassFile Op Lib Jvm.Stand Jvm.Free Jvm.LawKit Jvm.RoadKit
/-- a method's first frame, where every argument takes one local -/
theorem locals1 : ∀ (vs : List Value) (acc : Array Slot), (∀ v ∈ vs, v.category = 1) → vs.foldl (fun acc v => if v.category = 2 then (acc.push (.val v)).push .second else acc.push (.val v)) acc = acc ++ (vs.map Slot.val).toArray
  | [], acc, _ => by simp
  | v :: r, acc, h => by
    rw [List.foldl_cons, if_neg (by rw [h v (List.mem_cons_self ..)]; decide), locals1 r _ fun x hx => h x (List.mem_cons_of_mem _ hx)]
    simp
theorem entry1 (m : MethodId) (vs : List Value) (n : Nat) (hv : ∀ v ∈ vs, v.category = 1) {Ls : Array Slot} (e : (vs.map Slot.val ++ List.replicate (n - vs.length) Slot.unset).toArray = Ls) : entryFrame m vs.toArray n = mkF m 0 Ls [] := by
  have q : argsToLocals vs.toArray n = Ls := by
    rw [← e, argsToLocals, List.foldl_toArray, locals1 vs #[] hv]
    simp
  rw [entryFrame, q]
section StartFacts
variable {args : Array Value} {s : State} {t X F : Term} {a y : Addr}
theorem own_eqr (hF : F.eval args s none [] s = some (.ref y)) (h : (Jvm.Cond.eq X F).value args s none s [] = some true) : X.eval args s none [] s = some (.ref y) := by
  obtain ⟨x, y', e1, e2, k1, k2⟩ := cmp_v (Or.inl h)
  cases hF.symm.trans e2
  have hx : x.isRef = true := by cases x <;> simp_all [Jvm.Cond.value, Value.isRef]
  have q := gotT (eq_R e1 hF hx rfl) h
  rw [e1, q]
theorem own_fldI {C n d : String} {v : Int32} (ht : t.eval args s none [] s = some (.ref a)) (h : (Jvm.Cond.eq (.field t C n d) (.int v)).value args s none s [] = some true) : Fld s s.heap a C n d (.int v) := by
  have e := eqv_i (Term.int_eval v) h
  rw [fld_at ht] at e
  exact Fld.start e
theorem own_fld0 {C n d : String} (ht : t.eval args s none [] s = some (.ref a)) (h : (Jvm.Cond.eq (.field t C n d) .null).value args s none s [] = some true) : Fld s s.heap a C n d .null := by
  have e := null_v h
  rw [fld_at ht] at e
  exact Fld.start e
theorem own_fldR {C n d : String} {F : Term} (ht : t.eval args s none [] s = some (.ref a)) (hF : F.eval args s none [] s = some (.ref y)) (h : (Jvm.Cond.eq (.field t C n d) F).value args s none s [] = some true) : Fld s s.heap a C n d (.ref y) := by
  have e := own_eqr hF h
  rw [fld_at ht] at e
  exact Fld.start e
theorem own_len {cl : Cell} {ty : FieldType} {z : Int32} (A : Arr s s.heap a cl ty) (ht : t.eval args s none [] s = some (.ref a)) (h : (Jvm.Cond.eq (.length t) (.int z)).value args s none s [] = some true) : cl.slots.size < 2 ^ 31 ∧ cl.slots.size.toInt32 = z := by
  have e := eqv_i (Term.int_eval z) h
  have ha := Arr.fin (U := s) (Vm.Alike.refl _) A
  have e2 : (Term.length t).eval args s none [] s = if cl.slots.size < 2 ^ 31 then some (.int cl.slots.size.toInt32) else none := by simp [Term.eval, ht, ha]
  rw [e2] at e
  by_cases q : cl.slots.size < 2 ^ 31
  · rw [if_pos q] at e
    exact ⟨q, Value.int.inj (Option.some.inj e)⟩
  · rw [if_neg q] at e; cases e
theorem own_elem {cl : Cell} {ty : FieldType} {j : Int32} {F : Term} (A : Arr s s.heap a cl ty) (ht : t.eval args s none [] s = some (.ref a)) (hF : F.eval args s none [] s = some (.ref y)) (h : (Jvm.Cond.eq (.elem t (.int j)) F).value args s none s [] = some true) : cl.slots[j.toNatClampNeg]? = some (.ref y) :=
  (elem_in (own_eqr hF h) ht (Term.int_eval j) A.1).2
end StartFacts
end Jvm.OwnKit
namespace Jvm.OwnKit
open Sem ClassFile Op Lib Jvm.Stand Jvm.Free Jvm.LawKit Jvm.RoadKit
/-- a String of the signs cs (each 0 to 255), apart from what is under construction -/
def Str (Z : State) (h : Heap) (us : List Addr) (a : Addr) (cs : List Int32) : Prop :=
  ∃ (t : Addr) (kb : ClassId), Exa Z h a "java/lang/String" ∧ Fld Z h a "java/lang/String" "coder" "B" (.int 0) ∧ Fld Z h a "java/lang/String" "value" "[B" (.ref t) ∧
    Arv Z h t kb .byte (Int32.ofNat cs.length) ((cs.map fun c => c.toInt8.toInt32).map Value.int) (.int 0) ∧ (∀ c ∈ cs, ¬ c < 0 ∧ ¬ (255 : Int32) < c) ∧ cs.length ≤ 4000 ∧ ∀ x ∈ us, x ≠ a ∧ x ≠ t
section StrFacts
variable {Z : State} {h h' : Heap} {us us' ws : List Addr} {a b : Addr} {cs : List Int32} {sl : Nat} {v : Value}
theorem Str.ext (F : Str Z h us a cs) (E : Ext h h') : Str Z h' us a cs := by
  obtain ⟨t, kb, h1, h2, h3, h4, h5, h6, h7⟩ := F
  exact ⟨t, kb, h1.ext E, h2.ext E, h3.ext E, h4.ext E, h5, h6, h7⟩
theorem Str.keep (F : Str Z h us a cs) (K : Keep h h' ws) (q : ∀ x ∈ ws, x ∈ us) : Str Z h' us a cs := by
  obtain ⟨t, kb, h1, h2, h3, h4, h5, h6, h7⟩ := F
  have na : a ∉ ws := fun r => (h7 a (q a r)).1 rfl
  have nt : t ∉ ws := fun r => (h7 t (q t r)).2 rfl
  exact ⟨t, kb, h1.keep K, h2.keep K na, h3.keep K na, h4.keep K nt, h5, h6, h7⟩
theorem Str.wr (F : Str Z h us a cs) (W : Wr h h' b sl v) (q : b ∈ us) : Str Z h' us a cs := F.keep (Keep.of_wr W) (fun x hx => by cases List.mem_singleton.mp hx; exact q)
theorem Str.sub (F : Str Z h us a cs) (q : ∀ x ∈ us', x ∈ us) : Str Z h us' a cs := by
  obtain ⟨t, kb, h1, h2, h3, h4, h5, h6, h7⟩ := F
  exact ⟨t, kb, h1, h2, h3, h4, h5, h6, fun x hx => h7 x (q x hx)⟩
theorem Str.grow (F : Str Z h us a cs) (E : Ext h h') (q : b = h.size) : Str Z h' (b :: us) a cs := by
  obtain ⟨t, kb, h1, h2, h3, h4, h5, h6, h7⟩ := F
  refine ⟨t, kb, h1.ext E, h2.ext E, h3.ext E, h4.ext E, h5, h6, fun x hx => ?_⟩
  rcases List.mem_cons.mp hx with rfl | hx
  · subst q; exact ⟨Nat.ne_of_gt h1.lt, Nat.ne_of_gt h4.lt⟩
  · exact h7 x hx
theorem Str.exa (F : Str Z h us a cs) : Exa Z h a "java/lang/String" := by obtain ⟨t, kb, h1, -⟩ := F; exact h1
theorem Str.lt (F : Str Z h us a cs) : a < h.size := F.exa.lt
theorem Str.ne (F : Str Z h us a cs) {x : Addr} (q : x ∈ us) : x ≠ a := by obtain ⟨t, kb, h1, h2, h3, h4, h5, h6, h7⟩ := F; exact (h7 x q).1
theorem str_of {h0 : Heap} (q : ∃ (t : Addr) (kb : ClassId), Exa Z h' a "java/lang/String" ∧ Fld Z h' a "java/lang/String" "coder" "B" (.int 0) ∧ Fld Z h' a "java/lang/String" "value" "[B" (.ref t) ∧ Arv Z h' t kb .byte (Int32.ofNat cs.length) ((cs.map fun c => c.toInt8.toInt32).map Value.int) (.int 0) ∧ (∀ c ∈ cs, ¬ c < 0 ∧ ¬ (255 : Int32) < c) ∧ cs.length ≤ 4000 ∧ h.size ≤ t)
    (hx : ∀ x ∈ us, x < h0.size) (h1 : h0.size ≤ a) (h2 : h0.size ≤ h.size) : Str Z h' us a cs := by
  obtain ⟨t, kb, e1, e2, e3, e4, e5, e6, e7⟩ := q
  exact ⟨t, kb, e1, e2, e3, e4, e5, e6, fun x q => ⟨Nat.ne_of_lt (Nat.lt_of_lt_of_le (hx x q) h1), Nat.ne_of_lt (Nat.lt_of_lt_of_le (hx x q) (Nat.le_trans h2 e7))⟩⟩
theorem and255 (x : Int32) : ¬ (x &&& 255) < 0 ∧ ¬ (255 : Int32) < (x &&& 255) := by
  have h := c_and x 255 (by decide)
  rw [Int32.lt_iff_toInt_lt, Int32.lt_iff_toInt_lt]
  have h2 : (255 : Int32).toInt = 255 := by decide
  have h3 : (0 : Int32).toInt = 0 := by decide
  omega
theorem nar255 {c : Int32} (h : ¬ c < 0 ∧ ¬ (255 : Int32) < c) : nar .char c = c := by
  obtain ⟨h1, h2⟩ := h
  have q := c_i2c c
  rw [Int32.lt_iff_toInt_lt] at h1 h2
  have e2 : (255 : Int32).toInt = 255 := by decide
  have e3 : (0 : Int32).toInt = 0 := by decide
  have : c.toUInt32.toUInt16.toUInt32.toInt32.toInt = c.toInt := by omega
  exact Int32.toInt_inj.mp this
/-- made since the heap h0: apart from whatever stood there -/
def StrN (Z : State) (h0 h : Heap) (a : Addr) (cs : List Int32) : Prop :=
  ∃ (t : Addr) (kb : ClassId), Exa Z h a "java/lang/String" ∧ Fld Z h a "java/lang/String" "coder" "B" (.int 0) ∧ Fld Z h a "java/lang/String" "value" "[B" (.ref t) ∧
    Arv Z h t kb .byte (Int32.ofNat cs.length) ((cs.map fun c => c.toInt8.toInt32).map Value.int) (.int 0) ∧ (∀ c ∈ cs, ¬ c < 0 ∧ ¬ (255 : Int32) < c) ∧ cs.length ≤ 4000 ∧ h0.size ≤ a ∧ h0.size ≤ t
theorem StrN.str {h0 : Heap} (F : StrN Z h0 h a cs) (q : ∀ x ∈ us, x < h0.size) : Str Z h us a cs := by
  obtain ⟨t, kb, h1, h2, h3, h4, h5, h6, h7, h8⟩ := F
  exact ⟨t, kb, h1, h2, h3, h4, h5, h6, fun x hx => ⟨Nat.ne_of_lt (Nat.lt_of_lt_of_le (q x hx) h7), Nat.ne_of_lt (Nat.lt_of_lt_of_le (q x hx) h8)⟩⟩
end StrFacts
section StrOps
variable {p : Program} {l : Launch} {e : Env} {R : Room} {s : State} {m : MethodId} {args : Array Value} {below : List Frame} {meth : Method} {c : Code}
  {own : String} {bytes : ByteArray} {maxL : Nat} {ret : Option FieldType} {nm : String} {Z : State} {EL : List (String × Nat)} {nw : Bool} {us : List Addr} {bs : List (String × Nat × Addr)}
  {T : State} {h : Heap} {cells slots : Nat} {Q : Option Value → Heap → Prop} {kk nn : Nat} {a0 : Array Value} {pc : Nat} {Ls : Array Slot} {st : List Value}

theorem St.news (X : St p l e R s m args below meth c own bytes maxL ret nm Z EL nw us bs T h cells slots) : ∀ x ∈ us, x < h.size := fun x hx => (X.new hx).2
theorem lt_ofNat {n : Nat} (q : n ≤ 4000) : ¬ (Int32.ofNat n) < 0 ∧ (Int32.ofNat n).toNatClampNeg = n := by
  have h1 : (Int32.ofNat n).toInt = n := by rw [Int32.toInt_ofNat_of_lt]; omega
  exact ⟨by rw [Int32.lt_iff_toInt_lt, h1]; simp, by simp [Int32.toNatClampNeg, h1]⟩
/-- ldc of a String constant -/
theorem g_ldcS (X : St p l e R s m args below meth c own bytes maxL ret nm Z EL nw us bs T h cells slots) {ix : Nat} {text : String} {cs : List Int32} (hnw : nw = false) (w : (Jvm.Cond.stringLink own ix text).before a0 Z = true) (wS : ∀ a ∈ Bundle.stringAtoms, a.before a0 Z = true) (hmem : (own, ix) ∈ EL)
    (ht : (∀ c ∈ text.toList, c.toNat < 256) ∧ text.toList.map (fun c => Value.int (Jvm.Lit.byteI c.toNat.toUInt16)) = (cs.map fun c => c.toInt8.toInt32).map Value.int) (hcs : ∀ c ∈ cs, ¬ c < 0 ∧ ¬ (255 : Int32) < c) (hlen : cs.length ≤ 4000)
    (hd : decode bytes pc = .ok (.ldc ix, 2)) (n : Nat) (hn : 4 * text.toList.length ≤ n) (hbig : n ≤ 536870912) {ck cs' : Nat} (hck : cells + 2 = ck) (hcs' : slots + (n + 4) = cs') (hc : ck ≤ R.cells) (hl : cs' ≤ R.slots) (pc' : Nat) (hp : pc + 2 = pc')
    (K : ∀ a T' h', St p l e R s m args below meth c own bytes maxL ret nm Z EL nw us ((own, ix, a) :: bs) T' h' ck cs' → Ext h h' → Str Z h' us a cs → Goes p e below s Z EL nw Q kk nn (T'.setTop (mkF m pc' Ls (.ref a :: st)))) : Goes p e below s Z EL nw Q kk nn (T.setTop (mkF m pc Ls st)) := by
  subst hp hck hcs'
  obtain ⟨cx, vm0, locs, Y, N, eT, hS, hZ, hown, hE, hC, hU, hW⟩ := X
  obtain ⟨a1, hEL⟩ := cx.2.2.2.2.2.2
  have hl32 : ¬ (Int32.ofNat cs.length) < 0 ∧ (Int32.ofNat cs.length).toNatClampNeg = ((cs.map fun c => c.toInt8.toInt32).map Value.int).length := by
    have := lt_ofNat hlen; simpa using this
  obtain ⟨a, T', h', k1, b, k, Y', e', E, hS2, hk1, hZ', hown', q1, q2, q3, q4, q5, q6, hC', hLit, hsafe, stp⟩ := ldcCH (s := s.setVm vm0) Y cx.1 hZ hown w wS eT ((State.WarmedH.refl (s.setVm vm0)).since h.size) (Nat.le_refl _) hEL hmem hC.1 ht hl32.1 hl32.2 (g := mkF m pc Ls st) rfl (hb cx.2.1 hd) hn hbig hc hl
  have hU' : ∀ x ∈ us, Z.heap.size ≤ x ∧ x < h'.size ∧ Safe Z EL T'.vm h' x := fun x hx => ⟨(hU x hx).1, Nat.lt_of_lt_of_le (hU x hx).2.1 E.1, hC'.safe (hU x hx).2.1 (hU x hx).2.2⟩
  have hS3 : s.Since T'.vm h'.size := hS.trans ⟨hS2.1, hS2.2.mono hk1⟩ E.1
  have hB : ∀ q ∈ (own, ix, a) :: bs, Lit (s.setVm T'.vm) q.1 q.2.1 q.2.2 := fun q hq => by
    rcases List.mem_cons.mp hq with rfl | hq
    · exact hLit
    · exact (hW.2 q hq).stays hS2.1
  exact (K a T' h' ⟨cx, T'.vm, locs, Y', N, e', hS3, hZ', hown', hE.trans E, hC.trans hC', hU', (fun q => by rw [hnw] at q; cases q), hB⟩ E ⟨b, k, q1, q2, q3, q4, hcs, hlen, fun x hx => hsafe x (hU' x hx).2.2⟩).step stp
/-- ldc of a String constant that this walk has loaded -/
theorem g_ldcA (X : St p l e R s m args below meth c own bytes maxL ret nm Z EL nw us bs T h cells slots) {ix : Nat} {text : String} {a : Addr} (w : (Jvm.Cond.stringLink own ix text).before a0 Z = true) (hm : (own, ix, a) ∈ bs) (hd : decode bytes pc = .ok (.ldc ix, 2)) (pc' : Nat) (hp : pc + 2 = pc')
    (K : Goes p e below s Z EL nw Q kk nn (T.setTop (mkF m pc' Ls (.ref a :: st)))) : Goes p e below s Z EL nw Q kk nn (T.setTop (mkF m pc Ls st)) := by
  subst hp
  obtain ⟨cx, vm0, locs, Y, N, eT, hS, hZ, hown, hE, hC, hU, hW⟩ := X
  exact K.step (ldcAgain Y cx.1 hZ hown w (hW.2 _ hm) (g := mkF m pc Ls st) rfl (hb cx.2.1 hd))
end StrOps
end Jvm.OwnKit
namespace Jvm.OwnKit
open Sem ClassFile Op Lib Jvm.Stand Jvm.Free Jvm.LawKit Jvm.RoadKit
section Bytes
abbrev lo (c : Int32) : Int32 := c.toInt8.toInt32
abbrev bys (cs : List Int32) : List Value := (cs.map fun c => c.toInt8.toInt32).map Value.int
theorem i0 : (0 : Int32).toInt = 0 := by decide
theorem i255 : (255 : Int32).toInt = 255 := by decide
theorem lo_mask {c : Int32} (h : ¬ c < 0 ∧ ¬ (255 : Int32) < c) : lo c &&& 255 = c := by
  obtain ⟨h1, h2⟩ := h
  rw [Int32.lt_iff_toInt_lt, i0] at h1
  rw [Int32.lt_iff_toInt_lt, i255] at h2
  have q := c_i2b c
  have r := c_mask (lo c) 255 8 (by decide) (by decide)
  apply Int32.toInt_inj.mp
  rw [r]
  have e : ((2 ^ 8 : Nat) : Int) = 256 := by decide
  rw [e]; simp only [lo]; omega
theorem lo_inj {c d : Int32} (h : ¬ c < 0 ∧ ¬ (255 : Int32) < c) (h' : ¬ d < 0 ∧ ¬ (255 : Int32) < d) (e : lo c = lo d) : c = d := by rw [← lo_mask h, ← lo_mask h', e]
theorem of_toInt {n : Nat} (h : n ≤ 4000) : (Int32.ofNat n).toInt = n := by rw [Int32.toInt_ofNat_of_lt]; omega
theorem of_nat {n : Nat} (h : n ≤ 4000) : (Int32.ofNat n).toNatClampNeg = n := by simp [Int32.toNatClampNeg, of_toInt h]
theorem of_nn {n : Nat} (h : n ≤ 4000) : ¬ Int32.ofNat n < 0 := by rw [Int32.lt_iff_toInt_lt, of_toInt h, i0]; omega
theorem of_lt {i n : Nat} (h : i < n) (hn : n ≤ 4000) : Int32.ofNat i < Int32.ofNat n := by rw [Int32.lt_iff_toInt_lt, of_toInt hn, of_toInt (by omega)]; omega
theorem of_le {i n : Nat} (h : n ≤ i) (hn : i ≤ 4000) : ¬ Int32.ofNat i < Int32.ofNat n := by rw [Int32.lt_iff_toInt_lt, of_toInt hn, of_toInt (by omega)]; omega
theorem of_succ (i : Nat) : Int32.ofNat i + 1 = Int32.ofNat (i + 1) := by simp [Int32.ofNat_add]
theorem of_eq {i n : Nat} (hi : i ≤ 4000) (hn : n ≤ 4000) (e : Int32.ofNat i = Int32.ofNat n) : i = n := by
  have := congrArg Int32.toInt e; rw [of_toInt hi, of_toInt hn] at this; omega
theorem bys_at (cs : List Int32) (i : Nat) (h : i ≤ 4000) : (bys cs).getD (Int32.ofNat i).toNatClampNeg (.int 0) = .int (lo (cs.getD i 0)) := by
  rw [of_nat h]
  by_cases q : i < cs.length
  · simp [List.getD, q]
  · have e : cs.getD i 0 = 0 := by simp [List.getD, q]
    rw [e]
    simp [List.getD, q]
    decide
theorem shr0 (x : Int32) : x >>> ((0 : Int32) &&& 31) = x := by
  apply Int32.toInt_inj.mp
  rw [c_ishr x 0 0 (by decide)]
  simp
theorem take_eq {cs ds : List Int32} (hl : cs.length = ds.length) (h : cs.take cs.length = ds.take cs.length) : cs = ds := by
  rw [List.take_length] at h; rw [hl, List.take_length] at h; exact h
theorem take_more {cs ds : List Int32} {i : Nat} (hi : i < cs.length) (hj : i < ds.length) (h : cs.take i = ds.take i) (e : cs.getD i 0 = ds.getD i 0) : cs.take (i + 1) = ds.take (i + 1) := by
  simp only [List.getD, List.getElem?_eq_getElem hi, List.getElem?_eq_getElem hj, Option.getD_some] at e
  rw [List.take_succ_eq_append_getElem hi, List.take_succ_eq_append_getElem hj, h, e]
theorem mem_at {cs : List Int32} {i : Nat} (hi : i < cs.length) : cs.getD i 0 ∈ cs := by
  simp [List.getD, List.getElem?_eq_getElem hi]
theorem str_inj {Z : State} {h : Heap} {us us' : List Addr} {a b : Addr} {cs ds : List Int32} (F : Str Z h us a cs) (G : Str Z h us' b ds) (q : a = b) : cs = ds := by
  subst q
  obtain ⟨t, kb, -, -, f3, f4, f5, f6, -⟩ := F
  obtain ⟨u, kb', -, -, g3, g4, g5, g6, -⟩ := G
  have e : t = u := Classical.byContradiction fun n => (Fld.ne f3 g3 (fun r => n (Value.ref.inj r))) rfl
  subst e
  have hl : cs.length = ds.length := Classical.byContradiction fun n => (arv_ne f4 g4 (Or.inl (by rw [of_nat f6, of_nat g6]; exact n))) rfl
  refine List.ext_getElem hl fun i hi hj => ?_
  have e2 : (bys cs).getD i (.int 0) = (bys ds).getD i (.int 0) := Classical.byContradiction fun n => (arv_ne f4 g4 (Or.inr ⟨i, by rw [of_nat f6]; exact hi, n⟩)) rfl
  simp [List.getD, hi, hj] at e2
  exact lo_inj (f5 _ (List.getElem_mem hi)) (g5 _ (List.getElem_mem hj)) e2
end Bytes
end Jvm.OwnKit
namespace Jvm.OwnKit
open Sem ClassFile Op Lib Jvm.Stand Jvm.Free Jvm.LawKit Jvm.RoadKit Bundle
variable {p : Program} {l : Launch} {e : Env} {R : Room} {s : State} {m : MethodId} {args : Array Value} {below : List Frame} {meth : Method} {c : Code}
  {own : String} {bytes : ByteArray} {maxL : Nat} {ret : Option FieldType} {nm : String} {Z : State} {EL : List (String × Nat)} {nw : Bool} {us : List Addr} {bs : List (String × Nat × Addr)}
  {T : State} {h : Heap} {cells slots : Nat} {Q : Option Value → Heap → Prop} {kk nn : Nat} {a0 : Array Value} {pc : Nat} {Ls : Array Slot} {st : List Value}

/-- 'invokeinterface' by a contract -/
theorem g_callF (X : St p l e R s m args below meth c own bytes maxL ret nm Z EL nw us bs T h cells slots) {C : String} {y z : MethodName} {cb : ByteArray} {cm : Nat} {cr : Option FieldType} {rm : Room} {as' : Array Value} {us' : List Addr} {Qc : Option Value → Heap → Prop} {ix ct : Nat}
    (w1 : (Jvm.Cond.methodLink own ix y).before a0 Z = true) (w2 : (Jvm.Cond.declares y).before a0 Z = true) (w2f : (Jvm.Cond.interfaceMethod y.cls y.cls y.name y.desc).before a0 Z = true) (w3 : (Jvm.Cond.selects C y z).before a0 Z = true) (w4 : (Jvm.Cond.instanceMethod z).before a0 Z = true)
    (w4p : (Jvm.Cond.publicMethod z).before a0 Z = true) (w4u : (Jvm.Cond.unhidden C y.name y.desc).before a0 Z = true) (w4c : (Jvm.Cond.castable C y.cls).before a0 Z = true) (w5 : (Jvm.Cond.initialized z.cls).before a0 Z = true) (w6 : (Jvm.Cond.code z cb cm cr).before a0 Z = true)
    (hy : y.cls ≠ "java/lang/invoke/MethodHandle" ∧ y.cls ≠ "java/lang/invoke/VarHandle") {a : Addr} (Ex : Exa Z h a C) (hM : Ctr l Z EL nw z cb cm cr rm as' h us' Qc) (hus : ∀ x ∈ us', x ∈ us)
    {argsL rest : List Value} {ps : List FieldType} {rt : Option FieldType} (hpd : parseMethodDescriptor y.desc = some ⟨ps, rt⟩) (hlen : argsL.length = ps.length) (has : (.ref a :: argsL).toArray = as') (hst : st = argsL.reverse ++ .ref a :: rest) (hsize : Ls.size = maxL)
    (W : Nat) (hW : (rest.map fun v => v.category).sum ≤ W) (hf : rm.frames + 1 ≤ R.frames) (hl : W + (cm + 11) + rm.locals ≤ R.locals) {ck cs : Nat} (hck : cells + rm.cells = ck) (hcs : slots + rm.slots = cs) (hc : ck ≤ R.cells) (hs : cs ≤ R.slots)
    (hd : decode bytes pc = .ok (.invokeinterface ix ct, 5)) (pc' : Nat) (hp : pc + 5 = pc')
    (K : ∀ v T' h', St p l e R s m args below meth c own bytes maxL ret nm Z EL nw us bs T' h' ck cs → Qc v h' → Goes p e below s Z EL nw Q kk nn (T'.setTop (mkF m pc' Ls (v.toList ++ rest)))) : Goes p e below s Z EL nw Q kk nn (T.setTop (mkF m pc Ls st)) := by
  subst hp hck hcs
  obtain ⟨cx, vm0, locs, Y, N, eT, hS, hZ, hown, hE, hC, hU, hWn⟩ := X
  obtain ⟨a1, hEL⟩ := cx.2.2.2.2.2.2
  obtain ⟨cq, kq, qa, qb, qc⟩ := isOf (s := s.setVm vm0) hZ eT Ex
  obtain ⟨v, vm₁, B, -, Y', h2, hg, ⟨L, q1, q2, q3, q4, q5, q6, q7, q8⟩, stp⟩ := Y.interfaceBackS cx.1 (own := own) (index := ix) (count := ct) (xi := y) (y := z) hown (mvT (s := s.setVm vm0) hZ w1) (mvT (s := s.setVm vm0) hZ w2) (mvT (s := s.setVm vm0) hZ w2f (by simp [Cond.onTables, Cond.keepsFace, Cond.keeps, Cond.steady, Cond.faceAtom, hy.1, hy.2])) (mvT (s := s.setVm vm0) hZ w3) (mvT (s := s.setVm vm0) hZ w4) (mvT (s := s.setVm vm0) hZ w4p) (mvT (s := s.setVm vm0) hZ w4u) (mvT (s := s.setVm vm0) hZ w4c) hy
    (backC (W := W) hM hZ w6 w5 hf hl hEL hE hC.1 fun x hx => hU x (hus x hx)) qa qb qc (g := mkF m pc Ls st) rfl (by rw [cx.2.2.1]; exact hsize) (Steps.refl _) (argsL := argsL) (rest := rest) (lenOf hpd hlen) hst (by show 2 * 0 + _ ≤ _; omega) (hb cx.2.1 hd)
    (fun _ _ => ⟨has, eT, hc, hs⟩)
  exact (K v B.U B.U.heap (St.back cx N hS hZ hown hC hU hWn Y' h2 (by rw [← eT]; exact hg) q2 q3 q4 q5 q6 q7 q8) q1).step fun t k => stp.trans k
theorem g_callFp (X : St p l e R s m args below meth c own bytes maxL ret nm Z EL nw us bs T h cells slots) {C : String} {y z : MethodName} {cb : ByteArray} {cm : Nat} {cr : Option FieldType} {rm : Room} {as' : Array Value} {us' : List Addr} {Qv : Value → Prop} {ix ct : Nat}
    (w1 : (Jvm.Cond.methodLink own ix y).before a0 Z = true) (w2 : (Jvm.Cond.declares y).before a0 Z = true) (w2f : (Jvm.Cond.interfaceMethod y.cls y.cls y.name y.desc).before a0 Z = true) (w3 : (Jvm.Cond.selects C y z).before a0 Z = true) (w4 : (Jvm.Cond.instanceMethod z).before a0 Z = true)
    (w4p : (Jvm.Cond.publicMethod z).before a0 Z = true) (w4u : (Jvm.Cond.unhidden C y.name y.desc).before a0 Z = true) (w4c : (Jvm.Cond.castable C y.cls).before a0 Z = true) (w5 : (Jvm.Cond.initialized z.cls).before a0 Z = true) (w6 : (Jvm.Cond.code z cb cm cr).before a0 Z = true)
    (hy : y.cls ≠ "java/lang/invoke/MethodHandle" ∧ y.cls ≠ "java/lang/invoke/VarHandle") {a : Addr} (Ex : Exa Z h a C) (hM : Ctr l Z EL nw z cb cm cr rm as' h us' (PureQ h Qv)) (hus : ∀ x ∈ us', x ∈ us)
    {argsL rest : List Value} {ps : List FieldType} {rt : Option FieldType} (hpd : parseMethodDescriptor y.desc = some ⟨ps, rt⟩) (hlen : argsL.length = ps.length) (has : (.ref a :: argsL).toArray = as') (hst : st = argsL.reverse ++ .ref a :: rest) (hsize : Ls.size = maxL)
    (W : Nat) (hW : (rest.map fun v => v.category).sum ≤ W) (hf : rm.frames + 1 ≤ R.frames) (hl : W + (cm + 11) + rm.locals ≤ R.locals) {ck cs : Nat} (hck : cells + rm.cells = ck) (hcs : slots + rm.slots = cs) (hc : ck ≤ R.cells) (hs : cs ≤ R.slots)
    (hd : decode bytes pc = .ok (.invokeinterface ix ct, 5)) (pc' : Nat) (hp : pc + 5 = pc')
    (K : ∀ w T', St p l e R s m args below meth c own bytes maxL ret nm Z EL nw us bs T' h ck cs → Qv w → Goes p e below s Z EL nw Q kk nn (T'.setTop (mkF m pc' Ls (w :: rest)))) : Goes p e below s Z EL nw Q kk nn (T.setTop (mkF m pc Ls st)) :=
  g_callF X w1 w2 w2f w3 w4 w4p w4u w4c w5 w6 hy Ex hM hus hpd hlen has hst hsize W hW hf hl hck hcs hc hs hd pc' hp (by
    intro v T' h' X' hq
    obtain ⟨rfl, w, rfl, hw⟩ := hq
    exact K w T' X' hw)
theorem own_noassign2 {C S U D : String} {n : Nat} (w : (Jvm.Cond.superclass C S).before a0 Z = true) (wu : (Jvm.Cond.superclass S U).before a0 Z = true) (w0 : (Jvm.Cond.noSuperclass U).before a0 Z = true) (wi : (Jvm.Cond.instantiable D n).before a0 Z = true) (hn : C ≠ D) (hs : S ≠ D) (hu : U ≠ D) : ∃ c t, Z.vm.findClass C = some c ∧ Z.vm.findClass D = some t ∧ Z.vm.assignable c t = false := by
  obtain ⟨t, k', g0, g2, g5, gr⟩ := Jvm.Cond.instantiable_spec wi
  obtain ⟨cs, ks, s1, s2, s3, -, -⟩ := Jvm.Cond.noSuperclass_spec w0
  obtain ⟨c, h0⟩ := found_sup w
  obtain ⟨p, k, kp, h1, h2, h3, h4, h5, -, h7⟩ := Jvm.Cond.superclass_spec h0 w
  obtain ⟨p2, k2, kp2, u1, u2, u3, u4, u5, -, u7⟩ := Jvm.Cond.superclass_spec h1 wu
  cases s1.symm.trans u1
  have ne := ids_ne h0 g0 hn
  have ne2 := ids_ne h1 g0 hs
  have ne3 := ids_ne s1 g0 hu
  have gi : k'.isInterface = false := (Bool.or_eq_false_iff.mp gr.1).1
  have n3 : ∀ fuel, Z.vm.isSubclassAux fuel c t = false := by
    intro fuel
    cases fuel with
    | zero => rfl
    | succ f =>
      cases f with
      | zero => simp [Vm.isSubclassAux, ne, h2, h4]
      | succ f =>
        cases f with
        | zero => simp [Vm.isSubclassAux, ne, h2, h4, ne2, u2, u4]
        | succ f => simp [Vm.isSubclassAux, ne, h2, h4, ne2, u2, u4, ne3, s2, s3]
  refine ⟨c, t, h0, g0, ?_⟩
  show Z.vm.assignableAux (255 + 1) c t = false
  simp [Vm.assignableAux, ne, h2, g2, h5, g5, Vm.isSubclass, n3, gi]
end Jvm.OwnKit
/- laws to paste: Road.backV (cut by pick.py; bodies as the Statement names them) -/
namespace Jvm.Pilot.@@N@@
namespace StrChars
open Jvm Sem ClassFile Op Lib Jvm.Stand Jvm.Free.XT Jvm.Free.ALB Jvm.Free.JM Jvm.Free
open Jvm.Lib.Cold (StaticIs)
/-- a char array whose places are chars -/
def Ch (a : Addr) (A : Cell) (U : State) : Prop := Arr .char a A U ∧ Typed .char A
theorem Ch.mv {a : Addr} {A : Cell} {U U' : State} (h : Ch a A U) (hal : U.vm.Alike U'.vm) (hh : U'.heap = U.heap) : Ch a A U' := ⟨h.1.mv hal hh, h.2⟩
theorem Ch.keep {a : Addr} {A : Cell} {U U' : State} (h : Ch a A U) (hal : U.vm.Alike U'.vm) (hk : U'.heap[a]? = some A) : Ch a A U' := ⟨h.1.keep hal hk, h.2⟩
/-- what place i of a char[]'s cell holds -/
def cv (A : Cell) (i : Nat) : Int32 := match A.slots[i]? with | some (.int x) => x | _ => 0
theorem Ch.get {a : Addr} {A : Cell} {U : State} (h : Ch a A U) {i : Nat} (hi : i < A.slots.size) : A.slots[i]? = some (.int (cv A i)) := by
  have e := Array.getElem?_eq_getElem hi
  have f := h.2 i _ e
  unfold cv; rw [e]
  generalize A.slots[i] = v at f
  cases v <;> simp [fits] at f ⊢
/-- the byte that i2b leaves of a char -/
def lo8 (x : Int32) : Int32 := x.toInt8.toInt32
theorem fits_lo8 (y : Int32) : fits .byte (.int (lo8 y)) = true := by
  have h1 := y.toInt8.le_toInt
  have h2 := y.toInt8.toInt_lt
  simp only [lo8, fits, Bool.and_eq_true, decide_eq_true_eq, Int32.le_iff_toInt_le, Int8.toInt_toInt32, show (-128 : Int32).toInt = -128 from by decide, show (127 : Int32).toInt = 127 from by decide]
  omega
/-- A' is A but that each place j of lo .. hi - 1 holds f j -/
def Laid (A A' : Cell) (lo hi : Nat) (f : Nat → Value) : Prop := A'.cls = A.cls ∧ A'.vm = A.vm ∧ A'.slots.size = A.slots.size ∧ ∀ i, A'.slots[i]? = if lo ≤ i ∧ i < hi then some (f i) else A.slots[i]?
theorem Laid.zero (A : Cell) (lo : Nat) (f : Nat → Value) : Laid A A lo (lo + 0) f := ⟨rfl, rfl, rfl, fun i => by rw [if_neg (by omega)]⟩
theorem Laid.step {A Ak : Cell} {lo k : Nat} {f : Nat → Value} {v : Value} (h : Laid A Ak lo k f) (hlo : lo ≤ k) (hk : k < Ak.slots.size) (hv : v = f k) : Laid A (Ak.setSlot k v) lo (k + 1) f := by
  refine ⟨h.1, h.2.1, by simpa [Cell.setSlot] using h.2.2.1, fun i => ?_⟩
  by_cases e : k = i
  · subst e; rw [Cell.slots_setSlot_self v hk, if_pos (by omega), hv]
  · rw [Cell.slots_setSlot_ne v e, h.2.2.2 i]
    by_cases q : lo ≤ i ∧ i < k
    · rw [if_pos q, if_pos (by omega)]
    · rw [if_neg q, if_neg (by omega)]
def U16 : String := "java/lang/StringUTF16"
namespace Cmp5
def yN : MethodName := ⟨"java/lang/StringUTF16", "compress", "([CI[BII)I"⟩
abbrev yB : ByteArray := jdk_52_method_21_code
theorem d0 : decode yB 0 = .ok (.iconst 0, 1) := by decide +kernel
theorem d1 : decode yB 1 = .ok (.istore 5, 2) := by decide +kernel
theorem d3 : decode yB 3 = .ok (.iload 5, 2) := by decide +kernel
theorem d5 : decode yB 5 = .ok (.iload 4, 2) := by decide +kernel
theorem d7 : decode yB 7 = .ok (.if_icmp (.ge) 37, 3) := by decide +kernel
theorem d10 : decode yB 10 = .ok (.aload_n 0, 1) := by decide +kernel
theorem d11 : decode yB 11 = .ok (.iload_n 1, 1) := by decide +kernel
theorem d12 : decode yB 12 = .ok (.caload, 1) := by decide +kernel
theorem d13 : decode yB 13 = .ok (.istore 6, 2) := by decide +kernel
theorem d15 : decode yB 15 = .ok (.iload 6, 2) := by decide +kernel
theorem d17 : decode yB 17 = .ok (.sipush 255, 3) := by decide +kernel
theorem d20 : decode yB 20 = .ok (.if_icmp (.le) 6, 3) := by decide +kernel
theorem d26 : decode yB 26 = .ok (.aload_n 2, 1) := by decide +kernel
theorem d27 : decode yB 27 = .ok (.iload_n 3, 1) := by decide +kernel
theorem d28 : decode yB 28 = .ok (.iload 6, 2) := by decide +kernel
theorem d30 : decode yB 30 = .ok (.i2b, 1) := by decide +kernel
theorem d31 : decode yB 31 = .ok (.bastore, 1) := by decide +kernel
theorem d32 : decode yB 32 = .ok (.iinc 1 1, 3) := by decide +kernel
theorem d35 : decode yB 35 = .ok (.iinc 3 1, 3) := by decide +kernel
theorem d38 : decode yB 38 = .ok (.iinc 5 1, 3) := by decide +kernel
theorem d41 : decode yB 41 = .ok (.goto (-38), 3) := by decide +kernel
theorem d44 : decode yB 44 = .ok (.iload 4, 2) := by decide +kernel
theorem d46 : decode yB 46 = .ok (.ireturn, 1) := by decide +kernel
def site : List Cond := []
def tab : Cond := tabOf yN yB 7 (some .int) site
def P (b : Addr) (A : Cell) (d : Addr) (B : Cell) (o q len : Nat) (args : Array Value) (s : State) : Prop := args = #[.ref b, .int (Int32.ofNat o), .ref d, .int (Int32.ofNat q), .int (Int32.ofNat len)] ∧ Ch b A s ∧ Arr .byte d B s ∧ b ≠ d ∧ o + len ≤ A.slots.size ∧ q + len ≤ B.slots.size ∧ ∀ i, i < len → ¬ 255 < cv A (o + i)
def E (b : Addr) (A : Cell) (d : Addr) (B : Cell) (o q len : Nat) (r : Option Value) (s u : State) : Prop := r = some (.int (Int32.ofNat len)) ∧ ∃ B', Put d B' s u ∧ Laid B B' q (q + len) (fun j => Value.int (lo8 (cv A (o + (j - q)))))
/-- no char of the range above 255: len; the places written hold each char's low byte -/
theorem law (l : Launch) (b : Addr) (A : Cell) (d : Addr) (B : Cell) (o q len : Nat) : Law l yN 5 5 0 0 yB 7 (some .int) site (P b A d B o q len) (E b A d B o q len) (copyLocs d q len) 0 0 := by
  refine Law.of_walk (plainFor_of_name (by decide +kernel)) (by decide +kernel) (by decide +kernel) (by decide) (fun _ _ h => by rw [h.1]; rfl) (fun _ U U' hal hh h => ⟨h.1, h.2.1.mv hal hh, h.2.2.1.mv hal hh, h.2.2.2⟩) (fun r U U' V V' h1 hal h2 h => ⟨h.1, h.2.elim fun B' q => ⟨B', q.1.mv h1 h2, q.2⟩⟩) ?_
  intro p e s m args below meth c s₁ X0 hexec hbytes hml hret hlk hnm hown hh0 W hP
  obtain ⟨rfl, hA, hB, hne, l1, l2, hp⟩ := hP
  have c1 : Steps p.tables e below (s₁.setTop (entryFrame m #[.ref b, .int (Int32.ofNat o), .ref d, .int (Int32.ofNat q), .int (Int32.ofNat len)] 7)) (s₁.setTop (mkF m 0 #[.val (.ref b), .val (.int (Int32.ofNat o)), .val (.ref d), .val (.int (Int32.ofNat q)), .val (.int (Int32.ofNat len)), .unset, .unset] [])) := entry rfl
  have hA0 := hA.1.mv X0.warmed.alike hh0
  have hB0 := hB.mv X0.warmed.alike hh0
  have a31 := hA.1.2.2.2
  have c2 : Steps p.tables e below (s₁.setTop (entryFrame m #[.ref b, .int (Int32.ofNat o), .ref d, .int (Int32.ofNat q), .int (Int32.ofNat len)] 7)) (s₁.setTop (mkF m 3 #[.val (.ref b), .val (.int (Int32.ofNat o)), .val (.ref d), .val (.int (Int32.ofNat q)), .val (.int (Int32.ofNat len)), .val (.int 0), .unset] [])) := c1.trans (by
    refine iconstV X0.here hexec rfl 0 (hb hbytes d0) (by decide) ?_
    refine XS.istore X0.here hexec rfl (hb hbytes d1) rfl rfl ?_
    exact Steps.refl _)
  have loop : ∀ (r i : Nat), i + r = len → ∀ (z : Slot), (z = .unset ∨ ∃ w, z = .val w ∧ w.category = 1) → ∀ (Tl : State) (Bk : Cell), Stand p l e { frames := 0, locals := 0, cells := 0, slots := 0 } s m #[.ref b, .int (Int32.ofNat o), .ref d, .int (Int32.ofNat q), .int (Int32.ofNat len)] below meth c Tl ([] ++ copyLocs d q i) 0 0 → Put d Bk s₁ Tl → Laid B Bk q (q + i) (fun j => Value.int (lo8 (cv A (o + (j - q))))) →
      Steps p.tables e below (s₁.setTop (entryFrame m #[.ref b, .int (Int32.ofNat o), .ref d, .int (Int32.ofNat q), .int (Int32.ofNat len)] 7)) (Tl.setTop (mkF m 3 #[.val (.ref b), .val (.int (Int32.ofNat (o + i))), .val (.ref d), .val (.int (Int32.ofNat (q + i))), .val (.int (Int32.ofNat len)), .val (.int (Int32.ofNat i)), z] [])) → ∃ (T' : State) (B' : Cell) (z' : Slot), Stand p l e { frames := 0, locals := 0, cells := 0, slots := 0 } s m #[.ref b, .int (Int32.ofNat o), .ref d, .int (Int32.ofNat q), .int (Int32.ofNat len)] below meth c T' ([] ++ copyLocs d q len) 0 0 ∧ Put d B' s₁ T' ∧ Laid B B' q (q + len) (fun j => Value.int (lo8 (cv A (o + (j - q))))) ∧
      Steps p.tables e below (s₁.setTop (entryFrame m #[.ref b, .int (Int32.ofNat o), .ref d, .int (Int32.ofNat q), .int (Int32.ofNat len)] 7)) (T'.setTop (mkF m 3 #[.val (.ref b), .val (.int (Int32.ofNat (o + len))), .val (.ref d), .val (.int (Int32.ofNat (q + len))), .val (.int (Int32.ofNat len)), .val (.int (Int32.ofNat len)), z'] [])) := by
    intro r
    induction r with
    | zero =>
      intro i hi z hz Tl Bk Xl pl fl cl
      have hil : i = len := by omega
      rw [hil] at Xl fl cl
      exact ⟨Tl, Bk, z, Xl, pl, fl, cl⟩
    | succ r ih =>
      intro i hi z hz Tl Bk Xl pl fl cl
      have all := X0.warmed.alike.symm.trans Xl.warmed.alike
      have hAl := hA0.keep all (pl.other hne hA0.1)
      have hBk := hB0.like all pl.1 fl.1 fl.2.1 fl.2.2.1
      have hlt : q + i < Bk.slots.size := by rw [fl.2.2.1]; omega
      have c3 : Steps p.tables e below (s₁.setTop (entryFrame m #[.ref b, .int (Int32.ofNat o), .ref d, .int (Int32.ofNat q), .int (Int32.ofNat len)] 7)) (Tl.setTop (mkF m 12 #[.val (.ref b), .val (.int (Int32.ofNat (o + i))), .val (.ref d), .val (.int (Int32.ofNat (q + i))), .val (.int (Int32.ofNat len)), .val (.int (Int32.ofNat i)), z] [.int (Int32.ofNat (o + i)), .ref b])) := cl.trans (by
        refine XS.iload Xl.here hexec rfl (hb hbytes d3) rfl ?_
        refine XS.iload Xl.here hexec rfl (hb hbytes d5) rfl ?_
        refine XS.icmpNo Xl.here hexec rfl (hb hbytes d7) rfl (ii_ge_f (lt32 (by omega) (by omega))) ?_
        refine XS.aloadN Xl.here hexec rfl (hb hbytes d10) rfl rfl ?_
        refine XS.iloadN Xl.here hexec rfl (hb hbytes d11) rfl ?_
        exact Steps.refl _)
      have c4 : Steps p.tables e below (s₁.setTop (entryFrame m #[.ref b, .int (Int32.ofNat o), .ref d, .int (Int32.ofNat q), .int (Int32.ofNat len)] 7)) (Tl.setTop (mkF m 13 #[.val (.ref b), .val (.int (Int32.ofNat (o + i))), .val (.ref d), .val (.int (Int32.ofNat (q + i))), .val (.int (Int32.ofNat len)), .val (.int (Int32.ofNat i)), z] [.int (cv A (o + i))])) := c3.trans (by
        refine Xl.aget hexec hAl rfl (hA.get (i := o + i) (by omega)) rfl rfl (hb hbytes d12) ?_
        exact Steps.refl _)
      have c5 : Steps p.tables e below (s₁.setTop (entryFrame m #[.ref b, .int (Int32.ofNat o), .ref d, .int (Int32.ofNat q), .int (Int32.ofNat len)] 7)) (Tl.setTop (mkF m 15 #[.val (.ref b), .val (.int (Int32.ofNat (o + i))), .val (.ref d), .val (.int (Int32.ofNat (q + i))), .val (.int (Int32.ofNat len)), .val (.int (Int32.ofNat i)), .val (.int (cv A (o + i)))] [])) := c4.trans (by
        refine XS.istoreS Xl.here hexec rfl (hb hbytes d13) rfl rfl hz ?_
        exact Steps.refl _)
      have c6 : Steps p.tables e below (s₁.setTop (entryFrame m #[.ref b, .int (Int32.ofNat o), .ref d, .int (Int32.ofNat q), .int (Int32.ofNat len)] 7)) (Tl.setTop (mkF m 31 #[.val (.ref b), .val (.int (Int32.ofNat (o + i))), .val (.ref d), .val (.int (Int32.ofNat (q + i))), .val (.int (Int32.ofNat len)), .val (.int (Int32.ofNat i)), .val (.int (cv A (o + i)))] [.int (lo8 (cv A (o + i))), .int (Int32.ofNat (q + i)), .ref d])) := c5.trans (by
        refine XS.iload Xl.here hexec rfl (hb hbytes d15) rfl ?_
        refine sipushV Xl.here hexec rfl 255 (hb hbytes d17) (by decide) ?_
        refine XS.icmpYes Xl.here hexec rfl (pc0 := 20) rfl (hb hbytes d20) rfl (ii_le_t (hp i (by omega))) (by decide) rfl ?_
        refine XS.aloadN Xl.here hexec rfl (hb hbytes d26) rfl rfl ?_
        refine XS.iloadN Xl.here hexec rfl (hb hbytes d27) rfl ?_
        refine XS.iload Xl.here hexec rfl (hb hbytes d28) rfl ?_
        refine i2b Xl.here hexec rfl (hb hbytes d30) rfl ?_
        exact Steps.refl _)
      obtain ⟨T7, X7, p7, st7⟩ := Xl.aput hexec hBk rfl hlt rfl (fits_lo8 (cv A (o + i))) (g := (mkF m 31 #[.val (.ref b), .val (.int (Int32.ofNat (o + i))), .val (.ref d), .val (.int (Int32.ofNat (q + i))), .val (.int (Int32.ofNat len)), .val (.int (Int32.ofNat i)), .val (.int (cv A (o + i)))] [.int (lo8 (cv A (o + i))), .int (Int32.ofNat (q + i)), .ref d])) rfl (rest := []) rfl (hb hbytes d31)
      have c8 : Steps p.tables e below (s₁.setTop (entryFrame m #[.ref b, .int (Int32.ofNat o), .ref d, .int (Int32.ofNat q), .int (Int32.ofNat len)] 7)) (T7.setTop (mkF m 32 #[.val (.ref b), .val (.int (Int32.ofNat (o + i))), .val (.ref d), .val (.int (Int32.ofNat (q + i))), .val (.int (Int32.ofNat len)), .val (.int (Int32.ofNat i)), .val (.int (cv A (o + i)))] [])) := c6.trans (st7 _ (Steps.refl _))
      have c9 : Steps p.tables e below (s₁.setTop (entryFrame m #[.ref b, .int (Int32.ofNat o), .ref d, .int (Int32.ofNat q), .int (Int32.ofNat len)] 7)) (T7.setTop (mkF m 3 #[.val (.ref b), .val (.int (Int32.ofNat (o + i) + 1)), .val (.ref d), .val (.int (Int32.ofNat (q + i) + 1)), .val (.int (Int32.ofNat len)), .val (.int (Int32.ofNat i + 1)), .val (.int (cv A (o + i)))] [])) := c8.trans (by
        refine iincV X7.here hexec rfl 1 (hb hbytes d32) (by decide) rfl rfl ?_
        refine iincV X7.here hexec rfl 1 (hb hbytes d35) (by decide) rfl rfl ?_
        refine iincV X7.here hexec rfl 1 (hb hbytes d38) (by decide) rfl rfl ?_
        refine XS.goto X7.here hexec rfl (pc0 := 41) rfl (hb hbytes d41) (by decide) rfl ?_
        exact Steps.refl _)
      have c10 : Steps p.tables e below (s₁.setTop (entryFrame m #[.ref b, .int (Int32.ofNat o), .ref d, .int (Int32.ofNat q), .int (Int32.ofNat len)] 7)) (T7.setTop (mkF m 3 #[.val (.ref b), .val (.int (Int32.ofNat (o + (i + 1)))), .val (.ref d), .val (.int (Int32.ofNat (q + (i + 1)))), .val (.int (Int32.ofNat len)), .val (.int (Int32.ofNat (i + 1))), .val (.int (cv A (o + i)))] [])) := by
        have := c9
        rw [succ32, succ32, succ32] at this
        exact this
      exact ih (i + 1) (by omega) _ (Or.inr ⟨_, rfl, rfl⟩) T7 _ (by rw [copyLocs_step, ← List.append_assoc]; exact X7) (pl.trans p7) (fl.step (by omega) hlt (by simp)) c10
  obtain ⟨T9, B9, z9, X9, p9, f9, g9⟩ := loop len 0 (by omega) .unset (Or.inl rfl) s₁ B (by simpa [copyLocs] using X0) ⟨hB0.1, fun _ _ => rfl, rfl⟩ (Laid.zero _ _ _) c2
  have c11 : Steps p.tables e below (s₁.setTop (entryFrame m #[.ref b, .int (Int32.ofNat o), .ref d, .int (Int32.ofNat q), .int (Int32.ofNat len)] 7)) (T9.setTop (mkF m 46 #[.val (.ref b), .val (.int (Int32.ofNat (o + len))), .val (.ref d), .val (.int (Int32.ofNat (q + len))), .val (.int (Int32.ofNat len)), .val (.int (Int32.ofNat len)), z9] [.int (Int32.ofNat len)])) := g9.trans (by
    refine XS.iload X9.here hexec rfl (hb hbytes d3) rfl ?_
    refine XS.iload X9.here hexec rfl (hb hbytes d5) rfl ?_
    refine XS.icmpYes X9.here hexec rfl (pc0 := 7) rfl (hb hbytes d7) rfl (ii_ge_t (nlt32 (by omega) (Nat.le_refl _))) (by decide) rfl ?_
    refine XS.iload X9.here hexec rfl (hb hbytes d44) rfl ?_
    exact Steps.refl _)
  exact ⟨T9, some (.int (Int32.ofNat len)), _, _, _, X9, by simp, rfl, rfl, (fun h => by cases h), ⟨rfl, B9, p9.from hh0, f9⟩, fun fs hl => c11.trans (X9.ireturnOut hexec hret rfl (Or.inl rfl) (hb hbytes d46) hl)⟩
end Cmp5
namespace Cmp3
def yN : MethodName := ⟨"java/lang/StringUTF16", "compress", "([CII)[B"⟩
abbrev yB : ByteArray := jdk_52_method_16_code
theorem d0 : decode yB 0 = .ok (.iload_n 2, 1) := by decide +kernel
theorem d1 : decode yB 1 = .ok (.newarray .byte, 2) := by decide +kernel
theorem d3 : decode yB 3 = .ok (.astore_n 3, 1) := by decide +kernel
theorem d4 : decode yB 4 = .ok (.aload_n 0, 1) := by decide +kernel
theorem d5 : decode yB 5 = .ok (.iload_n 1, 1) := by decide +kernel
theorem d6 : decode yB 6 = .ok (.aload_n 3, 1) := by decide +kernel
theorem d7 : decode yB 7 = .ok (.iconst 0, 1) := by decide +kernel
theorem d8 : decode yB 8 = .ok (.iload_n 2, 1) := by decide +kernel
theorem d9 : decode yB 9 = .ok (.invokestatic 115, 3) := by decide +kernel
theorem d12 : decode yB 12 = .ok (.istore 4, 2) := by decide +kernel
theorem d14 : decode yB 14 = .ok (.iload 4, 2) := by decide +kernel
theorem d16 : decode yB 16 = .ok (.iload_n 2, 1) := by decide +kernel
theorem d17 : decode yB 17 = .ok (.if_icmp (.eq) 40, 3) := by decide +kernel
theorem d57 : decode yB 57 = .ok (.aload_n 3, 1) := by decide +kernel
theorem d58 : decode yB 58 = .ok (.areturn, 1) := by decide +kernel
def site : List Cond := [.arrayClass .byte, Cmp5.tab] ++ staticW U16 115 Cmp5.yN
def tab : Cond := tabOf yN yB 6 (some (.array .byte)) site
def P (b : Addr) (A : Cell) (o len : Nat) (args : Array Value) (s : State) : Prop := args = #[.ref b, .int (Int32.ofNat o), .int (Int32.ofNat len)] ∧ Ch b A s ∧ o + len ≤ A.slots.size ∧ len ≤ 536870912 ∧ ∀ i, i < len → ¬ 255 < cv A (o + i)
def E (b : Addr) (A : Cell) (o len : Nat) (r : Option Value) (s u : State) : Prop := NewArr .byte "[B" len (fun j => .int (lo8 (cv A (o + j)))) r s u ∧ u.heap.size = s.heap.size + 1
/-- no char of the range above 255: a new byte[] of their low bytes -/
theorem law (l : Launch) (b : Addr) (A : Cell) (o len : Nat) : Law l yN 3 3 1 18 yB 6 (some (.array .byte)) site (P b A o len) (E b A o len) [] 1 len := by
  refine Law.of_walk (plainFor_of_name (by decide +kernel)) (by decide +kernel) (by decide +kernel) (by decide) (fun _ _ h => by rw [h.1]; rfl) (fun _ U U' hal hh h => ⟨h.1, h.2.1.mv hal hh, h.2.2⟩) (fun r U U' V V' h1 hal h2 h => ⟨NewArr.mv r U U' V V' h1 hal h2 h.1, by rw [h1, h2]; exact h.2⟩) ?_
  intro p e s m args below meth c s₁ X0 hexec hbytes hml hret hlk hnm hown hh0 W hP
  obtain ⟨rfl, hA, l1, l2, hp⟩ := hP
  have a31 := hA.1.2.2.2
  have c1 : Steps p.tables e below (s₁.setTop (entryFrame m #[.ref b, .int (Int32.ofNat o), .int (Int32.ofNat len)] 6)) (s₁.setTop (mkF m 0 #[.val (.ref b), .val (.int (Int32.ofNat o)), .val (.int (Int32.ofNat len)), .unset, .unset, .unset] [])) := entry rfl
  have c2 : Steps p.tables e below (s₁.setTop (entryFrame m #[.ref b, .int (Int32.ofNat o), .int (Int32.ofNat len)] 6)) (s₁.setTop (mkF m 1 #[.val (.ref b), .val (.int (Int32.ofNat o)), .val (.int (Int32.ofNat len)), .unset, .unset, .unset] [.int (Int32.ofNat len)])) := c1.trans (by
    refine XS.iloadN X0.here hexec rfl (hb hbytes d0) rfl ?_
    exact Steps.refl _)
  obtain ⟨T3, B3, X3, ba3, bs3, bv3, bh3, bf3, st3⟩ := X0.anew hexec (atype := .byte) (wk W (.arrayClass .byte)) rfl (by show len * 1 ≤ _; omega) (by omega) (g := (mkF m 1 #[.val (.ref b), .val (.int (Int32.ofNat o)), .val (.int (Int32.ofNat len)), .unset, .unset, .unset] [.int (Int32.ofNat len)])) rfl (hb hbytes d1) (rest := []) rfl (Nat.le_refl _) (by show 0 + len ≤ len; omega)
  rw [hh0] at ba3 st3
  have kp3 : XT.Kept s T3 := (XT.Kept.of_eq hh0).push bh3
  have hA3 := hA.keep X3.warmed.alike (kp3 _ _ hA.1.1)
  have hne : b ≠ s.heap.size := hA.1.ne
  have c4 : Steps p.tables e below (s₁.setTop (entryFrame m #[.ref b, .int (Int32.ofNat o), .int (Int32.ofNat len)] 6)) (T3.setTop (mkF m 3 #[.val (.ref b), .val (.int (Int32.ofNat o)), .val (.int (Int32.ofNat len)), .unset, .unset, .unset] [.ref s.heap.size])) := c2.trans (st3 _ (Steps.refl _))
  have c5 : Steps p.tables e below (s₁.setTop (entryFrame m #[.ref b, .int (Int32.ofNat o), .int (Int32.ofNat len)] 6)) (T3.setTop (mkF m 9 #[.val (.ref b), .val (.int (Int32.ofNat o)), .val (.int (Int32.ofNat len)), .val (.ref s.heap.size), .unset, .unset] [.int (Int32.ofNat len), .int 0, .ref s.heap.size, .int (Int32.ofNat o), .ref b])) := c4.trans (by
    refine XS.astoreN X3.here hexec rfl (hb hbytes d3) rfl rfl rfl ?_
    refine XS.aloadN X3.here hexec rfl (hb hbytes d4) rfl rfl ?_
    refine XS.iloadN X3.here hexec rfl (hb hbytes d5) rfl ?_
    refine XS.aloadN X3.here hexec rfl (hb hbytes d6) rfl rfl ?_
    refine iconstV X3.here hexec rfl 0 (hb hbytes d7) (by decide) ?_
    refine XS.iloadN X3.here hexec rfl (hb hbytes d8) rfl ?_
    exact Steps.refl _)
  obtain ⟨v6, T6, X6, E6, g6⟩ := X3.callS hexec (Cmp5.law l b A s.heap.size B3 o 0 len) hown (wks W (staticW U16 115 Cmp5.yN)) (wk W Cmp5.tab) (W := 0) (Nat.le_of_ble_eq_true rfl) (Nat.le_of_ble_eq_true rfl) (Nat.le_refl _) (by show 0 + len + 0 ≤ len; omega) (g := (mkF m 9 #[.val (.ref b), .val (.int (Int32.ofNat o)), .val (.int (Int32.ofNat len)), .val (.ref s.heap.size), .unset, .unset] [.int (Int32.ofNat len), .int (Int32.ofNat 0), .ref s.heap.size, .int (Int32.ofNat o), .ref b])) rfl (by rw [hml]; rfl) c5 (argsL := [.ref b, .int (Int32.ofNat o), .ref s.heap.size, .int (Int32.ofNat 0), .int (Int32.ofNat len)]) (rest := []) rfl rfl (by show 2 * 0 + 0 ≤ _; decide) (hb hbytes d9) (⟨rfl, hA3, ba3, hne, l1, by rw [bs3]; simp, hp⟩)
  obtain ⟨rfl, B6, p6, f6⟩ := E6
  have c7 : Steps p.tables e below (s₁.setTop (entryFrame m #[.ref b, .int (Int32.ofNat o), .int (Int32.ofNat len)] 6)) (T6.setTop (mkF m 12 #[.val (.ref b), .val (.int (Int32.ofNat o)), .val (.int (Int32.ofNat len)), .val (.ref s.heap.size), .unset, .unset] [.int (Int32.ofNat len)])) := g6
  have c8 : Steps p.tables e below (s₁.setTop (entryFrame m #[.ref b, .int (Int32.ofNat o), .int (Int32.ofNat len)] 6)) (T6.setTop (mkF m 58 #[.val (.ref b), .val (.int (Int32.ofNat o)), .val (.int (Int32.ofNat len)), .val (.ref s.heap.size), .val (.int (Int32.ofNat len)), .unset] [.ref s.heap.size])) := c7.trans (by
    refine XS.istore X6.here hexec rfl (hb hbytes d12) rfl rfl ?_
    refine XS.iload X6.here hexec rfl (hb hbytes d14) rfl ?_
    refine XS.iloadN X6.here hexec rfl (hb hbytes d16) rfl ?_
    refine XS.icmpYes X6.here hexec rfl (pc0 := 17) rfl (hb hbytes d17) rfl (ii_eq_t rfl) (by decide) rfl ?_
    refine XS.aloadN X6.here hexec rfl (hb hbytes d57) rfl rfl ?_
    exact Steps.refl _)
  have X8 := X6.wide (L' := []) (cells' := 1) (slots' := len) (fun x hx hlt => by
    simp only [List.nil_append, copyLocs, List.mem_map, List.mem_range] at hx
    obtain ⟨i, -, rfl⟩ := hx
    exact absurd hlt (Nat.lt_irrefl _)) (Nat.le_refl _) (by omega)
  exact ⟨T6, some (.ref s.heap.size), _, _, _, X8, rfl, rfl, rfl, (fun h => by cases h), ⟨⟨rfl, B6, ba3.like (X3.warmed.alike.symm.trans X6.warmed.alike) p6.1 f6.1 f6.2.1 f6.2.2.1, f6.2.1.trans bv3, by rw [X6.warmed.alike.findClass, f6.1]; exact bf3, by rw [f6.2.2.1, bs3]; simp, fun j hj => by rw [f6.2.2.2 j, if_pos (by omega)]; rfl, kp3.put p6 (Nat.le_refl _)⟩, by rw [p6.2.2, bh3, hh0]; simp⟩, fun fs hl => c8.trans (X8.areturnOut hexec rfl hret rfl (hb hbytes d58) hl)⟩
end Cmp3
namespace CodL
def yN : MethodName := ⟨"java/lang/StringUTF16", "coderFromArrayLen", "([BI)B"⟩
abbrev yB : ByteArray := jdk_52_method_15_code
theorem d0 : decode yB 0 = .ok (.iload_n 1, 1) := by decide +kernel
theorem d1 : decode yB 1 = .ok (.aload_n 0, 1) := by decide +kernel
theorem d2 : decode yB 2 = .ok (.arraylength, 1) := by decide +kernel
theorem d3 : decode yB 3 = .ok (.isub, 1) := by decide +kernel
theorem d4 : decode yB 4 = .ok (.bipush 31, 2) := by decide +kernel
theorem d6 : decode yB 6 = .ok (.iushr, 1) := by decide +kernel
theorem d7 : decode yB 7 = .ok (.i2b, 1) := by decide +kernel
theorem d8 : decode yB 8 = .ok (.ireturn, 1) := by decide +kernel
def site : List Cond := []
def tab : Cond := tabOf yN yB 2 (some .byte) site
def P (d : Addr) (B : Cell) (args : Array Value) (s : State) : Prop := args = #[.ref d, .int (Int32.ofNat B.slots.size)] ∧ Arr .byte d B s
def E (r : Option Value) (s u : State) : Prop := XT.PureE (some (.int 0)) r s u
/-- an array as long as the number of chars: LATIN1 -/
theorem law (l : Launch) (d : Addr) (B : Cell) : Law l yN 2 2 0 0 yB 2 (some .byte) site (P d B) E [] 0 0 := by
  refine Law.of_walk (plainFor_of_name (by decide +kernel)) (by decide +kernel) (by decide +kernel) (by decide) (fun _ _ h => by rw [h.1]; rfl) (fun _ U U' hal hh h => ⟨h.1, h.2.mv hal hh⟩) (fun r U U' V V' h1 hal h2 h => XT.PureE.mv r U U' V V' h1 hal h2 h) ?_
  intro p e s m args below meth c s₁ X0 hexec hbytes hml hret hlk hnm hown hh0 W hP
  obtain ⟨rfl, hB⟩ := hP
  have hB0 := hB.mv X0.warmed.alike hh0
  have c1 : Steps p.tables e below (s₁.setTop (entryFrame m #[.ref d, .int (Int32.ofNat B.slots.size)] 2)) (s₁.setTop (mkF m 0 #[.val (.ref d), .val (.int (Int32.ofNat B.slots.size))] [])) := entry rfl
  have c2 : Steps p.tables e below (s₁.setTop (entryFrame m #[.ref d, .int (Int32.ofNat B.slots.size)] 2)) (s₁.setTop (mkF m 2 #[.val (.ref d), .val (.int (Int32.ofNat B.slots.size))] [.ref d, .int (Int32.ofNat B.slots.size)])) := c1.trans (by
    refine XS.iloadN X0.here hexec rfl (hb hbytes d0) rfl ?_
    refine XS.aloadN X0.here hexec rfl (hb hbytes d1) rfl rfl ?_
    exact Steps.refl _)
  have c3 : Steps p.tables e below (s₁.setTop (entryFrame m #[.ref d, .int (Int32.ofNat B.slots.size)] 2)) (s₁.setTop (mkF m 8 #[.val (.ref d), .val (.int (Int32.ofNat B.slots.size))] [.int (lo8 (ushr (Int32.ofNat B.slots.size - Int32.ofNat B.slots.size) 31))])) := c2.trans (by
    refine X0.alen hexec hB0 rfl rfl (hb hbytes d2) ?_
    refine XS.isub X0.here hexec rfl (hb hbytes d3) rfl ?_
    refine bipushV X0.here hexec rfl 31 (hb hbytes d4) (by decide) ?_
    refine iushr X0.here hexec rfl (hb hbytes d6) rfl ?_
    refine i2b X0.here hexec rfl (hb hbytes d7) rfl ?_
    exact Steps.refl _)
  have e0 : lo8 (ushr (Int32.ofNat B.slots.size - Int32.ofNat B.slots.size) 31) = 0 := by rw [Int32.sub_self]; decide
  rw [e0] at c3
  exact ⟨s₁, some (.int 0), _, _, _, X0, rfl, rfl, rfl, (fun h => by cases h), ⟨rfl, hh0⟩, fun fs hl => c3.trans (X0.ireturnOut hexec hret rfl (Or.inr (Or.inr (Or.inl rfl))) (hb hbytes d8) hl)⟩
end CodL
/-- the String at a is Latin-1 over a new byte[] (the heap's one new cell): the low bytes of the len chars of A from o on; every cell but a is kept -/
def Got (a : Addr) (D : Cell) (fV fC : Field) (A : Cell) (o len : Nat) (r : Option Value) (s u : State) : Prop := r = none ∧ ∃ D' V : Cell, Blank "java/lang/String" a D' u ∧ Same D D' [fV.slot, fC.slot] ∧ D'.slots[fV.slot]? = some (.ref s.heap.size) ∧ D'.slots[fC.slot]? = some (.int 0) ∧ Arr .byte s.heap.size V u ∧ V.vm = .none ∧ u.vm.findClass "[B" = some V.cls ∧ V.slots.size = len ∧ (∀ j, j < len → V.slots[j]? = some (.int (lo8 (cv A (o + j))))) ∧ (∀ (y : Addr) (c : Cell), y ≠ a → s.heap[y]? = some c → u.heap[y]? = some c) ∧ u.heap.size = s.heap.size + 1
theorem Got.mv {a : Addr} {D A : Cell} {fV fC : Field} {o len : Nat} : ∀ r (U U' V V' : State), U'.heap = U.heap → V.vm.Alike V'.vm → V'.heap = V.heap → Got a D fV fC A o len r U V → Got a D fV fC A o len r U' V' :=
  fun r U U' V V' h1 hal h2 ⟨e0, D', X, a1, a2, a3, a4, a5, a6, a7, a8, a9, a10, a11⟩ => ⟨e0, D', X, a1.mv hal h2, a2, by rw [h1]; exact a3, a4, by rw [h1]; exact a5.mv hal h2, a6, by rw [hal.findClass]; exact a7, a8, a9, by rw [h1, h2]; exact a10, by rw [h1, h2]; exact a11⟩
namespace New4
def yN : MethodName := ⟨"java/lang/String", "<init>", "([CIILjava/lang/Void;)V"⟩
abbrev yB : ByteArray := jdk_42_method_149_code
theorem d0 : decode yB 0 = .ok (.aload_n 0, 1) := by decide +kernel
theorem d1 : decode yB 1 = .ok (.invokespecial 1, 3) := by decide +kernel
theorem d4 : decode yB 4 = .ok (.iload_n 3, 1) := by decide +kernel
theorem d5 : decode yB 5 = .ok (.ifCond (.ne) 22, 3) := by decide +kernel
theorem d27 : decode yB 27 = .ok (.getstatic 38, 3) := by decide +kernel
theorem d30 : decode yB 30 = .ok (.ifCond (.eq) 28, 3) := by decide +kernel
theorem d33 : decode yB 33 = .ok (.aload_n 1, 1) := by decide +kernel
theorem d34 : decode yB 34 = .ok (.iload_n 2, 1) := by decide +kernel
theorem d35 : decode yB 35 = .ok (.iload_n 3, 1) := by decide +kernel
theorem d36 : decode yB 36 = .ok (.invokestatic 177, 3) := by decide +kernel
theorem d39 : decode yB 39 = .ok (.astore 5, 2) := by decide +kernel
theorem d41 : decode yB 41 = .ok (.aload_n 0, 1) := by decide +kernel
theorem d42 : decode yB 42 = .ok (.aload 5, 2) := by decide +kernel
theorem d44 : decode yB 44 = .ok (.iload_n 3, 1) := by decide +kernel
theorem d45 : decode yB 45 = .ok (.invokestatic 47, 3) := by decide +kernel
theorem d48 : decode yB 48 = .ok (.putfield 15, 3) := by decide +kernel
theorem d51 : decode yB 51 = .ok (.aload_n 0, 1) := by decide +kernel
theorem d52 : decode yB 52 = .ok (.aload 5, 2) := by decide +kernel
theorem d54 : decode yB 54 = .ok (.putfield 9, 3) := by decide +kernel
theorem d57 : decode yB 57 = .ok (.return_, 1) := by decide +kernel
def site : List Cond := [.fieldLink "java/lang/String" 38 "java/lang/String" "COMPACT_STRINGS" "Z", Cmp3.tab, CodL.tab, .laysFinal "java/lang/String" "java/lang/String" "value" "[B", .fieldLink "java/lang/String" 9 "java/lang/String" "value" "[B", .laysFinal "java/lang/String" "java/lang/String" "coder" "B", .fieldLink "java/lang/String" 15 "java/lang/String" "coder" "B"] ++ objW "java/lang/String" 1 ++ staticW "java/lang/String" 177 Cmp3.yN ++ staticW "java/lang/String" 47 CodL.yN
def tab : Cond := tabOf yN yB 6 none site
def P (a : Addr) (D : Cell) (fV fC : Field) (b : Addr) (A : Cell) (z : Int32) (o len : Nat) (args : Array Value) (s : State) : Prop := args = #[.ref a, .ref b, .int (Int32.ofNat o), .int (Int32.ofNat len), .null] ∧ Blank "java/lang/String" a D s ∧ Found "java/lang/String" "value" "[B" fV s ∧ Found "java/lang/String" "coder" "B" fC s ∧ Ch b A s ∧ StaticIs s "java/lang/String" "COMPACT_STRINGS" "Z" (.int z) ∧ ¬ z = 0 ∧ 0 < len ∧ o + len ≤ A.slots.size ∧ len ≤ 536870912 ∧ ∀ i, i < len → ¬ 255 < cv A (o + i)
def E (a : Addr) (D : Cell) (fV fC : Field) (A : Cell) (o len : Nat) (r : Option Value) (s u : State) : Prop := Got a D fV fC A o len r s u
/-- len > 0, no char of the range above 255: a Latin-1 String of their low bytes -/
theorem law (l : Launch) (a : Addr) (D : Cell) (fV fC : Field) (b : Addr) (A : Cell) (z : Int32) (o len : Nat) : Law l yN 5 4 2 35 yB 6 none site (P a D fV fC b A z o len) (E a D fV fC A o len) [⟨a, fC.slot⟩, ⟨a, fV.slot⟩] 1 len := by
  refine Law.of_walk (plainFor_of_name (by decide +kernel)) (by decide +kernel) (by decide +kernel) (by decide) (fun _ _ h => by rw [h.1]; rfl) (fun _ U U' hal hh h => ⟨h.1, h.2.1.mv hal hh, h.2.2.1.al hal, h.2.2.2.1.al hal, h.2.2.2.2.1.mv hal hh, h.2.2.2.2.2.1.there hal hh, h.2.2.2.2.2.2⟩) (fun r U U' V V' h1 hal h2 h => Got.mv r U U' V V' h1 hal h2 h) ?_
  intro p e s m args below meth c s₁ X0 hexec hbytes hml hret hlk hnm hown hh0 W hP
  obtain ⟨rfl, hB, f1, f2, hA, s1, hz, l0, l1, l2, hp⟩ := hP
  have a31 := hA.1.2.2.2
  have c1 : Steps p.tables e below (s₁.setTop (entryFrame m #[.ref a, .ref b, .int (Int32.ofNat o), .int (Int32.ofNat len), .null] 6)) (s₁.setTop (mkF m 0 #[.val (.ref a), .val (.ref b), .val (.int (Int32.ofNat o)), .val (.int (Int32.ofNat len)), .val .null, .unset] [])) := entry rfl
  have c2 : Steps p.tables e below (s₁.setTop (entryFrame m #[.ref a, .ref b, .int (Int32.ofNat o), .int (Int32.ofNat len), .null] 6)) (s₁.setTop (mkF m 1 #[.val (.ref a), .val (.ref b), .val (.int (Int32.ofNat o)), .val (.int (Int32.ofNat len)), .val .null, .unset] [.ref a])) := c1.trans (by
    refine XS.aloadN X0.here hexec rfl (hb hbytes d0) rfl rfl ?_
    exact Steps.refl _)
  obtain ⟨T3, X3, q3, st3⟩ := X0.oinit hexec hown (wks W (objW "java/lang/String" 1)) (g := (mkF m 1 #[.val (.ref a), .val (.ref b), .val (.int (Int32.ofNat o)), .val (.int (Int32.ofNat len)), .val .null, .unset] [.ref a])) rfl (by rw [hml]; rfl) (rest := []) rfl (hb hbytes d1) (W := 0) (by show 2 * 0 + 0 ≤ _; decide) (Nat.le_of_ble_eq_true rfl) (Nat.le_of_ble_eq_true rfl)
  have hh3 := q3.trans hh0
  have c4 : Steps p.tables e below (s₁.setTop (entryFrame m #[.ref a, .ref b, .int (Int32.ofNat o), .int (Int32.ofNat len), .null] 6)) (T3.setTop (mkF m 27 #[.val (.ref a), .val (.ref b), .val (.int (Int32.ofNat o)), .val (.int (Int32.ofNat len)), .val .null, .unset] [])) := (c2.trans (st3 _ (Steps.refl _))).trans (by
    refine XS.iloadN X3.here hexec rfl (hb hbytes d4) rfl ?_
    refine XS.ifYes X3.here hexec rfl (pc0 := 5) rfl (hb hbytes d5) rfl (i0_ne_t (nz32 (by omega) l0)) (by decide) rfl ?_
    exact Steps.refl _)
  obtain ⟨T5, X5, q5, st5⟩ := X3.sget hexec hown (wk W (.fieldLink "java/lang/String" 38 "java/lang/String" "COMPACT_STRINGS" "Z")) s1 (fun _ _ h => by rw [hh3]; exact h) (g := (mkF m 27 #[.val (.ref a), .val (.ref b), .val (.int (Int32.ofNat o)), .val (.int (Int32.ofNat len)), .val .null, .unset] [])) rfl (hb hbytes d27)
  have hh5 := q5.trans hh3
  have c6 : Steps p.tables e below (s₁.setTop (entryFrame m #[.ref a, .ref b, .int (Int32.ofNat o), .int (Int32.ofNat len), .null] 6)) (T5.setTop (mkF m 30 #[.val (.ref a), .val (.ref b), .val (.int (Int32.ofNat o)), .val (.int (Int32.ofNat len)), .val .null, .unset] [.int z])) := c4.trans (st5 _ (Steps.refl _))
  have c7 : Steps p.tables e below (s₁.setTop (entryFrame m #[.ref a, .ref b, .int (Int32.ofNat o), .int (Int32.ofNat len), .null] 6)) (T5.setTop (mkF m 36 #[.val (.ref a), .val (.ref b), .val (.int (Int32.ofNat o)), .val (.int (Int32.ofNat len)), .val .null, .unset] [.int (Int32.ofNat len), .int (Int32.ofNat o), .ref b])) := c6.trans (by
    refine XS.ifNo X5.here hexec rfl (hb hbytes d30) rfl (i0_eq_f hz) ?_
    refine XS.aloadN X5.here hexec rfl (hb hbytes d33) rfl rfl ?_
    refine XS.iloadN X5.here hexec rfl (hb hbytes d34) rfl ?_
    refine XS.iloadN X5.here hexec rfl (hb hbytes d35) rfl ?_
    exact Steps.refl _)
  obtain ⟨v8, T8, X8, E8, g8⟩ := X5.callS hexec (Cmp3.law l b A o len) hown (wks W (staticW "java/lang/String" 177 Cmp3.yN)) (wk W Cmp3.tab) (W := 0) (Nat.le_of_ble_eq_true rfl) (Nat.le_of_ble_eq_true rfl) (Nat.le_refl _) (by show 0 + len ≤ len; omega) (g := (mkF m 36 #[.val (.ref a), .val (.ref b), .val (.int (Int32.ofNat o)), .val (.int (Int32.ofNat len)), .val .null, .unset] [.int (Int32.ofNat len), .int (Int32.ofNat o), .ref b])) rfl (by rw [hml]; rfl) c7 (argsL := [.ref b, .int (Int32.ofNat o), .int (Int32.ofNat len)]) (rest := []) rfl rfl (by show 2 * 0 + 0 ≤ _; decide) (hb hbytes d36) (⟨rfl, hA.mv X5.warmed.alike hh5, l1, l2, hp⟩)
  obtain ⟨e8, z8⟩ := E8
  obtain ⟨rfl, N, n1, n2, n3, n4, n5, n6⟩ := NewArr.mv _ T5 s _ _ hh5.symm (Vm.Alike.refl _) rfl e8
  rw [hh5] at z8
  have hB1 := hB.keep X8.warmed.alike (n6 _ _ hB.1)
  have hne : s.heap.size ≠ a := (Nat.ne_of_lt (Array.getElem?_eq_some_iff.mp hB.1).1).symm
  have c9 : Steps p.tables e below (s₁.setTop (entryFrame m #[.ref a, .ref b, .int (Int32.ofNat o), .int (Int32.ofNat len), .null] 6)) (T8.setTop (mkF m 39 #[.val (.ref a), .val (.ref b), .val (.int (Int32.ofNat o)), .val (.int (Int32.ofNat len)), .val .null, .unset] [.ref s.heap.size])) := g8
  have c10 : Steps p.tables e below (s₁.setTop (entryFrame m #[.ref a, .ref b, .int (Int32.ofNat o), .int (Int32.ofNat len), .null] 6)) (T8.setTop (mkF m 45 #[.val (.ref a), .val (.ref b), .val (.int (Int32.ofNat o)), .val (.int (Int32.ofNat len)), .val .null, .val (.ref s.heap.size)] [.int (Int32.ofNat N.slots.size), .ref s.heap.size, .ref a])) := by
    have hc : Steps p.tables e below (s₁.setTop (entryFrame m #[.ref a, .ref b, .int (Int32.ofNat o), .int (Int32.ofNat len), .null] 6)) (T8.setTop (mkF m 45 #[.val (.ref a), .val (.ref b), .val (.int (Int32.ofNat o)), .val (.int (Int32.ofNat len)), .val .null, .val (.ref s.heap.size)] [.int (Int32.ofNat len), .ref s.heap.size, .ref a])) := c9.trans (by
      refine XS.astore X8.here hexec rfl (hb hbytes d39) rfl rfl rfl ?_
      refine XS.aloadN X8.here hexec rfl (hb hbytes d41) rfl rfl ?_
      refine XS.aload X8.here hexec rfl (hb hbytes d42) rfl rfl ?_
      refine XS.iloadN X8.here hexec rfl (hb hbytes d44) rfl ?_
      exact Steps.refl _)
    rw [n4]; exact hc
  obtain ⟨v11, T11, X11, E11, g11⟩ := X8.callS hexec (CodL.law l s.heap.size N) hown (wks W (staticW "java/lang/String" 47 CodL.yN)) (wk W CodL.tab) (W := 1) (Nat.le_of_ble_eq_true rfl) (Nat.le_of_ble_eq_true rfl) (Nat.le_refl _) (by show 0 + len + 0 ≤ len; omega) (g := (mkF m 45 #[.val (.ref a), .val (.ref b), .val (.int (Int32.ofNat o)), .val (.int (Int32.ofNat len)), .val .null, .val (.ref s.heap.size)] [.int (Int32.ofNat N.slots.size), .ref s.heap.size, .ref a])) rfl (by rw [hml]; rfl) c10 (argsL := [.ref s.heap.size, .int (Int32.ofNat N.slots.size)]) (rest := [.ref a]) rfl rfl (by show 2 * 0 + (1 + 0) ≤ _; decide) (hb hbytes d45) (⟨rfl, n1⟩)
  obtain ⟨rfl, q11⟩ := E11
  have hB11 := hB1.mv (X8.warmed.alike.symm.trans X11.warmed.alike) q11
  have c12 : Steps p.tables e below (s₁.setTop (entryFrame m #[.ref a, .ref b, .int (Int32.ofNat o), .int (Int32.ofNat len), .null] 6)) (T11.setTop (mkF m 48 #[.val (.ref a), .val (.ref b), .val (.int (Int32.ofNat o)), .val (.int (Int32.ofNat len)), .val .null, .val (.ref s.heap.size)] [.int 0, .ref a])) := g11
  obtain ⟨T13, X13, p13, bl13, sl13, st13⟩ := X11.finit hexec hown (wk W (.fieldLink "java/lang/String" 15 "java/lang/String" "coder" "B")) (Or.inr ⟨_, (wk W (.laysFinal "java/lang/String" "java/lang/String" "coder" "B"))⟩) (Or.inl ⟨rfl, hnm⟩) f2 (Or.inl rfl) hB11 (t := .byte) (by decide +kernel) rfl (g := (mkF m 48 #[.val (.ref a), .val (.ref b), .val (.int (Int32.ofNat o)), .val (.int (Int32.ofNat len)), .val .null, .val (.ref s.heap.size)] [.int 0, .ref a])) rfl (rest := []) rfl (hb hbytes d48)
  have c14 : Steps p.tables e below (s₁.setTop (entryFrame m #[.ref a, .ref b, .int (Int32.ofNat o), .int (Int32.ofNat len), .null] 6)) (T13.setTop (mkF m 54 #[.val (.ref a), .val (.ref b), .val (.int (Int32.ofNat o)), .val (.int (Int32.ofNat len)), .val .null, .val (.ref s.heap.size)] [.ref s.heap.size, .ref a])) := (c12.trans (st13 _ (Steps.refl _))).trans (by
    refine XS.aloadN X13.here hexec rfl (hb hbytes d51) rfl rfl ?_
    refine XS.aload X13.here hexec rfl (hb hbytes d52) rfl rfl ?_
    exact Steps.refl _)
  obtain ⟨T15, X15, p15, bl15, sl15, st15⟩ := X13.finit hexec hown (wk W (.fieldLink "java/lang/String" 9 "java/lang/String" "value" "[B")) (Or.inr ⟨_, (wk W (.laysFinal "java/lang/String" "java/lang/String" "value" "[B"))⟩) (Or.inl ⟨rfl, hnm⟩) f1 (Or.inl rfl) bl13 (t := (.array .byte)) (by decide +kernel) rfl (g := (mkF m 54 #[.val (.ref a), .val (.ref b), .val (.int (Int32.ofNat o)), .val (.int (Int32.ofNat len)), .val .null, .val (.ref s.heap.size)] [.ref s.heap.size, .ref a])) rfl (rest := []) rfl (hb hbytes d54)
  have c16 : Steps p.tables e below (s₁.setTop (entryFrame m #[.ref a, .ref b, .int (Int32.ofNat o), .int (Int32.ofNat len), .null] 6)) (T15.setTop (mkF m 57 #[.val (.ref a), .val (.ref b), .val (.int (Int32.ofNat o)), .val (.int (Int32.ofNat len)), .val .null, .val (.ref s.heap.size)] [])) := c14.trans (st15 _ (Steps.refl _))
  have ap := apart (Or.inr ⟨_, (wk W (.laysFinal "java/lang/String" "java/lang/String" "value" "[B"))⟩) (Or.inr ⟨_, (wk W (.laysFinal "java/lang/String" "java/lang/String" "coder" "B"))⟩) f1 f2 (t₁ := .array .byte) (t₂ := .byte) (by decide +kernel) (by decide +kernel) (by decide)
  have al := X8.warmed.alike.symm.trans X15.warmed.alike
  have n7 : T11.heap[s.heap.size]? = some N := by rw [q11]; exact n1.1
  exact ⟨T15, none, _, _, _, X15, by simp, rfl, by omega, (fun _ => rfl), ⟨rfl, _, N, bl15, ((Same.refl D _).set _ (by simp)).set _ (by simp), sl15, (Cell.slots_setSlot_ne _ ap).trans sl13, n1.keep al (p15.other hne (p13.other hne n7)), n2, by rw [al.findClass]; exact n3, n4, n5, fun y c h1 h2 => p15.other h1 (p13.other h1 (by rw [q11]; exact n6 y c h2)), by rw [p15.2.2, p13.2.2, q11]; exact z8⟩, fun fs hl => c16.trans (X15.returnOut hexec hret (hb hbytes d57) hl)⟩
end New4
namespace New1
def yN : MethodName := ⟨"java/lang/String", "<init>", "([C)V"⟩
abbrev yB : ByteArray := jdk_42_method_3_code
theorem d0 : decode yB 0 = .ok (.aload_n 0, 1) := by decide +kernel
theorem d1 : decode yB 1 = .ok (.aload_n 1, 1) := by decide +kernel
theorem d2 : decode yB 2 = .ok (.iconst 0, 1) := by decide +kernel
theorem d3 : decode yB 3 = .ok (.aload_n 1, 1) := by decide +kernel
theorem d4 : decode yB 4 = .ok (.arraylength, 1) := by decide +kernel
theorem d5 : decode yB 5 = .ok (.aconst_null, 1) := by decide +kernel
theorem d6 : decode yB 6 = .ok (.invokespecial 27, 3) := by decide +kernel
theorem d9 : decode yB 9 = .ok (.return_, 1) := by decide +kernel
def site : List Cond := [New4.tab] ++ initW "java/lang/String" 27 New4.yN
def tab : Cond := tabOf yN yB 2 none site
def P (a : Addr) (D : Cell) (fV fC : Field) (b : Addr) (A : Cell) (z : Int32) (args : Array Value) (s : State) : Prop := args = #[.ref a, .ref b] ∧ Blank "java/lang/String" a D s ∧ Found "java/lang/String" "value" "[B" fV s ∧ Found "java/lang/String" "coder" "B" fC s ∧ Ch b A s ∧ StaticIs s "java/lang/String" "COMPACT_STRINGS" "Z" (.int z) ∧ ¬ z = 0 ∧ 0 < A.slots.size ∧ A.slots.size ≤ 536870912 ∧ ∀ i, i < A.slots.size → ¬ 255 < cv A i
def E (a : Addr) (D : Cell) (fV fC : Field) (A : Cell) (r : Option Value) (s u : State) : Prop := Got a D fV fC A 0 A.slots.size r s u
/-- new String(chars), not empty, no char above 255: a Latin-1 String of their low bytes -/
theorem law (l : Launch) (a : Addr) (D : Cell) (fV fC : Field) (b : Addr) (A : Cell) (z : Int32) : Law l yN 2 1 3 52 yB 2 none site (P a D fV fC b A z) (E a D fV fC A) [⟨a, fC.slot⟩, ⟨a, fV.slot⟩] 1 A.slots.size := by
  refine Law.of_walk (plainFor_of_name (by decide +kernel)) (by decide +kernel) (by decide +kernel) (by decide) (fun _ _ h => by rw [h.1]; rfl) (fun _ U U' hal hh h => ⟨h.1, h.2.1.mv hal hh, h.2.2.1.al hal, h.2.2.2.1.al hal, h.2.2.2.2.1.mv hal hh, h.2.2.2.2.2.1.there hal hh, h.2.2.2.2.2.2⟩) (fun r U U' V V' h1 hal h2 h => Got.mv r U U' V V' h1 hal h2 h) ?_
  intro p e s m args below meth c s₁ X0 hexec hbytes hml hret hlk hnm hown hh0 W hP
  obtain ⟨rfl, hB, f1, f2, hA, s1, hz, l0, l2, hp⟩ := hP
  have c1 : Steps p.tables e below (s₁.setTop (entryFrame m #[.ref a, .ref b] 2)) (s₁.setTop (mkF m 0 #[.val (.ref a), .val (.ref b)] [])) := entry rfl
  have c2 : Steps p.tables e below (s₁.setTop (entryFrame m #[.ref a, .ref b] 2)) (s₁.setTop (mkF m 6 #[.val (.ref a), .val (.ref b)] [.null, .int (Int32.ofNat A.slots.size), .int 0, .ref b, .ref a])) := c1.trans (by
    refine XS.aloadN X0.here hexec rfl (hb hbytes d0) rfl rfl ?_
    refine XS.aloadN X0.here hexec rfl (hb hbytes d1) rfl rfl ?_
    refine iconstV X0.here hexec rfl 0 (hb hbytes d2) (by decide) ?_
    refine XS.aloadN X0.here hexec rfl (hb hbytes d3) rfl rfl ?_
    refine X0.alen hexec (hA.1.mv X0.warmed.alike hh0) rfl rfl (hb hbytes d4) ?_
    refine XS.aconstNull X0.here hexec rfl (hb hbytes d5) ?_
    exact Steps.refl _)
  obtain ⟨v3, T3, X3, E3, g3⟩ := X0.callN hexec (New4.law l a D fV fC b A z 0 A.slots.size) rfl hown (wks W (initW "java/lang/String" 27 New4.yN)) (W New4.tab (by simp only [site, List.mem_cons, List.mem_append, true_or, or_true])) (W := 0) (Nat.le_of_ble_eq_true rfl) (Nat.le_of_ble_eq_true rfl) (Nat.le_refl _) (by show 0 + A.slots.size ≤ A.slots.size; omega) (g := (mkF m 6 #[.val (.ref a), .val (.ref b)] [.null, .int (Int32.ofNat A.slots.size), .int (Int32.ofNat 0), .ref b, .ref a])) rfl (by rw [hml]; rfl) c2 (argsL := [.ref b, .int (Int32.ofNat 0), .int (Int32.ofNat A.slots.size), .null]) (rest := []) rfl rfl (by show 2 * 0 + 0 ≤ _; decide) (hb hbytes d6) (⟨rfl, hB.mv X0.warmed.alike hh0, f1.al X0.warmed.alike, f2.al X0.warmed.alike, hA.mv X0.warmed.alike hh0, s1.there X0.warmed.alike hh0, hz, l0, by omega, l2, fun i hi => by rw [Nat.zero_add]; exact hp i hi⟩)
  have e0 := Got.mv _ s₁ s _ _ hh0.symm (Vm.Alike.refl _) rfl E3
  obtain rfl := e0.1
  have c4 : Steps p.tables e below (s₁.setTop (entryFrame m #[.ref a, .ref b] 2)) (T3.setTop (mkF m 9 #[.val (.ref a), .val (.ref b)] [])) := g3
  exact ⟨T3, none, _, _, _, X3, by simp, rfl, by omega, (fun _ => rfl), e0, fun fs hl => c4.trans (X3.returnOut hexec hret (hb hbytes d9) hl)⟩
theorem pays {l : Launch} {R : Room} {p : Program} {e : Env} {below : List Frame} {s : State} {sargs : Array Value} {len W : Nat} (a : Addr) (D : Cell) (fV fC : Field) (b : Addr) (A : Cell) (z : Int32) (htab : tab.before sargs s = true) (hfr : 4 ≤ R.frames) (hlo : W + 65 ≤ R.locals) :
    Back l R p e below s sargs yN len W (fun A₁ a₁ => A₁.cells + 1 ≤ R.cells ∧ A₁.slots + A.slots.size ≤ R.slots ∧ P a D fV fC b A z a₁ A₁.U) (fun A₁ _ v₁ B₁ => E a D fV fC A v₁ A₁.U B₁.U ∧ B₁.locs = A₁.locs ++ [⟨a, fC.slot⟩, ⟨a, fV.slot⟩] ∧ B₁.cells = A₁.cells + 1 ∧ B₁.slots = A₁.slots + A.slots.size) :=
  (law l a D fV fC b A z).pays htab hfr (by omega)
end New1
end StrChars
namespace StrChars.Road
open Jvm Sem ClassFile Op Lib Jvm.Stand Jvm.Free Jvm.Free.XT
open Jvm.Lib.Cold (StaticIs)
abbrev ST : String := "java/lang/String"
/-- every table word that New1's law asks, flat -/
abbrev words : List Jvm.Cond := [.code New1.yN New1.yB 2 none, .initialized ST, .methodLink ST 27 New4.yN, .instanceMethod New4.yN,
  .code New4.yN New4.yB 6 none, .fieldLink ST 38 ST "COMPACT_STRINGS" "Z", .laysFinal ST ST "value" "[B", .fieldLink ST 9 ST "value" "[B", .laysFinal ST ST "coder" "B", .fieldLink ST 15 ST "coder" "B",
  .methodLink ST 1 Lib.objectInit, .instanceMethod Lib.objectInit, .code Lib.objectInit ⟨#[0xb1]⟩ 1 none, .methodLink ST 177 Cmp3.yN, .static Cmp3.yN, .methodLink ST 47 CodL.yN, .static CodL.yN,
  .code Cmp3.yN Cmp3.yB 6 (some (.array .byte)), .initialized U16, .arrayClass .byte, .methodLink U16 115 Cmp5.yN, .static Cmp5.yN, .code Cmp5.yN Cmp5.yB 7 (some .int), .code CodL.yN CodL.yB 2 (some .byte)]
theorem tab_of {a : Array Value} {s : State} (h : ∀ w ∈ words, w.before a s = true) : New1.tab.before a s = true := by
  have h5 : Cmp5.tab.before a s = true := unparts (wk h (.code Cmp5.yN Cmp5.yB 7 (some .int))) (wks h (.initialized Cmp5.yN.cls :: Cmp5.site))
  have hc : CodL.tab.before a s = true := unparts (wk h (.code CodL.yN CodL.yB 2 (some .byte))) (wks h (.initialized CodL.yN.cls :: CodL.site))
  have q5 : ∀ w ∈ Cmp5.tab :: words, w.before a s = true := fun w hw => (List.mem_cons.mp hw).elim (fun e => e ▸ h5) (h w)
  have h3 : Cmp3.tab.before a s = true := unparts (wk q5 (.code Cmp3.yN Cmp3.yB 6 (some (.array .byte)))) (wks q5 (.initialized Cmp3.yN.cls :: Cmp3.site))
  have q3 : ∀ w ∈ Cmp3.tab :: CodL.tab :: words, w.before a s = true := fun w hw => (List.mem_cons.mp hw).elim (fun e => e ▸ h3) fun hw => (List.mem_cons.mp hw).elim (fun e => e ▸ hc) (h w)
  have h4 : New4.tab.before a s = true := unparts (wk q3 (.code New4.yN New4.yB 6 none)) (wks q3 (.initialized New4.yN.cls :: New4.site))
  have q4 : ∀ w ∈ New4.tab :: words, w.before a s = true := fun w hw => (List.mem_cons.mp hw).elim (fun e => e ▸ h4) (h w)
  exact unparts (wk q4 (.code New1.yN New1.yB 2 none)) (wks q4 (.initialized New1.yN.cls :: New1.site))
/-- the words ride from the start Z to the walk's own state -/
theorem moved {Z s : State} {a0 args : Array Value} (hZ : Z.Warmed39 s.vm) (hw : ∀ d ∈ words, d.before a0 Z = true) : ∀ d ∈ words, d.before args s = true := fun d hd => by
  have q := hw d hd
  have t : ∀ d ∈ words, d = .arrayClass .byte ∨ (d.onTables && d.keepsFace) = true := by decide +kernel
  rcases t d hd with rfl | t
  · exact RoadKit.mvA hZ q
  · exact RoadKit.mv hZ q t
/-- WHAT COMES BACK, over the tables of the start Z: h the heap at the call, h' behind it -/
def Q (Z : State) (x : Addr) (A : Cell) (h : Heap) (v : Option Value) (h' : Heap) (L : List Loc) : Prop := v = none ∧ (∀ y ∈ L, y.base = x) ∧ RoadKit.Keep h h' [x] ∧ h'.size = h.size + 1 ∧ RoadKit.Exa Z h' x ST ∧ RoadKit.Fld Z h' x ST "value" "[B" (.ref h.size) ∧ RoadKit.Fld Z h' x ST "coder" "B" (.int 0) ∧
  (∃ V : Cell, RoadKit.Arr Z h' h.size V .byte ∧ V.vm = .none ∧ Z.vm.findClass "[B" = some V.cls ∧ V.slots.size = A.slots.size ∧ ∀ j, j < A.slots.size → V.slots[j]? = some (.int (lo8 (cv A j)))) ∧
  ∀ (O n d : String) (w : Value), RoadKit.Fld Z h x O n d w → RoadKit.slotOf Z O n d ≠ RoadKit.slotOf Z ST "value" "[B" → RoadKit.slotOf Z O n d ≠ RoadKit.slotOf Z ST "coder" "B" → RoadKit.Fld Z h' x O n d w
/-- **new String(chars) AT A CALL, IN THE ROAD'S FORM**: for specialBack behind newO: x the fresh String, b the char[] with the cell A -/
theorem back {p : Program} {l : Launch} {e : Env} {R : Room} {s : State} {args : Array Value} {below : List Frame} {len W : Nat} {Z : State} {a0 : Array Value} {h : Heap} (hZ : Z.Warmed39 s.vm) (hw : ∀ d ∈ words, d.before a0 Z = true) {kI : Nat} (wi : (Jvm.Cond.instantiable ST kI).before a0 Z = true)
    {x b : Addr} {A : Cell} {z : Int32} {v0 c0 : Value} (E : RoadKit.Exa Z h x ST) (V : RoadKit.Fld Z h x ST "value" "[B" v0) (C : RoadKit.Fld Z h x ST "coder" "B" c0) (K : RoadKit.Arr Z h b A .char) (hty : Typed .char A) (S : RoadKit.Sta Z h ST "COMPACT_STRINGS" "Z" (.int z)) (hz : ¬ z = 0)
    (l0 : 0 < A.slots.size) (l2 : A.slots.size ≤ 536870912) (hp : ∀ i, i < A.slots.size → ¬ 255 < cv A i) (hfr : 4 ≤ R.frames) (hlo : W + 65 ≤ R.locals) :
    Back l R p e below s args New1.yN len W (fun P a => a = #[.ref x, .ref b] ∧ P.U.heap = h ∧ P.cells + 1 ≤ R.cells ∧ P.slots + A.slots.size ≤ R.slots)
      (fun P _ v B => ∃ L, Q Z x A h v B.U.heap L ∧ B.locs = P.locs ++ L ∧ B.cells = P.cells + 1 ∧ B.slots = P.slots + A.slots.size) := by
  intro m meth c P g ig mk a X hg hsize hdg hW hn hp'
  obtain ⟨rfl, rfl, r1, r2⟩ := hp'
  have al : Z.vm.Alike P.U.vm := hZ.alike.trans X.warmed.alike
  obtain ⟨D, cfV, kV, iV, fV, hD, gV, stV, knV, obV, asV, slV⟩ := id V
  obtain ⟨D', cfC, kC, iC, fC, hD', gC, stC, -, -, asC, slC⟩ := id C
  cases hD.symm.trans hD'
  obtain ⟨D2, kD, e1, e2, e3, e4, e5⟩ := id E
  cases hD.symm.trans e1
  obtain ⟨c2, k2, i1, i2, i3, -⟩ := Cond.instantiable_spec wi
  cases e2.symm.trans i1
  cases e3.symm.trans i2
  obtain ⟨kU, u1, u2⟩ := al.2.2 _ _ e3
  have hB : Blank ST x D P.U := ⟨hD, ⟨knV, fun q hq => by rw [hq] at obV; cases obV⟩, by rw [al.findClass]; exact e2, kU, u1, by rw [u2]; exact i3, by rw [u2]; exact e5 i3⟩
  have F1 : Found ST "value" "[B" fV P.U := ⟨SBG.found_only al ⟨cfV, kV, iV, gV⟩, stV⟩
  have F2 : Found ST "coder" "B" fC P.U := ⟨SBG.found_only al ⟨cfC, kC, iC, gC⟩, stC⟩
  have hA : Ch b A P.U := ⟨⟨K.1, State.isArrayOf_alike al K.2.1, K.2.2, by omega⟩, hty⟩
  have hS : StaticIs P.U ST "COMPACT_STRINGS" "Z" (.int z) := by
    obtain ⟨cfS, iS, kS, fS, st, cS, t1, t2, t3, t4, t5, t6, t7⟩ := S
    exact StaticIs.there (s := { Z with heap := P.U.heap }) ⟨cfS, iS, kS, fS, st, cS, t1, t2, t3, t4, t5, (fun q => by rw [q] at t6; cases t6), t7⟩ al rfl
  obtain ⟨v, B, X', ⟨⟨hv, E', V', q1, q2, q3, q4, q5, q6, q7, q8, q9, q10, q11⟩, hl, hc, hs⟩, st⟩ := New1.pays x D fV fC b A z (tab_of (moved hZ hw)) hfr hlo m meth c P g ig mk _ X hg hsize hdg hW hn ⟨r1, r2, rfl, hB, F1, F2, hA, hS, hz, l0, l2, hp⟩
  have al' : Z.vm.Alike B.U.vm := hZ.alike.trans X'.warmed.alike
  have hsz : E'.slots.size = D.slots.size := by
    obtain ⟨-, -, -, kB, w1, w2, w3⟩ := q1
    obtain ⟨kB', y1, y2⟩ := al'.2.2 _ _ e3
    rw [q2.2.1] at w1
    cases w1.symm.trans y1
    rw [w3, e5 i3, y2]
  refine ⟨v, B, X', ⟨_, ⟨hv, ?_, ⟨by omega, fun y cy hy hn' => q10 y cy (by simpa using hn') hy, fun y cy hy => ?_⟩, q11, ⟨E', _, q1.1, by rw [q2.2.1]; exact e2, by rw [q2.2.1]; exact e3, by rw [q2.1]; exact obV, fun _ => by rw [hsz]; exact e5 i3⟩,
    ⟨E', cfV, kV, iV, fV, q1.1, gV, stV, by rw [q2.1]; exact knV, by rw [q2.1]; exact obV, by rw [q2.2.1]; exact asV, q3⟩, ⟨E', cfC, kC, iC, fC, q1.1, gC, stC, by rw [q2.1]; exact knV, by rw [q2.1]; exact obV, by rw [q2.2.1]; exact asC, q4⟩,
    ⟨V', ⟨q5.1, State.isArrayOf_alike al'.symm q5.2.1, q5.2.2.1⟩, q6, by rw [← al'.findClass]; exact q7, q8, fun j hj => by have := q9 j hj; rwa [Nat.zero_add] at this⟩, fun O n d w F n1 n2 => ?_⟩, hl, hc, hs⟩, st⟩
  · intro y hy
    simp only [List.mem_cons, List.not_mem_nil, or_false] at hy
    rcases hy with rfl | rfl <;> rfl
  · by_cases q : y = x
    · subst q
      cases hD.symm.trans hy
      exact ⟨E', q1.1, q2.2.1, q2.1, hsz⟩
    · exact ⟨cy, q10 y cy q hy, rfl, rfl, rfl⟩
  · obtain ⟨D3, cf, k, i, f, g1, g2, g3, g4, g5, g6, g7⟩ := F
    cases hD.symm.trans g1
    simp only [RoadKit.slotOf, g2, gV, gC, Option.map_some, Option.getD_some] at n1 n2
    exact ⟨E', cf, k, i, f, q1.1, g2, g3, by rw [q2.1]; exact g4, by rw [q2.1]; exact g5, by rw [q2.2.1]; exact g6, by rw [q2.2.2 f.slot (by simp [n1, n2])]; exact g7⟩
end StrChars.Road
namespace StrChars.Road
open Jvm Sem ClassFile Op Lib Jvm.Stand Jvm.Free Jvm.Free.XT
/-- WHAT COMES BACK, the byte[] as a list of values -/
def QA (Z : State) (x : Addr) (zn : Int32) (cs : List Int32) (h : Heap) (v : Option Value) (h' : Heap) (L : List Loc) : Prop := v = none ∧ (∀ y ∈ L, y.base = x) ∧ RoadKit.Keep h h' [x] ∧ h'.size = h.size + 1 ∧ RoadKit.Exa Z h' x ST ∧ RoadKit.Fld Z h' x ST "value" "[B" (.ref h.size) ∧ RoadKit.Fld Z h' x ST "coder" "B" (.int 0) ∧
  (∃ kb, Z.vm.findClass "[B" = some kb ∧ RoadKit.Arv Z h' h.size kb .byte zn (cs.map fun c => .int (lo8 c)) (.int 0)) ∧
  ∀ (O n d : String) (w : Value), RoadKit.Fld Z h x O n d w → RoadKit.slotOf Z O n d ≠ RoadKit.slotOf Z ST "value" "[B" → RoadKit.slotOf Z O n d ≠ RoadKit.slotOf Z ST "coder" "B" → RoadKit.Fld Z h' x O n d w
/-- **new String(chars) AT A CALL, THE ARRAYS AS LISTS**: the char[] at b holds cs, not empty, no char above 255 -/
theorem backArv {p : Program} {l : Launch} {e : Env} {R : Room} {s : State} {args : Array Value} {below : List Frame} {len W : Nat} {Z : State} {a0 : Array Value} {h : Heap} (hZ : Z.Warmed39 s.vm) (hw : ∀ d ∈ words, d.before a0 Z = true) {kI : Nat} (wi : (Jvm.Cond.instantiable ST kI).before a0 Z = true)
    {x b : Addr} {k : ClassId} {zn z : Int32} {cs : List Int32} {dv v0 c0 : Value} (E : RoadKit.Exa Z h x ST) (V : RoadKit.Fld Z h x ST "value" "[B" v0) (C : RoadKit.Fld Z h x ST "coder" "B" c0) (K : RoadKit.Arv Z h b k .char zn (cs.map Value.int) dv) (S : RoadKit.Sta Z h ST "COMPACT_STRINGS" "Z" (.int z)) (hz : ¬ z = 0)
    (hlen : zn.toNatClampNeg = cs.length) (h0 : 0 < cs.length) (hbig : cs.length ≤ 536870912) (hall : ∀ c ∈ cs, ¬ 255 < c) (hfr : 4 ≤ R.frames) (hlo : W + 65 ≤ R.locals) :
    Back l R p e below s args New1.yN len W (fun P a => a = #[.ref x, .ref b] ∧ P.U.heap = h ∧ P.cells + 1 ≤ R.cells ∧ P.slots + cs.length ≤ R.slots)
      (fun P _ v B => ∃ L, QA Z x zn cs h v B.U.heap L ∧ B.locs = P.locs ++ L ∧ B.cells = P.cells + 1 ∧ B.slots = P.slots + cs.length) := by
  obtain ⟨A, K1, K2, K3, K4, K5, K6⟩ := K
  have e : A.slots.size = cs.length := K3.trans hlen
  have hat : ∀ (i : Nat) (hi : i < cs.length), A.slots[i]? = some (.int cs[i]) := fun i hi => by rw [K5 i (by omega)]; simp [List.getD_eq_getElem?_getD, hi]
  have hcv : ∀ (i : Nat) (hi : i < cs.length), cv A i = cs[i] := fun i hi => by unfold cv; rw [hat i hi]
  have hty : Typed .char A := fun i v hv => by
    have hi : i < A.slots.size := (Array.getElem?_eq_some_iff.mp hv).1
    have q := K5 i hi
    rw [hv] at q
    rw [Option.some.inj q]
    exact K6 i hi
  refine Back.mono (back hZ hw wi E V C K1 hty S hz (by omega) (by omega) (fun i hi => by rw [hcv i (by omega)]; exact hall _ (List.getElem_mem _)) hfr hlo) (fun P a hp => ⟨hp.1, hp.2.1, hp.2.2.1, by rw [e]; exact hp.2.2.2⟩) (fun P a v B hp hq => ?_)
  obtain ⟨L, ⟨q1, q2, q3, q4, q5, q6, q7, ⟨V', v1, v2, v3, v4, v5⟩, q9⟩, hl, hc, hs⟩ := hq
  refine ⟨L, ⟨q1, q2, q3, q4, q5, q6, q7, ⟨V'.cls, v3, V', v1, rfl, by rw [v4, e, hlen], K4, fun i hi => ?_, fun i hi => ?_⟩, q9⟩, hl, hc, by rw [hs, e]⟩
  · have hi' : i < cs.length := by omega
    rw [v5 i (by omega), hcv i hi']; simp [List.getD_eq_getElem?_getD, hi']
  · have hi' : i < cs.length := by omega
    simp only [List.getD_eq_getElem?_getD, List.getElem?_map, List.getElem?_eq_getElem hi', Option.map_some, Option.getD_some]
    exact fits_lo8 _
end StrChars.Road
namespace StrChars.Road
open Jvm Sem ClassFile Op Lib Jvm.Stand Jvm.Free Jvm.Free.XT
/-- WHAT COMES BACK, in the writer's own shape -/
def QV (Z : State) (x : Addr) (N : Int32) (bs : List Int32) (h : Heap) (n0 : Nat) (v : Option Value) (h' : Heap) (L : List Loc) : Prop := v = none ∧ RoadKit.Fr n0 L ∧ RoadKit.Keep h h' [x] ∧ RoadKit.Exa Z h' x ST ∧ RoadKit.Fld Z h' x ST "coder" "B" (.int 0) ∧
  ∃ (t : Addr) (kb : ClassId), n0 ≤ t ∧ h.size ≤ t ∧ ¬ t = x ∧ RoadKit.Fld Z h' x ST "value" "[B" (.ref t) ∧ RoadKit.Arv Z h' t kb .byte N (bs.map Value.int) (.int 0)
/-- **new String(chars) AT A CALL, FOR THE WRITER**: a char[] of n known ints, each 0 to 255 -/
theorem backV {p : Program} {l : Launch} {e : Env} {R : Room} {s : State} {args : Array Value} {below : List Frame} {len W : Nat} {Z : State} {a0 : Array Value} {h : Heap} (hZ : Z.Warmed39 s.vm) (hw : ∀ d ∈ words, d.before a0 Z = true) {kI : Nat} (wi : (Jvm.Cond.instantiable ST kI).before a0 Z = true)
    {x b : Addr} {kC : ClassId} {cs bs : List Int32} {d v0 c0 : Value} {z N : Int32} {n n0 : Nat} (hx0 : n0 ≤ x) (hh0 : n0 ≤ h.size) (E : RoadKit.Exa Z h x ST) (V : RoadKit.Fld Z h x ST "value" "[B" v0) (C : RoadKit.Fld Z h x ST "coder" "B" c0) (K : RoadKit.Arv Z h b kC .char N (cs.map Value.int) d) (S : RoadKit.Sta Z h ST "COMPACT_STRINGS" "Z" (.int z)) (hz : ¬ z = 0)
    (hn : cs.length = n) (hN : N = Int32.ofNat n) (l0 : 0 < n) (l2 : n ≤ 4000) (hp : ∀ c ∈ cs, ¬ c < 0 ∧ ¬ (255 : Int32) < c) (hb : bs = cs.map (fun c => c.toInt8.toInt32)) (hfr : 4 ≤ R.frames) (hlo : W + 65 ≤ R.locals) :
    Back l R p e below s args (⟨"java/lang/String", "<init>", "([C)V"⟩ : MethodName) len W (fun P a => a = #[.ref x, .ref b] ∧ P.U.heap = h ∧ P.cells + 1 ≤ R.cells ∧ P.slots + n ≤ R.slots)
      (fun P _ v B => ∃ L, QV Z x N bs h n0 v B.U.heap L ∧ B.locs = P.locs ++ L ∧ B.cells = P.cells + 1 ∧ B.slots = P.slots + n) := by
  subst hn hN hb
  refine Back.mono (backArv hZ hw wi E V C K S hz (n32 (by omega)) l0 (by omega) (fun c hc => (hp c hc).2) hfr hlo) (fun P a hp => hp) (fun P a v B hp hq => ?_)
  obtain ⟨L, ⟨q1, q2, q3, q4, q5, q6, q7, ⟨kb, v1, v2⟩, q9⟩, hl, hc, hs⟩ := hq
  exact ⟨L, ⟨q1, fun y hy => by rw [q2 y hy]; exact hx0, q3, q5, q7, h.size, kb, hh0, Nat.le_refl _, Nat.ne_of_gt E.lt, q6, by rw [List.map_map]; exact v2⟩, hl, hc, hs⟩
end StrChars.Road
end Jvm.Pilot.@@N@@
namespace Jvm.Pilot.@@N@@
open Jvm Jvm.ClassFile Sem Op Lib Jvm.Free Jvm.Stand Jvm.LawKit Jvm.RoadKit Bundle Jvm.OwnKit Jvm.Pilot.@@N@@.Jvm.D
section StrCalls
variable {p : Program} {l : Launch} {e : Env} {R : Room} {s : State} {m : MethodId} {args : Array Value} {below : List Frame} {meth : Method} {c : Code}
  {own : String} {bytes : ByteArray} {maxL : Nat} {ret : Option FieldType} {nm : String} {Z : State} {EL : List (String × Nat)} {nw : Bool} {us : List Addr} {bs : List (String × Nat × Addr)}
  {T : State} {h : Heap} {cells slots : Nat} {Q : Option Value → Heap → Prop} {kk nn : Nat} {a0 : Array Value} {pc : Nat} {Ls : Array Slot} {st : List Value}

theorem pd_len : parseMethodDescriptor "()I" = some ⟨[], some .int⟩ := by decide +kernel
theorem pd_cha : parseMethodDescriptor "(I)C" = some ⟨[.int], some .char⟩ := by decide +kernel
theorem pd_seq : parseMethodDescriptor "(Ljava/lang/Object;)Z" = some ⟨[.object "java/lang/Object"], some .boolean⟩ := by decide +kernel
theorem pd_emp : parseMethodDescriptor "()Z" = some ⟨[], some .boolean⟩ := by decide +kernel
theorem pd_sin : parseMethodDescriptor "([C)V" = some ⟨[.array .char], none⟩ := by decide +kernel
abbrev yLen : MethodName := ⟨"java/lang/String", "length", "()I"⟩
abbrev yCha : MethodName := ⟨"java/lang/String", "charAt", "(I)C"⟩
abbrev ySeq : MethodName := ⟨"java/lang/String", "equals", "(Ljava/lang/Object;)Z"⟩
abbrev yEmp : MethodName := ⟨"java/lang/String", "isEmpty", "()Z"⟩
abbrev ySin : MethodName := ⟨"java/lang/String", "<init>", "([C)V"⟩
theorem up255 {cs : List Int32} (h : ∀ c ∈ cs, ¬ c < 0 ∧ ¬ (255 : Int32) < c) : ∀ c ∈ cs, ¬ c < 0 ∧ ¬ (65535 : Int32) < c := fun c hc => ⟨(h c hc).1, fun q => (h c hc).2 (by
  have h1 := (h c hc).2
  rw [Int32.lt_iff_toInt_lt] at q ⊢
  have : (65535 : Int32).toInt = 65535 := by decide
  have : (255 : Int32).toInt = 255 := by decide
  omega)⟩
/-- new String(char[]) of one or more signs below 256 -/
theorem g_strNew (X : St p l e R s m args below meth c own bytes maxL ret nm Z EL nw us bs T h cells slots) {ix : Nat} {a b : Addr} {kC : ClassId} {cs : List Int32} {vs : List Value} {dv v0 c0 : Value} {zc N0 : Int32} {k : Nat} (w1 : (Jvm.Cond.methodLink own ix ySin).before a0 Z = true) (w2 : (Jvm.Cond.instanceMethod ySin).before a0 Z = true) (w4 : (Jvm.Cond.code ySin StrChars.New1.yB 2 none).before a0 Z = true)
    (hws : ∀ d ∈ StrChars.Road.words, d.before a0 Z = true) (wI : (Jvm.Cond.instantiable "java/lang/String" k).before a0 Z = true) (C : Sta Z h "java/lang/String" "COMPACT_STRINGS" "Z" (.int zc)) (hz : ¬ zc = 0) (E : Exa Z h a "java/lang/String") (V : Fld Z h a "java/lang/String" "value" "[B" v0) (Co : Fld Z h a "java/lang/String" "coder" "B" c0)
    (A : Arv Z h b kC .char N0 vs dv) (hvs : vs = cs.map Value.int) (n : Nat) (hn : cs.length = n) (hN : N0 = Int32.ofNat n) (l0 : 0 < n) (l2 : n ≤ 4000) (hp255 : ∀ c ∈ cs, ¬ c < 0 ∧ ¬ (255 : Int32) < c) (ha : a ∈ us) (hsize : Ls.size = maxL)
    (W : Nat) (hW : (st.map fun v => v.category).sum ≤ W) (hf : 4 ≤ R.frames) (hl : W + 65 ≤ R.locals) {ck cs' : Nat} (hck : cells + 1 = ck) (hcs : slots + n = cs') (hc : ck ≤ R.cells) (hs : cs' ≤ R.slots) (hd : decode bytes pc = .ok (.invokespecial ix, 3)) (pc' : Nat) (hp : pc + 3 = pc')
    (K : ∀ T' h', St p l e R s m args below meth c own bytes maxL ret nm Z EL nw us bs T' h' ck cs' → Keep h h' [a] →
      (∃ (t : Addr) (kb : ClassId), Exa Z h' a "java/lang/String" ∧ Fld Z h' a "java/lang/String" "coder" "B" (.int 0) ∧ Fld Z h' a "java/lang/String" "value" "[B" (.ref t) ∧ Arv Z h' t kb .byte (Int32.ofNat cs.length) ((cs.map fun c => c.toInt8.toInt32).map Value.int) (.int 0) ∧ (∀ c ∈ cs, ¬ c < 0 ∧ ¬ (255 : Int32) < c) ∧ cs.length ≤ 4000 ∧ h.size ≤ t) →
      Goes p e below s Z EL nw Q kk nn (T'.setTop (mkF m pc' Ls st))) : Goes p e below s Z EL nw Q kk nn (T.setTop (mkF m pc Ls (.ref b :: .ref a :: st))) := by
  subst hp hck hcs hvs hN
  obtain ⟨cx, vm0, locs, Y, N, eT, hS, hZ, hown, hE, hC, hU, hWn⟩ := X
  obtain ⟨u1, u2, u3⟩ := hU a ha
  obtain ⟨v, vm₁, B, -, Y', ⟨L, ⟨rfl, N', K', E', Co', t, kb, -, q2, -, V', A'⟩, q4, q5, q6⟩, stp⟩ := Y.specialBack cx.1 (own := own) (index := ix) (y := ySin) rfl hown (mvT (s := s.setVm vm0) hZ w1) (mvT (s := s.setVm vm0) hZ w2) (mvT (s := s.setVm vm0) hZ w4) (by decide)
    (StrChars.Road.backV (W := W) (s := s.setVm vm0) hZ hws wI (bs := cs.map fun c => c.toInt8.toInt32) u1 hE.1 E V Co A C hz hn rfl l0 l2 hp255 rfl hf hl) (g := mkF m pc Ls (.ref b :: .ref a :: st)) rfl (by rw [cx.2.2.1]; exact hsize) (Steps.refl _) (a := a) (argsL := [.ref b]) (rest := st) (lenOf pd_sin rfl) rfl (by show 2 * 0 + _ ≤ _; omega) (hb cx.2.1 hd)
    (fun _ _ => ⟨rfl, eT, hc, hs⟩)
  dsimp only [Pt.U, Pt.locs, Pt.cells, Pt.slots] at q4 q5 q6 Y'
  have hsf : ∀ x ∈ [a], Safe Z EL vm0 h x := fun x hx => by cases List.mem_singleton.mp hx; exact u3
  refine (K B.U B.U.heap ⟨cx, vm0, locs ++ L, ?_, N.app N', rfl, ⟨hS.1, hS.2.mono K'.1⟩, hZ, hown, ext_keep hE K' (fun x hx => by cases List.mem_singleton.mp hx; exact u1), hC.trans (CHr.keep K' hsf hC.1), fun x hx => ⟨(hU x hx).1, Nat.lt_of_lt_of_le (hU x hx).2.1 K'.1, Safe.keep K' hsf hC.1 (hU x hx).2.2⟩, hWn⟩ K' ⟨t, kb, E', Co', V', by rw [hn]; exact A', hp255, by omega, q2⟩).step fun t k => stp.trans k
  rw [q4, q5, q6] at Y'; exact Y'
end StrCalls
end Jvm.Pilot.@@N@@
namespace Jvm.Pilot.@@N@@
open Jvm Jvm.ClassFile Sem Op Lib Jvm.Free Jvm.Stand Jvm.LawKit Jvm.RoadKit Bundle Jvm.OwnKit Jvm.Pilot.@@N@@.Jvm.D
def EL : List (String × Nat) := consts_1
abbrev nw : Bool := false
/-- what holds of the tables and of the JDK's statics at the start -/
def Gl (Z : State) (a0 : Array Value) : Prop := (∀ d ∈ tables_1, d.before a0 Z = true) ∧ EW Z a0 EL ∧ (∀ a ∈ Bundle.stringAtoms, a.before a0 Z = true) ∧
  (∃ zc : Int32, Sta Z Z.heap "java/lang/String" "COMPACT_STRINGS" "Z" (.int zc) ∧ ¬ zc = 0) ∧
  (∃ fm : Value, Sta Z Z.heap "jdk/internal/util/Preconditions" "SIOOBE_FORMATTER" "Ljava/util/function/BiFunction;" fm ∧ fm.isRef = true)
theorem hwsV {Z : State} {a0 : Array Value} (hw : ∀ d ∈ tables_1, d.before a0 Z = true) : ∀ d ∈ StrChars.Road.words, d.before a0 Z = true := fun d hd => hw d ((by decide +kernel : ∀ d ∈ StrChars.Road.words, d ∈ tables_1) d hd)
theorem pd_0 : parseMethodDescriptor "(I)C" = some ⟨[.int], (some .char)⟩ := by decide +kernel
theorem pd_1 : parseMethodDescriptor "(ICC)Ljava/lang/String;" = some ⟨[.int, .char, .char], (some (.object "java/lang/String"))⟩ := by decide +kernel
theorem pd_2 : parseMethodDescriptor "(ICCICC)Z" = some ⟨[.int, .char, .char, .int, .char, .char], (some .boolean)⟩ := by decide +kernel
theorem pd_3 : parseMethodDescriptor "(Ljava/lang/String;)Ljava/lang/String;" = some ⟨[(.object "java/lang/String")], (some (.object "java/lang/String"))⟩ := by decide +kernel
theorem pd_4 : parseMethodDescriptor "(Ljava/lang/String;Ljava/lang/String;Lcom/example/pegwright/pegwright/Peg;)V" = some ⟨[(.object "java/lang/String"), (.object "java/lang/String"), (.object "com/example/pegwright/pegwright/Peg")], none⟩ := by decide +kernel
theorem pd_5 : parseMethodDescriptor "(C)Z" = some ⟨[.char], (some .boolean)⟩ := by decide +kernel
theorem pd_6 : parseMethodDescriptor "(I)Z" = some ⟨[.int], (some .boolean)⟩ := by decide +kernel
theorem pd_7 : parseMethodDescriptor "(Ljava/lang/String;)Z" = some ⟨[(.object "java/lang/String")], (some .boolean)⟩ := by decide +kernel
theorem pd_8 : parseMethodDescriptor "(Ljava/lang/String;Ljava/lang/String;)Ljava/lang/String;" = some ⟨[(.object "java/lang/String"), (.object "java/lang/String")], (some (.object "java/lang/String"))⟩ := by decide +kernel
theorem pd_9 : parseMethodDescriptor "(Ljava/lang/Object;Ljava/lang/String;)Ljava/lang/Object;" = some ⟨[(.object "java/lang/Object"), (.object "java/lang/String")], (some (.object "java/lang/Object"))⟩ := by decide +kernel
theorem pd_10 : parseMethodDescriptor "()V" = some ⟨[], none⟩ := by decide +kernel
theorem pd_11 : parseMethodDescriptor "(Ljava/lang/String;Ljava/lang/String;Ljava/lang/String;)V" = some ⟨[(.object "java/lang/String"), (.object "java/lang/String"), (.object "java/lang/String")], none⟩ := by decide +kernel
theorem pd_12 : parseMethodDescriptor "(Ljava/lang/Object;)Z" = some ⟨[(.object "java/lang/Object")], (some .boolean)⟩ := by decide +kernel
theorem pd_13 : parseMethodDescriptor "(Ljava/lang/CharSequence;)Z" = some ⟨[(.object "java/lang/CharSequence")], (some .boolean)⟩ := by decide +kernel
theorem pd_14 : parseMethodDescriptor "()Ljava/lang/String;" = some ⟨[], (some (.object "java/lang/String"))⟩ := by decide +kernel
theorem pd_15 : parseMethodDescriptor "(Ljava/lang/String;)I" = some ⟨[(.object "java/lang/String")], (some .int)⟩ := by decide +kernel
theorem pd_16 : parseMethodDescriptor "([B[B)I" = some ⟨[(.array .byte), (.array .byte)], (some .int)⟩ := by decide +kernel
theorem pd_17 : parseMethodDescriptor "([BI[BII)I" = some ⟨[(.array .byte), .int, (.array .byte), .int, .int], (some .int)⟩ := by decide +kernel
def isoI (c : Int32) : Int32 := if ¬ (159 : Int32) < c ∧ (¬ c < 127 ∨ XT.ushr c 5 = 0) then 1 else 0
theorem nar_iso (c : Int32) : nar .boolean (isoI c) = isoI c := by unfold isoI; split <;> rfl
theorem lo47 {c : Int32} (h : ¬ c < 0 ∧ ¬ (255 : Int32) < c) (n : ¬ c = 47) : ¬ lo c = 47 := fun e => n (by rw [← lo_mask h, e]; decide)
theorem of_pred {n : Nat} (h : 0 < n) : Int32.ofNat n - 1 = Int32.ofNat (n - 1) := by
  obtain ⟨k, rfl⟩ : ∃ k, n = k + 1 := ⟨n - 1, by omega⟩
  rw [← of_succ]
  simp
theorem fin256p {c : Int32} (h : ¬ c < 0 ∧ ¬ (255 : Int32) < c) : ∃ k : Fin 256, c = Int32.ofNat k.val := by
  obtain ⟨h1, h2⟩ := h
  rw [Int32.lt_iff_toInt_lt, i0] at h1
  rw [Int32.lt_iff_toInt_lt, i255] at h2
  refine ⟨⟨c.toInt.toNat, by omega⟩, Int32.toInt_inj.mp ?_⟩
  rw [Int32.toInt_ofNat_of_lt (by show c.toInt.toNat < _; omega)]
  show c.toInt = (c.toInt.toNat : Int)
  omega
theorem pd_18 : parseMethodDescriptor "()I" = some ⟨[], (some .int)⟩ := by decide +kernel
theorem pd_19 : parseMethodDescriptor "()B" = some ⟨[], (some .byte)⟩ := by decide +kernel
theorem pd_20 : parseMethodDescriptor "()Z" = some ⟨[], (some .boolean)⟩ := by decide +kernel
theorem pd_21 : parseMethodDescriptor "([BI)C" = some ⟨[(.array .byte), .int], (some .char)⟩ := by decide +kernel
theorem pd_22 : parseMethodDescriptor "(II)V" = some ⟨[.int, .int], none⟩ := by decide +kernel
theorem pd_23 : parseMethodDescriptor "(IILjava/util/function/BiFunction;)I" = some ⟨[.int, .int, (.object "java/util/function/BiFunction")], (some .int)⟩ := by decide +kernel
theorem pd_24 : parseMethodDescriptor "([B[B)Z" = some ⟨[(.array .byte), (.array .byte)], (some .boolean)⟩ := by decide +kernel
theorem d13_0 : decode jdk_42_method_152_code 0 = .ok (.getstatic 38, 3) := by decide +kernel
theorem d13_3 : decode jdk_42_method_152_code 3 = .ok (.ifCond .eq 10, 3) := by decide +kernel
theorem d13_6 : decode jdk_42_method_152_code 6 = .ok (.aload_n 0, 1) := by decide +kernel
theorem d13_7 : decode jdk_42_method_152_code 7 = .ok (.getfield 15, 3) := by decide +kernel
theorem d13_10 : decode jdk_42_method_152_code 10 = .ok (.goto 4, 3) := by decide +kernel
theorem d13_13 : decode jdk_42_method_152_code 13 = .ok (.iconst 1, 1) := by decide +kernel
theorem d13_14 : decode jdk_42_method_152_code 14 = .ok (.ireturn, 1) := by decide +kernel
theorem pn_0 : plainName "java/lang/String" = true := by first | (simp [plainName, overriddenIn]; done) | decide +kernel
set_option maxRecDepth 65536 in
set_option maxHeartbeats 40000000 in
theorem c_cod (l : Launch) (Z : State) (a0 : Array Value) (G : Gl Z a0) (a : Addr) (h : Heap) (C : Fld Z h a "java/lang/String" "coder" "B" (.int (0 : Int32))) :
    Ctr l Z EL nw (⟨"java/lang/String", "coder", "()B"⟩ : MethodName) jdk_42_method_152_code 1 (Option.some Jvm.ClassFile.FieldType.byte) ({ frames := 0, cells := 0, slots := 0, locals := 0 } : Room) #[.ref a] h [] (PureQ h fun w => w = .int 0) := by
  obtain ⟨hw, hEL, hSA, ⟨zc, SC, hz⟩, ⟨fm, SF, hfm⟩⟩ := id G
  refine Ctr.enter (own := "java/lang/String") (nm := "coder") rfl rfl hEL (plainFor_of_name pn_0) #[.val (.ref a)] (fun m => by first | rfl | (simp [entryFrame, mkF, argsToLocals, Value.category, maxLocals]; done)) ?_
  intro p e s m below meth c T X
  refine g_getS X (Or.inl (hw _ (List.mem_of_getElem? (i := 68) rfl))) (host := "") Via.refl (SC.ext X.old) d13_0 3 rfl ?_
  intro T1 X2
  refine g_ifNo X2 d13_3 (XT.ii_eq_f hz) 6 rfl ?_
  refine g_aloadN X2 d13_6 rfl rfl 7 rfl ?_
  refine g_getF X2 (Or.inl (hw _ (List.mem_of_getElem? (i := 34) rfl))) (host := "") Via.refl C d13_7 10 rfl ?_
  intro T3 X4
  refine g_goto X4 d13_10 14 (by decide) (by decide) ?_
  exact g_retN X4 (t := .byte) rfl (by simp) d13_14 _ rfl (by decide) (by decide) ⟨rfl, _, rfl, rfl⟩
theorem d18_0 : decode jdk_42_method_154_code 0 = .ok (.getstatic 38, 3) := by decide +kernel
theorem d18_3 : decode jdk_42_method_154_code 3 = .ok (.ifCond .eq 14, 3) := by decide +kernel
theorem d18_6 : decode jdk_42_method_154_code 6 = .ok (.aload_n 0, 1) := by decide +kernel
theorem d18_7 : decode jdk_42_method_154_code 7 = .ok (.getfield 15, 3) := by decide +kernel
theorem d18_10 : decode jdk_42_method_154_code 10 = .ok (.ifCond .ne 7, 3) := by decide +kernel
theorem d18_13 : decode jdk_42_method_154_code 13 = .ok (.iconst 1, 1) := by decide +kernel
theorem d18_14 : decode jdk_42_method_154_code 14 = .ok (.goto 4, 3) := by decide +kernel
theorem d18_17 : decode jdk_42_method_154_code 17 = .ok (.iconst 0, 1) := by decide +kernel
theorem d18_18 : decode jdk_42_method_154_code 18 = .ok (.ireturn, 1) := by decide +kernel
set_option maxRecDepth 65536 in
set_option maxHeartbeats 40000000 in
theorem c_isl (l : Launch) (Z : State) (a0 : Array Value) (G : Gl Z a0) (a : Addr) (h : Heap) (C : Fld Z h a "java/lang/String" "coder" "B" (.int (0 : Int32))) :
    Ctr l Z EL nw (⟨"java/lang/String", "isLatin1", "()Z"⟩ : MethodName) jdk_42_method_154_code 1 (Option.some Jvm.ClassFile.FieldType.boolean) ({ frames := 0, cells := 0, slots := 0, locals := 0 } : Room) #[.ref a] h [] (PureQ h fun w => w = .int 1) := by
  obtain ⟨hw, hEL, hSA, ⟨zc, SC, hz⟩, ⟨fm, SF, hfm⟩⟩ := id G
  refine Ctr.enter (own := "java/lang/String") (nm := "isLatin1") rfl rfl hEL (plainFor_of_name pn_0) #[.val (.ref a)] (fun m => by first | rfl | (simp [entryFrame, mkF, argsToLocals, Value.category, maxLocals]; done)) ?_
  intro p e s m below meth c T X
  refine g_getS X (Or.inl (hw _ (List.mem_of_getElem? (i := 68) rfl))) (host := "") Via.refl (SC.ext X.old) d18_0 3 rfl ?_
  intro T1 X2
  refine g_ifNo X2 d18_3 (XT.ii_eq_f hz) 6 rfl ?_
  refine g_aloadN X2 d18_6 rfl rfl 7 rfl ?_
  refine g_getF X2 (Or.inl (hw _ (List.mem_of_getElem? (i := 34) rfl))) (host := "") Via.refl C d18_7 10 rfl ?_
  intro T3 X4
  refine g_ifNo X4 d18_10 (XT.ii_ne_f (by decide)) 13 rfl ?_
  refine g_iconst X4 (1 : Int32) d18_13 (by decide) 14 rfl ?_
  refine g_goto X4 d18_14 18 (by decide) (by decide) ?_
  exact g_retN X4 (t := .boolean) rfl (by simp) d18_18 _ rfl (by decide) (by decide) ⟨rfl, _, rfl, rfl⟩
theorem d12_0 : decode jdk_42_method_54_code 0 = .ok (.aload_n 0, 1) := by decide +kernel
theorem d12_1 : decode jdk_42_method_54_code 1 = .ok (.getfield 9, 3) := by decide +kernel
theorem d12_4 : decode jdk_42_method_54_code 4 = .ok (.arraylength, 1) := by decide +kernel
theorem d12_5 : decode jdk_42_method_54_code 5 = .ok (.aload_n 0, 1) := by decide +kernel
theorem d12_6 : decode jdk_42_method_54_code 6 = .ok (.invokevirtual 335, 3) := by decide +kernel
theorem d12_9 : decode jdk_42_method_54_code 9 = .ok (.ishr, 1) := by decide +kernel
theorem d12_10 : decode jdk_42_method_54_code 10 = .ok (.ireturn, 1) := by decide +kernel
set_option maxRecDepth 65536 in
set_option maxHeartbeats 40000000 in
theorem c_len (l : Launch) (Z : State) (a0 : Array Value) (G : Gl Z a0) (a t : Addr) (kb : ClassId) (cs : List Int32) (h : Heap) (E : Exa Z h a "java/lang/String") (C : Fld Z h a "java/lang/String" "coder" "B" (.int (0 : Int32))) (V : Fld Z h a "java/lang/String" "value" "[B" (.ref t)) (A : Arv Z h t kb .byte (Int32.ofNat cs.length) (bys cs) (.int (0 : Int32))) (hcs : ∀ c ∈ cs, ¬ c < 0 ∧ ¬ (255 : Int32) < c) (hlen : cs.length ≤ 4000) :
    Ctr l Z EL nw (⟨"java/lang/String", "length", "()I"⟩ : MethodName) jdk_42_method_54_code 1 (Option.some Jvm.ClassFile.FieldType.int) ({ frames := 1, cells := 0, slots := 0, locals := 13 } : Room) #[.ref a] h [] (PureQ h fun w => w = .int (Int32.ofNat cs.length)) := by
  obtain ⟨hw, hEL, hSA, ⟨zc, SC, hz⟩, ⟨fm, SF, hfm⟩⟩ := id G
  refine Ctr.enter (own := "java/lang/String") (nm := "length") rfl rfl hEL (plainFor_of_name pn_0) #[.val (.ref a)] (fun m => by first | rfl | (simp [entryFrame, mkF, argsToLocals, Value.category, maxLocals]; done)) ?_
  intro p e s m below meth c T X
  refine g_aloadN X d12_0 rfl rfl 1 rfl ?_
  refine g_getF X (Or.inl (hw _ (List.mem_of_getElem? (i := 33) rfl))) (host := "") Via.refl V d12_1 4 rfl ?_
  intro T1 X2
  refine g_arrlen X2 A d12_4 5 rfl ?_
  refine g_aloadN X2 d12_5 rfl rfl 6 rfl ?_
  refine g_callVp X2 (hw _ (List.mem_of_getElem? (i := 63) rfl)) (hw _ (List.mem_of_getElem? (i := 64) rfl)) (hw _ (List.mem_of_getElem? (i := 66) rfl)) (hw _ (List.mem_of_getElem? (i := 65) rfl)) (hw _ (List.mem_of_getElem? (i := 15) rfl)) (hw _ (List.mem_of_getElem? (i := 67) rfl)) (nfSel (hw _ (List.mem_of_getElem? (i := 66) rfl))) (by decide) E (c_cod l Z a0 G a h C) (by simp) (argsL := []) (rest := [.int (Int32.ofNat cs.length)]) pd_19 rfl rfl rfl rfl 1 (Nat.le_of_eq rfl) (by decide) (by decide) (ck := 0) rfl (cs := 0) rfl (by decide) (by decide) d12_6 9 rfl ?_
  intro w5 T3 X4 hq6
  subst hq6
  refine g_ishr X4 d12_9 (Int32.ofNat cs.length) (shr0 _) 10 rfl ?_
  exact g_retI X4 rfl d12_10 (by decide) (by decide) ⟨rfl, _, rfl, rfl⟩
theorem d34_0 : decode jdk_41_method_11_code 0 = .ok (.iload_n 0, 1) := by decide +kernel
theorem d34_1 : decode jdk_41_method_11_code 1 = .ok (.ifCond .lt 8, 3) := by decide +kernel
theorem d34_4 : decode jdk_41_method_11_code 4 = .ok (.iload_n 0, 1) := by decide +kernel
theorem d34_5 : decode jdk_41_method_11_code 5 = .ok (.iload_n 1, 1) := by decide +kernel
theorem d34_6 : decode jdk_41_method_11_code 6 = .ok (.if_icmp .lt 10, 3) := by decide +kernel
theorem d34_9 : decode jdk_41_method_11_code 9 = .ok (.aload_n 2, 1) := by decide +kernel
theorem d34_10 : decode jdk_41_method_11_code 10 = .ok (.iload_n 0, 1) := by decide +kernel
theorem d34_11 : decode jdk_41_method_11_code 11 = .ok (.iload_n 1, 1) := by decide +kernel
theorem d34_12 : decode jdk_41_method_11_code 12 = .ok (.invokestatic 95, 3) := by decide +kernel
theorem d34_15 : decode jdk_41_method_11_code 15 = .ok (.athrow, 1) := by decide +kernel
theorem d34_16 : decode jdk_41_method_11_code 16 = .ok (.iload_n 0, 1) := by decide +kernel
theorem d34_17 : decode jdk_41_method_11_code 17 = .ok (.ireturn, 1) := by decide +kernel
theorem pn_1 : plainName "jdk/internal/util/Preconditions" = true := by first | (simp [plainName, overriddenIn]; done) | decide +kernel
set_option maxRecDepth 65536 in
set_option maxHeartbeats 40000000 in
theorem c_pci (l : Launch) (Z : State) (a0 : Array Value) (G : Gl Z a0) (i n : Int32) (v : Value) (h : Heap) (hv : v.isRef = true) (h0 : ¬ i < (0 : Int32)) (h1 : i < n) :
    Ctr l Z EL nw (⟨"jdk/internal/util/Preconditions", "checkIndex", "(IILjava/util/function/BiFunction;)I"⟩ : MethodName) jdk_41_method_11_code 3 (Option.some Jvm.ClassFile.FieldType.int) ({ frames := 0, cells := 0, slots := 0, locals := 0 } : Room) #[.int i, .int n, v] h [] (PureQ h fun w => w = .int i) := by
  obtain ⟨hw, hEL, hSA, ⟨zc, SC, hz⟩, ⟨fm, SF, hfm⟩⟩ := id G
  refine Ctr.enter (own := "jdk/internal/util/Preconditions") (nm := "checkIndex") rfl rfl hEL (plainFor_of_name pn_1) #[.val (.int i), .val (.int n), .val (v)] (fun m => by rcases ref_cases hv with rfl | ⟨r, rfl⟩ <;> rfl) ?_
  intro p e s m below meth c T X
  refine g_iloadN X d34_0 rfl 1 rfl ?_
  refine g_ifNo X d34_1 (XT.ii_lt_f h0) 4 rfl ?_
  refine g_iloadN X d34_4 rfl 5 rfl ?_
  refine g_iloadN X d34_5 rfl 6 rfl ?_
  refine g_icmpYes X d34_6 (XT.ii_lt_t h1) 16 (by decide) (by decide) ?_
  refine g_iloadN X d34_16 rfl 17 rfl ?_
  exact g_retI X rfl d34_17 (by decide) (by decide) ⟨rfl, _, rfl, rfl⟩
theorem d33_0 : decode jdk_42_method_155_code 0 = .ok (.iload_n 0, 1) := by decide +kernel
theorem d33_1 : decode jdk_42_method_155_code 1 = .ok (.iload_n 1, 1) := by decide +kernel
theorem d33_2 : decode jdk_42_method_155_code 2 = .ok (.getstatic 1053, 3) := by decide +kernel
theorem d33_5 : decode jdk_42_method_155_code 5 = .ok (.invokestatic 1059, 3) := by decide +kernel
theorem d33_8 : decode jdk_42_method_155_code 8 = .ok (.pop, 1) := by decide +kernel
theorem d33_9 : decode jdk_42_method_155_code 9 = .ok (.return_, 1) := by decide +kernel
set_option maxRecDepth 65536 in
set_option maxHeartbeats 40000000 in
theorem c_ci (l : Launch) (Z : State) (a0 : Array Value) (G : Gl Z a0) (i n : Int32) (h : Heap) (h0 : ¬ i < (0 : Int32)) (h1 : i < n) :
    Ctr l Z EL nw (⟨"java/lang/String", "checkIndex", "(II)V"⟩ : MethodName) jdk_42_method_155_code 2 (Option.none : Option Jvm.ClassFile.FieldType) ({ frames := 1, cells := 0, slots := 0, locals := 14 } : Room) #[.int i, .int n] h [] (VoidQ fun h' => h = h') := by
  obtain ⟨hw, hEL, hSA, ⟨zc, SC, hz⟩, ⟨fm, SF, hfm⟩⟩ := id G
  refine Ctr.enter (own := "java/lang/String") (nm := "checkIndex") rfl rfl hEL (plainFor_of_name pn_0) #[.val (.int i), .val (.int n)] (fun m => by first | rfl | (simp [entryFrame, mkF, argsToLocals, Value.category, maxLocals]; done)) ?_
  intro p e s m below meth c T X
  refine g_iloadN X d33_0 rfl 1 rfl ?_
  refine g_iloadN X d33_1 rfl 2 rfl ?_
  refine g_getS X (Or.inl (hw _ (List.mem_of_getElem? (i := 186) rfl))) (host := "") Via.refl (SF.ext X.old) d33_2 5 rfl ?_
  intro T1 X2
  refine g_callSp X2 (hw _ (List.mem_of_getElem? (i := 188) rfl)) (hw _ (List.mem_of_getElem? (i := 189) rfl)) (hw _ (List.mem_of_getElem? (i := 187) rfl)) (hw _ (List.mem_of_getElem? (i := 190) rfl)) (by decide) (c_pci l Z a0 G i n fm h hfm h0 h1) (by simp) (argsL := [.int i, .int n, fm]) (rest := []) pd_23 rfl rfl rfl rfl 0 (Nat.le_of_eq rfl) (by decide) (by decide) (ck := 0) rfl (cs := 0) rfl (by decide) (by decide) d33_5 8 rfl ?_
  intro w5 T3 X4 hq6
  subst hq6
  refine g_pop X4 d33_8 rfl 9 rfl ?_
  exact g_ret X4 rfl d33_9 (by decide) (by decide) ⟨rfl, rfl⟩
theorem d32_0 : decode jdk_43_method_2_code 0 = .ok (.iload_n 1, 1) := by decide +kernel
theorem d32_1 : decode jdk_43_method_2_code 1 = .ok (.aload_n 0, 1) := by decide +kernel
theorem d32_2 : decode jdk_43_method_2_code 2 = .ok (.arraylength, 1) := by decide +kernel
theorem d32_3 : decode jdk_43_method_2_code 3 = .ok (.invokestatic 9, 3) := by decide +kernel
theorem d32_6 : decode jdk_43_method_2_code 6 = .ok (.aload_n 0, 1) := by decide +kernel
theorem d32_7 : decode jdk_43_method_2_code 7 = .ok (.iload_n 1, 1) := by decide +kernel
theorem d32_8 : decode jdk_43_method_2_code 8 = .ok (.baload, 1) := by decide +kernel
theorem d32_9 : decode jdk_43_method_2_code 9 = .ok (.sipush 255, 3) := by decide +kernel
theorem d32_12 : decode jdk_43_method_2_code 12 = .ok (.iand, 1) := by decide +kernel
theorem d32_13 : decode jdk_43_method_2_code 13 = .ok (.i2c, 1) := by decide +kernel
theorem d32_14 : decode jdk_43_method_2_code 14 = .ok (.ireturn, 1) := by decide +kernel
theorem pn_2 : plainName "java/lang/StringLatin1" = true := by first | (simp [plainName, overriddenIn]; done) | decide +kernel
set_option maxRecDepth 65536 in
set_option maxHeartbeats 40000000 in
theorem c_lch (l : Launch) (Z : State) (a0 : Array Value) (G : Gl Z a0) (t : Addr) (kb : ClassId) (cs : List Int32) (i : Nat) (h : Heap) (A : Arv Z h t kb .byte (Int32.ofNat cs.length) (bys cs) (.int (0 : Int32))) (hcs : ∀ c ∈ cs, ¬ c < 0 ∧ ¬ (255 : Int32) < c) (hlen : cs.length ≤ 4000) (hi : i < cs.length) :
    Ctr l Z EL nw (⟨"java/lang/StringLatin1", "charAt", "([BI)C"⟩ : MethodName) jdk_43_method_2_code 2 (Option.some Jvm.ClassFile.FieldType.char) ({ frames := 2, cells := 0, slots := 0, locals := 27 } : Room) #[.ref t, .int (Int32.ofNat i)] h [] (PureQ h fun w => w = .int (cs.getD i 0)) := by
  obtain ⟨hw, hEL, hSA, ⟨zc, SC, hz⟩, ⟨fm, SF, hfm⟩⟩ := id G
  refine Ctr.enter (own := "java/lang/StringLatin1") (nm := "charAt") rfl rfl hEL (plainFor_of_name pn_2) #[.val (.ref t), .val (.int (Int32.ofNat i))] (fun m => by first | rfl | (simp [entryFrame, mkF, argsToLocals, Value.category, maxLocals]; done)) ?_
  intro p e s m below meth c T X
  refine g_iloadN X d32_0 rfl 1 rfl ?_
  refine g_aloadN X d32_1 rfl rfl 2 rfl ?_
  refine g_arrlen X A d32_2 3 rfl ?_
  refine g_callSn X (hw _ (List.mem_of_getElem? (i := 183) rfl)) (hw _ (List.mem_of_getElem? (i := 184) rfl)) (hw _ (List.mem_of_getElem? (i := 15) rfl)) (hw _ (List.mem_of_getElem? (i := 185) rfl)) (by decide) (c_ci l Z a0 G _ _ h (of_nn (by omega)) (of_lt hi hlen)) (by simp) (argsL := [.int (Int32.ofNat i), .int (Int32.ofNat cs.length)]) (rest := []) pd_22 rfl rfl rfl rfl 0 (Nat.le_of_eq rfl) (by decide) (by decide) (ck := 0) rfl (cs := 0) rfl (by decide) (by decide) d32_3 6 rfl ?_
  intro T1 h4 X2 hq3
  subst hq3
  refine g_aloadN X2 d32_6 rfl rfl 7 rfl ?_
  refine g_iloadN X2 d32_7 rfl 8 rfl ?_
  refine g_baload X2 A (of_nn (by omega)) (of_lt hi hlen) _ (bys_at cs i (by omega)) d32_8 9 rfl ?_
  refine g_sipush X2 (255 : Int32) d32_9 (by decide) 12 rfl ?_
  refine g_iand X2 d32_12 (cs.getD i 0) (lo_mask (hcs _ (mem_at hi))) 13 rfl ?_
  refine g_i2c X2 d32_13 (cs.getD i 0) (nar255 (hcs _ (mem_at hi))) 14 rfl ?_
  exact g_retN X2 (t := .char) rfl (by simp) d32_14 _ (nar255 (hcs _ (mem_at hi))) (by decide) (by decide) ⟨rfl, _, rfl, rfl⟩
theorem d31_0 : decode jdk_42_method_56_code 0 = .ok (.aload_n 0, 1) := by decide +kernel
theorem d31_1 : decode jdk_42_method_56_code 1 = .ok (.invokevirtual 492, 3) := by decide +kernel
theorem d31_4 : decode jdk_42_method_56_code 4 = .ok (.ifCond .eq 12, 3) := by decide +kernel
theorem d31_7 : decode jdk_42_method_56_code 7 = .ok (.aload_n 0, 1) := by decide +kernel
theorem d31_8 : decode jdk_42_method_56_code 8 = .ok (.getfield 9, 3) := by decide +kernel
theorem d31_11 : decode jdk_42_method_56_code 11 = .ok (.iload_n 1, 1) := by decide +kernel
theorem d31_12 : decode jdk_42_method_56_code 12 = .ok (.invokestatic 495, 3) := by decide +kernel
theorem d31_15 : decode jdk_42_method_56_code 15 = .ok (.ireturn, 1) := by decide +kernel
theorem d31_16 : decode jdk_42_method_56_code 16 = .ok (.aload_n 0, 1) := by decide +kernel
theorem d31_17 : decode jdk_42_method_56_code 17 = .ok (.getfield 9, 3) := by decide +kernel
theorem d31_20 : decode jdk_42_method_56_code 20 = .ok (.iload_n 1, 1) := by decide +kernel
theorem d31_21 : decode jdk_42_method_56_code 21 = .ok (.invokestatic 498, 3) := by decide +kernel
theorem d31_24 : decode jdk_42_method_56_code 24 = .ok (.ireturn, 1) := by decide +kernel
set_option maxRecDepth 65536 in
set_option maxHeartbeats 40000000 in
theorem c_cha (l : Launch) (Z : State) (a0 : Array Value) (G : Gl Z a0) (a t : Addr) (kb : ClassId) (cs : List Int32) (i : Nat) (h : Heap) (E : Exa Z h a "java/lang/String") (C : Fld Z h a "java/lang/String" "coder" "B" (.int (0 : Int32))) (V : Fld Z h a "java/lang/String" "value" "[B" (.ref t)) (A : Arv Z h t kb .byte (Int32.ofNat cs.length) (bys cs) (.int (0 : Int32))) (hcs : ∀ c ∈ cs, ¬ c < 0 ∧ ¬ (255 : Int32) < c) (hlen : cs.length ≤ 4000) (hi : i < cs.length) :
    Ctr l Z EL nw (⟨"java/lang/String", "charAt", "(I)C"⟩ : MethodName) jdk_42_method_56_code 2 (Option.some Jvm.ClassFile.FieldType.char) ({ frames := 3, cells := 0, slots := 0, locals := 40 } : Room) #[.ref a, .int (Int32.ofNat i)] h [] (PureQ h fun w => w = .int (cs.getD i 0)) := by
  obtain ⟨hw, hEL, hSA, ⟨zc, SC, hz⟩, ⟨fm, SF, hfm⟩⟩ := id G
  refine Ctr.enter (own := "java/lang/String") (nm := "charAt") rfl rfl hEL (plainFor_of_name pn_0) #[.val (.ref a), .val (.int (Int32.ofNat i))] (fun m => by first | rfl | (simp [entryFrame, mkF, argsToLocals, Value.category, maxLocals]; done)) ?_
  intro p e s m below meth c T X
  refine g_aloadN X d31_0 rfl rfl 1 rfl ?_
  refine g_callVp X (hw _ (List.mem_of_getElem? (i := 96) rfl)) (hw _ (List.mem_of_getElem? (i := 97) rfl)) (hw _ (List.mem_of_getElem? (i := 99) rfl)) (hw _ (List.mem_of_getElem? (i := 98) rfl)) (hw _ (List.mem_of_getElem? (i := 15) rfl)) (hw _ (List.mem_of_getElem? (i := 100) rfl)) (nfSel (hw _ (List.mem_of_getElem? (i := 99) rfl))) (by decide) E (c_isl l Z a0 G a h C) (by simp) (argsL := []) (rest := []) pd_20 rfl rfl rfl rfl 0 (Nat.le_of_eq rfl) (by decide) (by decide) (ck := 0) rfl (cs := 0) rfl (by decide) (by decide) d31_1 4 rfl ?_
  intro w3 T1 X2 hq4
  subst hq4
  refine g_ifNo X2 d31_4 (XT.ii_eq_f (by decide)) 7 rfl ?_
  refine g_aloadN X2 d31_7 rfl rfl 8 rfl ?_
  refine g_getF X2 (Or.inl (hw _ (List.mem_of_getElem? (i := 33) rfl))) (host := "") Via.refl V d31_8 11 rfl ?_
  intro T5 X6
  refine g_iloadN X6 d31_11 rfl 12 rfl ?_
  refine g_callSp X6 (hw _ (List.mem_of_getElem? (i := 180) rfl)) (hw _ (List.mem_of_getElem? (i := 181) rfl)) (hw _ (List.mem_of_getElem? (i := 103) rfl)) (hw _ (List.mem_of_getElem? (i := 182) rfl)) (by decide) (c_lch l Z a0 G t kb cs i h A hcs hlen hi) (by simp) (argsL := [.ref t, .int (Int32.ofNat i)]) (rest := []) pd_21 rfl rfl rfl rfl 0 (Nat.le_of_eq rfl) (by decide) (by decide) (ck := 0) rfl (cs := 0) rfl (by decide) (by decide) d31_12 15 rfl ?_
  intro w9 T7 X8 hq10
  subst hq10
  exact g_retN X8 (t := .char) rfl (by simp) d31_15 _ (nar255 (hcs _ (mem_at hi))) (by decide) (by decide) ⟨rfl, _, rfl, rfl⟩
theorem d26_0 : decode jdk_43_method_13_code 0 = .ok (.aload_n 0, 1) := by decide +kernel
theorem d26_1 : decode jdk_43_method_13_code 1 = .ok (.arraylength, 1) := by decide +kernel
theorem d26_2 : decode jdk_43_method_13_code 2 = .ok (.aload_n 1, 1) := by decide +kernel
theorem d26_3 : decode jdk_43_method_13_code 3 = .ok (.arraylength, 1) := by decide +kernel
theorem d26_4 : decode jdk_43_method_13_code 4 = .ok (.if_icmp .ne 30, 3) := by decide +kernel
theorem d26_7 : decode jdk_43_method_13_code 7 = .ok (.iconst 0, 1) := by decide +kernel
theorem d26_8 : decode jdk_43_method_13_code 8 = .ok (.istore_n 2, 1) := by decide +kernel
theorem d26_9 : decode jdk_43_method_13_code 9 = .ok (.iload_n 2, 1) := by decide +kernel
theorem d26_10 : decode jdk_43_method_13_code 10 = .ok (.aload_n 0, 1) := by decide +kernel
theorem d26_11 : decode jdk_43_method_13_code 11 = .ok (.arraylength, 1) := by decide +kernel
theorem d26_12 : decode jdk_43_method_13_code 12 = .ok (.if_icmp .ge 20, 3) := by decide +kernel
theorem d26_15 : decode jdk_43_method_13_code 15 = .ok (.aload_n 0, 1) := by decide +kernel
theorem d26_16 : decode jdk_43_method_13_code 16 = .ok (.iload_n 2, 1) := by decide +kernel
theorem d26_17 : decode jdk_43_method_13_code 17 = .ok (.baload, 1) := by decide +kernel
theorem d26_18 : decode jdk_43_method_13_code 18 = .ok (.aload_n 1, 1) := by decide +kernel
theorem d26_19 : decode jdk_43_method_13_code 19 = .ok (.iload_n 2, 1) := by decide +kernel
theorem d26_20 : decode jdk_43_method_13_code 20 = .ok (.baload, 1) := by decide +kernel
theorem d26_21 : decode jdk_43_method_13_code 21 = .ok (.if_icmp .eq 5, 3) := by decide +kernel
theorem d26_24 : decode jdk_43_method_13_code 24 = .ok (.iconst 0, 1) := by decide +kernel
theorem d26_25 : decode jdk_43_method_13_code 25 = .ok (.ireturn, 1) := by decide +kernel
theorem d26_26 : decode jdk_43_method_13_code 26 = .ok (.iinc 2 1, 3) := by decide +kernel
theorem d26_29 : decode jdk_43_method_13_code 29 = .ok (.goto (-20), 3) := by decide +kernel
theorem d26_32 : decode jdk_43_method_13_code 32 = .ok (.iconst 1, 1) := by decide +kernel
theorem d26_33 : decode jdk_43_method_13_code 33 = .ok (.ireturn, 1) := by decide +kernel
theorem d26_34 : decode jdk_43_method_13_code 34 = .ok (.iconst 0, 1) := by decide +kernel
theorem d26_35 : decode jdk_43_method_13_code 35 = .ok (.ireturn, 1) := by decide +kernel
set_option maxRecDepth 65536 in
set_option maxHeartbeats 40000000 in
theorem c_leq (l : Launch) (Z : State) (a0 : Array Value) (G : Gl Z a0) (t u : Addr) (kb kb' : ClassId) (cs ds : List Int32) (h : Heap) (A : Arv Z h t kb .byte (Int32.ofNat cs.length) (bys cs) (.int (0 : Int32))) (B : Arv Z h u kb' .byte (Int32.ofNat ds.length) (bys ds) (.int (0 : Int32))) (hcs : ∀ c ∈ cs, ¬ c < 0 ∧ ¬ (255 : Int32) < c) (hds : ∀ c ∈ ds, ¬ c < 0 ∧ ¬ (255 : Int32) < c) (hlen : cs.length ≤ 4000) (hlen' : ds.length ≤ 4000) :
    Ctr l Z EL nw (⟨"java/lang/StringLatin1", "equals", "([B[B)Z"⟩ : MethodName) jdk_43_method_13_code 3 (Option.some Jvm.ClassFile.FieldType.boolean) ({ frames := 0, cells := 0, slots := 0, locals := 0 } : Room) #[.ref t, .ref u] h [] (PureQ h fun w => w = .int (if cs = ds then 1 else 0)) := by
  obtain ⟨hw, hEL, hSA, ⟨zc, SC, hz⟩, ⟨fm, SF, hfm⟩⟩ := id G
  refine Ctr.enter (own := "java/lang/StringLatin1") (nm := "equals") rfl rfl hEL (plainFor_of_name pn_2) #[.val (.ref t), .val (.ref u), .unset] (fun m => by first | rfl | (simp [entryFrame, mkF, argsToLocals, Value.category, maxLocals]; done)) ?_
  intro p e s m below meth c T X
  refine g_aloadN X d26_0 rfl rfl 1 rfl ?_
  refine g_arrlen X A d26_1 2 rfl ?_
  refine g_aloadN X d26_2 rfl rfl 3 rfl ?_
  refine g_arrlen X B d26_3 4 rfl ?_
  by_cases hl : cs.length = ds.length
  · refine g_icmpNo X d26_4 (XT.ii_ne_f (by rw [hl])) 7 rfl ?_
    refine g_iconst X (0 : Int32) d26_7 (by decide) 8 rfl ?_
    refine g_istoreN X d26_8 (Ls' := #[.val (.ref t), .val (.ref u), .val (.int (0 : Int32))]) rfl 9 rfl ?_
    have loop : ∀ (k i : Nat) (T : State), St p l e ({ frames := 0, cells := 0, slots := 0, locals := 0 } : Room) s m #[.ref t, .ref u] below meth c "java/lang/StringLatin1" jdk_43_method_13_code 3 ((Option.some Jvm.ClassFile.FieldType.boolean)) "equals" Z EL nw [] [] T h 0 0 → i + k = cs.length → cs.take i = ds.take i → OwnKit.Goes p e below s Z EL nw (PureQ h fun w => w = .int (if cs = ds then 1 else 0)) (({ frames := 0, cells := 0, slots := 0, locals := 0 } : Room)).cells (({ frames := 0, cells := 0, slots := 0, locals := 0 } : Room)).slots (T.setTop (mkF m 9 #[.val (.ref t), .val (.ref u), .val (.int (Int32.ofNat i))] [])) := by
      intro k
      induction k with
      | zero =>
        intro i T' X' hk ht
        have e1 : cs.take cs.length = ds.take cs.length := by rw [← hk]; exact ht
        refine g_iloadN X' d26_9 rfl 10 rfl ?_
        refine g_aloadN X' d26_10 rfl rfl 11 rfl ?_
        refine g_arrlen X' A d26_11 12 rfl ?_
        refine g_icmpYes X' d26_12 (XT.ii_ge_t (of_le (by omega) (by omega))) 32 (by decide) (by decide) ?_
        refine g_iconst X' (1 : Int32) d26_32 (by decide) 33 rfl ?_
        exact g_retN X' (t := .boolean) rfl (by simp) d26_33 _ rfl (by decide) (by decide) ⟨rfl, _, rfl, (by rw [if_pos (take_eq hl e1)]; rfl)⟩
      | succ k ih =>
        intro i T' X' hk ht
        have hi : i < cs.length := by omega
        refine g_iloadN X' d26_9 rfl 10 rfl ?_
        refine g_aloadN X' d26_10 rfl rfl 11 rfl ?_
        refine g_arrlen X' A d26_11 12 rfl ?_
        refine g_icmpNo X' d26_12 (XT.ii_ge_f (of_lt hi hlen)) 15 rfl ?_
        refine g_aloadN X' d26_15 rfl rfl 16 rfl ?_
        refine g_iloadN X' d26_16 rfl 17 rfl ?_
        refine g_baload X' A (of_nn (by omega)) (of_lt (by omega) (by omega)) _ (bys_at cs i (by omega)) d26_17 18 rfl ?_
        refine g_aloadN X' d26_18 rfl rfl 19 rfl ?_
        refine g_iloadN X' d26_19 rfl 20 rfl ?_
        refine g_baload X' B (of_nn (by omega)) (of_lt (by omega) (by omega)) _ (bys_at ds i (by omega)) d26_20 21 rfl ?_
        by_cases hb21 : (lo (cs.getD i 0)) = (lo (ds.getD i 0))
        · refine g_icmpYes X' d26_21 (XT.ii_eq_t hb21) 26 (by decide) (by decide) ?_
          have heq : cs.getD i 0 = ds.getD i 0 := lo_inj (hcs _ (mem_at hi)) (hds _ (mem_at (by omega))) hb21
          refine g_iinc X' d26_26 rfl (Int32.ofNat (i + 1)) (of_succ i) (Ls' := #[.val (.ref t), .val (.ref u), .val (.int (Int32.ofNat (i + 1)))]) rfl 29 rfl ?_
          refine g_goto X' d26_29 9 (by decide) (by decide) ?_
          exact ih (i + 1) T' X' (by omega) (take_more (by omega) (by omega) ht heq)
        · refine g_icmpNo X' d26_21 (XT.ii_eq_f hb21) 24 rfl ?_
          refine g_iconst X' (0 : Int32) d26_24 (by decide) 25 rfl ?_
          exact g_retN X' (t := .boolean) rfl (by simp) d26_25 _ rfl (by decide) (by decide) ⟨rfl, _, rfl, (by rw [if_neg (fun q => hb21 (by rw [q]))]; rfl)⟩
    exact loop cs.length 0 T X (by omega) rfl
  · have hl0 := hl
    refine g_icmpYes X d26_4 (XT.ii_ne_t (fun q => hl (of_eq hlen hlen' q))) 34 (by decide) (by decide) ?_
    refine g_iconst X (0 : Int32) d26_34 (by decide) 35 rfl ?_
    exact g_retN X (t := .boolean) rfl (by simp) d26_35 _ rfl (by decide) (by decide) ⟨rfl, _, rfl, (by rw [if_neg (fun q => hl0 (by rw [q]))]; rfl)⟩
theorem d25_0 : decode jdk_42_method_66_code 0 = .ok (.aload_n 0, 1) := by decide +kernel
theorem d25_1 : decode jdk_42_method_66_code 1 = .ok (.aload_n 1, 1) := by decide +kernel
theorem d25_2 : decode jdk_42_method_66_code 2 = .ok (.if_acmp .ne 5, 3) := by decide +kernel
theorem d25_5 : decode jdk_42_method_66_code 5 = .ok (.iconst 1, 1) := by decide +kernel
theorem d25_6 : decode jdk_42_method_66_code 6 = .ok (.ireturn, 1) := by decide +kernel
theorem d25_7 : decode jdk_42_method_66_code 7 = .ok (.aload_n 1, 1) := by decide +kernel
theorem d25_8 : decode jdk_42_method_66_code 8 = .ok (.instanceof 10, 3) := by decide +kernel
theorem d25_11 : decode jdk_42_method_66_code 11 = .ok (.ifCond .eq 43, 3) := by decide +kernel
theorem d25_14 : decode jdk_42_method_66_code 14 = .ok (.aload_n 1, 1) := by decide +kernel
theorem d25_15 : decode jdk_42_method_66_code 15 = .ok (.checkcast 10, 3) := by decide +kernel
theorem d25_18 : decode jdk_42_method_66_code 18 = .ok (.astore_n 2, 1) := by decide +kernel
theorem d25_19 : decode jdk_42_method_66_code 19 = .ok (.getstatic 38, 3) := by decide +kernel
theorem d25_22 : decode jdk_42_method_66_code 22 = .ok (.ifCond .eq 14, 3) := by decide +kernel
theorem d25_25 : decode jdk_42_method_66_code 25 = .ok (.aload_n 0, 1) := by decide +kernel
theorem d25_26 : decode jdk_42_method_66_code 26 = .ok (.getfield 15, 3) := by decide +kernel
theorem d25_29 : decode jdk_42_method_66_code 29 = .ok (.aload_n 2, 1) := by decide +kernel
theorem d25_30 : decode jdk_42_method_66_code 30 = .ok (.getfield 15, 3) := by decide +kernel
theorem d25_33 : decode jdk_42_method_66_code 33 = .ok (.if_icmp .ne 21, 3) := by decide +kernel
theorem d25_36 : decode jdk_42_method_66_code 36 = .ok (.aload_n 0, 1) := by decide +kernel
theorem d25_37 : decode jdk_42_method_66_code 37 = .ok (.getfield 9, 3) := by decide +kernel
theorem d25_40 : decode jdk_42_method_66_code 40 = .ok (.aload_n 2, 1) := by decide +kernel
theorem d25_41 : decode jdk_42_method_66_code 41 = .ok (.getfield 9, 3) := by decide +kernel
theorem d25_44 : decode jdk_42_method_66_code 44 = .ok (.invokestatic 541, 3) := by decide +kernel
theorem d25_47 : decode jdk_42_method_66_code 47 = .ok (.ifCond .eq 7, 3) := by decide +kernel
theorem d25_50 : decode jdk_42_method_66_code 50 = .ok (.iconst 1, 1) := by decide +kernel
theorem d25_51 : decode jdk_42_method_66_code 51 = .ok (.goto 4, 3) := by decide +kernel
theorem d25_54 : decode jdk_42_method_66_code 54 = .ok (.iconst 0, 1) := by decide +kernel
theorem d25_55 : decode jdk_42_method_66_code 55 = .ok (.ireturn, 1) := by decide +kernel
set_option maxRecDepth 65536 in
set_option maxHeartbeats 40000000 in
theorem c_seq (l : Launch) (Z : State) (a0 : Array Value) (G : Gl Z a0) (a b t u : Addr) (kb kb' : ClassId) (cs ds : List Int32) (hab : a = b → cs = ds) (h : Heap) (E : Exa Z h a "java/lang/String") (C : Fld Z h a "java/lang/String" "coder" "B" (.int (0 : Int32))) (V : Fld Z h a "java/lang/String" "value" "[B" (.ref t)) (A : Arv Z h t kb .byte (Int32.ofNat cs.length) (bys cs) (.int (0 : Int32))) (hcs : ∀ c ∈ cs, ¬ c < 0 ∧ ¬ (255 : Int32) < c) (hlen : cs.length ≤ 4000) (E' : Exa Z h b "java/lang/String") (C' : Fld Z h b "java/lang/String" "coder" "B" (.int (0 : Int32))) (V' : Fld Z h b "java/lang/String" "value" "[B" (.ref u)) (A' : Arv Z h u kb' .byte (Int32.ofNat ds.length) (bys ds) (.int (0 : Int32))) (hds : ∀ c ∈ ds, ¬ c < 0 ∧ ¬ (255 : Int32) < c) (hlen' : ds.length ≤ 4000) :
    Ctr l Z EL nw (⟨"java/lang/String", "equals", "(Ljava/lang/Object;)Z"⟩ : MethodName) jdk_42_method_66_code 3 (Option.some Jvm.ClassFile.FieldType.boolean) ({ frames := 1, cells := 0, slots := 0, locals := 14 } : Room) #[.ref a, .ref b] h [] (PureQ h fun w => w = .int (if cs = ds then 1 else 0)) := by
  obtain ⟨hw, hEL, hSA, ⟨zc, SC, hz⟩, ⟨fm, SF, hfm⟩⟩ := id G
  refine Ctr.enter (own := "java/lang/String") (nm := "equals") rfl rfl hEL (plainFor_of_name pn_0) #[.val (.ref a), .val (.ref b), .unset] (fun m => by first | rfl | (simp [entryFrame, mkF, argsToLocals, Value.category, maxLocals]; done)) ?_
  intro p e s m below meth c T X
  refine g_aloadN X d25_0 rfl rfl 1 rfl ?_
  refine g_aloadN X d25_1 rfl rfl 2 rfl ?_
  by_cases hb2 : (.ref a : Value) = .ref b
  · refine g_acmpNo X d25_2 rfl rfl (XT.aa_ne_f hb2) 5 rfl ?_
    refine g_iconst X (1 : Int32) d25_5 (by decide) 6 rfl ?_
    exact g_retN X (t := .boolean) rfl (by simp) d25_6 _ rfl (by decide) (by decide) ⟨rfl, _, rfl, (by rw [if_pos (hab (Value.ref.inj hb2))]; rfl)⟩
  · refine g_acmpYes X d25_2 rfl rfl (XT.aa_ne_t hb2) 7 (by decide) (by decide) ?_
    refine g_aloadN X d25_7 rfl rfl 8 rfl ?_
    refine g_instY X (hw _ (List.mem_of_getElem? (i := 153) rfl)) (Ins.self E') d25_8 11 rfl ?_
    intro T1 X2
    refine g_ifNo X2 d25_11 (XT.ii_eq_f (by decide)) 14 rfl ?_
    refine g_aloadN X2 d25_14 rfl rfl 15 rfl ?_
    refine g_cast X2 (hw _ (List.mem_of_getElem? (i := 153) rfl)) (Ins.self E') d25_15 18 rfl ?_
    intro T3 X4
    refine g_astoreN X4 d25_18 rfl (Ls' := #[.val (.ref a), .val (.ref b), .val (.ref b)]) rfl 19 rfl ?_
    refine g_getS X4 (Or.inl (hw _ (List.mem_of_getElem? (i := 68) rfl))) (host := "") Via.refl (SC.ext X4.old) d25_19 22 rfl ?_
    intro T5 X6
    refine g_ifNo X6 d25_22 (XT.ii_eq_f hz) 25 rfl ?_
    refine g_aloadN X6 d25_25 rfl rfl 26 rfl ?_
    refine g_getF X6 (Or.inl (hw _ (List.mem_of_getElem? (i := 34) rfl))) (host := "") Via.refl C d25_26 29 rfl ?_
    intro T7 X8
    refine g_aloadN X8 d25_29 rfl rfl 30 rfl ?_
    refine g_getF X8 (Or.inl (hw _ (List.mem_of_getElem? (i := 34) rfl))) (host := "") Via.refl C' d25_30 33 rfl ?_
    intro T9 X10
    refine g_icmpNo X10 d25_33 (XT.ii_ne_f (by decide)) 36 rfl ?_
    refine g_aloadN X10 d25_36 rfl rfl 37 rfl ?_
    refine g_getF X10 (Or.inl (hw _ (List.mem_of_getElem? (i := 33) rfl))) (host := "") Via.refl V d25_37 40 rfl ?_
    intro T11 X12
    refine g_aloadN X12 d25_40 rfl rfl 41 rfl ?_
    refine g_getF X12 (Or.inl (hw _ (List.mem_of_getElem? (i := 33) rfl))) (host := "") Via.refl V' d25_41 44 rfl ?_
    intro T13 X14
    refine g_callSp X14 (hw _ (List.mem_of_getElem? (i := 154) rfl)) (hw _ (List.mem_of_getElem? (i := 155) rfl)) (hw _ (List.mem_of_getElem? (i := 103) rfl)) (hw _ (List.mem_of_getElem? (i := 156) rfl)) (by decide) (c_leq l Z a0 G t u kb kb' cs ds h A A' hcs hds hlen hlen') (by simp) (argsL := [.ref t, .ref u]) (rest := []) pd_24 rfl rfl rfl rfl 0 (Nat.le_of_eq rfl) (by decide) (by decide) (ck := 0) rfl (cs := 0) rfl (by decide) (by decide) d25_44 47 rfl ?_
    intro w17 T15 X16 hq18
    subst hq18
    by_cases hb47 : (if cs = ds then (1 : Int32) else 0) = (0 : Int32)
    · refine g_ifYes X16 d25_47 (XT.ii_eq_t hb47) 54 (by decide) (by decide) ?_
      refine g_iconst X16 (0 : Int32) d25_54 (by decide) 55 rfl ?_
      exact g_retN X16 (t := .boolean) rfl (by simp) d25_55 _ rfl (by decide) (by decide) ⟨rfl, _, rfl, (by by_cases q : cs = ds <;> simp [q] at hb47 ⊢ <;> rfl)⟩
    · refine g_ifNo X16 d25_47 (XT.ii_eq_f hb47) 50 rfl ?_
      refine g_iconst X16 (1 : Int32) d25_50 (by decide) 51 rfl ?_
      refine g_goto X16 d25_51 55 (by decide) (by decide) ?_
      exact g_retN X16 (t := .boolean) rfl (by simp) d25_55 _ rfl (by decide) (by decide) ⟨rfl, _, rfl, (by by_cases q : cs = ds <;> simp [q] at hb47 ⊢ <;> rfl)⟩
theorem pd_25 : parseMethodDescriptor "([C)V" = some ⟨[(.array .char)], none⟩ := by decide +kernel
theorem pd_26 : parseMethodDescriptor "([CIILjava/lang/Void;)V" = some ⟨[(.array .char), .int, .int, (.object "java/lang/Void")], none⟩ := by decide +kernel
theorem d5_0 : decode jdk_42_method_149_code 0 = .ok (.aload_n 0, 1) := by decide +kernel
theorem d5_1 : decode jdk_42_method_149_code 1 = .ok (.invokespecial 1, 3) := by decide +kernel
theorem d5_4 : decode jdk_42_method_149_code 4 = .ok (.iload_n 3, 1) := by decide +kernel
theorem d5_5 : decode jdk_42_method_149_code 5 = .ok (.ifCond .ne 22, 3) := by decide +kernel
theorem d5_8 : decode jdk_42_method_149_code 8 = .ok (.aload_n 0, 1) := by decide +kernel
theorem d5_9 : decode jdk_42_method_149_code 9 = .ok (.ldc 7, 2) := by decide +kernel
theorem d5_11 : decode jdk_42_method_149_code 11 = .ok (.getfield 9, 3) := by decide +kernel
theorem d5_14 : decode jdk_42_method_149_code 14 = .ok (.putfield 9, 3) := by decide +kernel
theorem d5_17 : decode jdk_42_method_149_code 17 = .ok (.aload_n 0, 1) := by decide +kernel
theorem d5_18 : decode jdk_42_method_149_code 18 = .ok (.ldc 7, 2) := by decide +kernel
theorem d5_20 : decode jdk_42_method_149_code 20 = .ok (.getfield 15, 3) := by decide +kernel
theorem d5_23 : decode jdk_42_method_149_code 23 = .ok (.putfield 15, 3) := by decide +kernel
theorem d5_26 : decode jdk_42_method_149_code 26 = .ok (.return_, 1) := by decide +kernel
theorem d5_27 : decode jdk_42_method_149_code 27 = .ok (.getstatic 38, 3) := by decide +kernel
theorem d5_30 : decode jdk_42_method_149_code 30 = .ok (.ifCond .eq 28, 3) := by decide +kernel
theorem d5_33 : decode jdk_42_method_149_code 33 = .ok (.aload_n 1, 1) := by decide +kernel
theorem d5_34 : decode jdk_42_method_149_code 34 = .ok (.iload_n 2, 1) := by decide +kernel
theorem d5_35 : decode jdk_42_method_149_code 35 = .ok (.iload_n 3, 1) := by decide +kernel
theorem d5_36 : decode jdk_42_method_149_code 36 = .ok (.invokestatic 177, 3) := by decide +kernel
theorem d5_39 : decode jdk_42_method_149_code 39 = .ok (.astore 5, 2) := by decide +kernel
theorem d5_41 : decode jdk_42_method_149_code 41 = .ok (.aload_n 0, 1) := by decide +kernel
theorem d5_42 : decode jdk_42_method_149_code 42 = .ok (.aload 5, 2) := by decide +kernel
theorem d5_44 : decode jdk_42_method_149_code 44 = .ok (.iload_n 3, 1) := by decide +kernel
theorem d5_45 : decode jdk_42_method_149_code 45 = .ok (.invokestatic 47, 3) := by decide +kernel
theorem d5_48 : decode jdk_42_method_149_code 48 = .ok (.putfield 15, 3) := by decide +kernel
theorem d5_51 : decode jdk_42_method_149_code 51 = .ok (.aload_n 0, 1) := by decide +kernel
theorem d5_52 : decode jdk_42_method_149_code 52 = .ok (.aload 5, 2) := by decide +kernel
theorem d5_54 : decode jdk_42_method_149_code 54 = .ok (.putfield 9, 3) := by decide +kernel
theorem d5_57 : decode jdk_42_method_149_code 57 = .ok (.return_, 1) := by decide +kernel
theorem d5_58 : decode jdk_42_method_149_code 58 = .ok (.aload_n 0, 1) := by decide +kernel
theorem d5_59 : decode jdk_42_method_149_code 59 = .ok (.iconst 1, 1) := by decide +kernel
theorem d5_60 : decode jdk_42_method_149_code 60 = .ok (.putfield 15, 3) := by decide +kernel
theorem d5_63 : decode jdk_42_method_149_code 63 = .ok (.aload_n 0, 1) := by decide +kernel
theorem d5_64 : decode jdk_42_method_149_code 64 = .ok (.aload_n 1, 1) := by decide +kernel
theorem d5_65 : decode jdk_42_method_149_code 65 = .ok (.iload_n 2, 1) := by decide +kernel
theorem d5_66 : decode jdk_42_method_149_code 66 = .ok (.iload_n 3, 1) := by decide +kernel
theorem d5_67 : decode jdk_42_method_149_code 67 = .ok (.invokestatic 180, 3) := by decide +kernel
theorem d5_70 : decode jdk_42_method_149_code 70 = .ok (.putfield 9, 3) := by decide +kernel
theorem d5_73 : decode jdk_42_method_149_code 73 = .ok (.return_, 1) := by decide +kernel
set_option maxRecDepth 65536 in
set_option maxHeartbeats 40000000 in
theorem c_s149 (l : Launch) (Z : State) (a0 : Array Value) (G : Gl Z a0) (a b : Addr) (us : List Addr) (h : Heap) (E : Exa Z h a "java/lang/String") (V : Fld Z h a "java/lang/String" "value" "[B" .null) (C : Fld Z h a "java/lang/String" "coder" "B" (.int (0 : Int32))) (hne : ∀ x ∈ us, x ≠ a) :
    Ctr l Z EL nw (⟨"java/lang/String", "<init>", "([CIILjava/lang/Void;)V"⟩ : MethodName) jdk_42_method_149_code 6 (Option.none : Option Jvm.ClassFile.FieldType) ({ frames := 1, cells := 2, slots := 4, locals := 12 } : Room) #[.ref a, .ref b, .int (0 : Int32), .int (0 : Int32), .null] h (a :: us) (VoidQ fun h' => Keep h h' [a] ∧ Str Z h' us a []) := by
  obtain ⟨hw, hEL, hSA, ⟨zc, SC, hz⟩, ⟨fm, SF, hfm⟩⟩ := id G
  refine Ctr.enter (own := "java/lang/String") (nm := "<init>") rfl rfl hEL (plainFor_of_name pn_0) #[.val (.ref a), .val (.ref b), .val (.int (0 : Int32)), .val (.int (0 : Int32)), .val (.null), .unset] (fun m => entry1 m _ _ (by simp [Value.category]) rfl) ?_
  intro p e s m below meth c T X
  refine g_aloadN X d5_0 rfl rfl 1 rfl ?_
  refine g_initO X (hw _ (List.mem_of_getElem? (i := 24) rfl)) (hw _ (List.mem_of_getElem? (i := 25) rfl)) (hw _ (List.mem_of_getElem? (i := 26) rfl)) rfl d5_1 (by decide) 0 (Nat.le_of_eq rfl) (by decide) 4 rfl ?_
  intro T1 X2
  refine g_iloadN X2 d5_4 rfl 5 rfl ?_
  refine g_ifNo X2 d5_5 (XT.ii_ne_f (by decide)) 8 rfl ?_
  refine g_aloadN X2 d5_8 rfl rfl 9 rfl ?_
  refine g_ldcS X2 (cs := []) rfl (hw _ (List.mem_of_getElem? (i := 27) rfl)) hSA (by simp [EL, consts_1]) ⟨by decide, by decide⟩ (by decide) (by decide) d5_9 0 (by decide) (by decide) (ck := 2) rfl (cs' := 4) rfl (by decide) (by decide) 11 rfl ?_
  intro s3 T4 h5 X6 E7 S8
  obtain ⟨t11, kb12, e13, f14, f15, kc16, b17, l18, n19⟩ := id S8
  refine g_getF X6 (Or.inl (hw _ (List.mem_of_getElem? (i := 33) rfl))) (host := "") Via.refl f15 d5_11 14 rfl ?_
  intro T9 X10
  refine g_putF X10 (Or.inl (hw _ (List.mem_of_getElem? (i := 33) rfl))) (host := "") Via.refl (V.ext E7) (E.ext E7) (Or.inr ⟨(hw _ (List.mem_of_getElem? (i := 29) rfl)), rfl, rfl⟩) (hw _ (List.mem_of_getElem? (i := 14) rfl)) (ty := (.array .byte)) (by decide +kernel) rfl rfl (by simp) d5_14 17 rfl ?_
  intro T20 h21 X22 W23 F24 E25
  refine g_aloadN X22 d5_17 rfl rfl 18 rfl ?_
  refine g_ldcA X22 (hw _ (List.mem_of_getElem? (i := 27) rfl)) (a := s3) (by simp) d5_18 20 rfl ?_
  refine g_getF X22 (Or.inl (hw _ (List.mem_of_getElem? (i := 34) rfl))) (host := "") Via.refl (f14.other W23 (Or.inl (Ne.symm (n19 a (by simp)).1))) d5_20 23 rfl ?_
  intro T26 X27
  refine g_putF X27 (Or.inl (hw _ (List.mem_of_getElem? (i := 34) rfl))) (host := "") Via.refl ((C.ext E7).other W23 (Or.inr (slot_ne (t := .byte) (t' := (.array .byte)) (Or.inr (hw _ (List.mem_of_getElem? (i := 30) rfl))) (Or.inr (hw _ (List.mem_of_getElem? (i := 29) rfl))) (by decide) (by decide +kernel) (by decide +kernel)))) E25 (Or.inr ⟨(hw _ (List.mem_of_getElem? (i := 30) rfl)), rfl, rfl⟩) (hw _ (List.mem_of_getElem? (i := 14) rfl)) (ty := .byte) (by decide +kernel) rfl rfl (by simp) d5_23 26 rfl ?_
  intro T28 h29 X30 W31 F32 E33
  exact g_ret X30 rfl d5_26 (by decide) (by decide) ⟨rfl, ⟨((((Keep.refl h [a]).ext E7).wr W23 (Or.inl (by simp))).wr W31 (Or.inl (by simp))), t11, kb12, E33, F32, (F24.other W31 (Or.inr (slot_ne (t := (.array .byte)) (t' := .byte) (Or.inr (hw _ (List.mem_of_getElem? (i := 29) rfl))) (Or.inr (hw _ (List.mem_of_getElem? (i := 30) rfl))) (by decide) (by decide +kernel) (by decide +kernel)))), ((kc16.other W23 (Ne.symm (n19 a (by simp)).2)).other W31 (Ne.symm (n19 a (by simp)).2)), b17, l18, fun x hx => ⟨hne x hx, (n19 x (List.mem_cons_of_mem _ hx)).2⟩⟩⟩
theorem d4_0 : decode jdk_42_method_3_code 0 = .ok (.aload_n 0, 1) := by decide +kernel
theorem d4_1 : decode jdk_42_method_3_code 1 = .ok (.aload_n 1, 1) := by decide +kernel
theorem d4_2 : decode jdk_42_method_3_code 2 = .ok (.iconst 0, 1) := by decide +kernel
theorem d4_3 : decode jdk_42_method_3_code 3 = .ok (.aload_n 1, 1) := by decide +kernel
theorem d4_4 : decode jdk_42_method_3_code 4 = .ok (.arraylength, 1) := by decide +kernel
theorem d4_5 : decode jdk_42_method_3_code 5 = .ok (.aconst_null, 1) := by decide +kernel
theorem d4_6 : decode jdk_42_method_3_code 6 = .ok (.invokespecial 27, 3) := by decide +kernel
theorem d4_9 : decode jdk_42_method_3_code 9 = .ok (.return_, 1) := by decide +kernel
set_option maxRecDepth 65536 in
set_option maxHeartbeats 40000000 in
theorem c_s3 (l : Launch) (Z : State) (a0 : Array Value) (G : Gl Z a0) (a b : Addr) (kb : ClassId) (us : List Addr) (h : Heap) (E : Exa Z h a "java/lang/String") (V : Fld Z h a "java/lang/String" "value" "[B" .null) (C : Fld Z h a "java/lang/String" "coder" "B" (.int (0 : Int32))) (hne : ∀ x ∈ us, x ≠ a) (A : Arv Z h b kb .char (0 : Int32) [] (.int (0 : Int32))) :
    Ctr l Z EL nw (⟨"java/lang/String", "<init>", "([C)V"⟩ : MethodName) jdk_42_method_3_code 2 (Option.none : Option Jvm.ClassFile.FieldType) ({ frames := 2, cells := 2, slots := 4, locals := 29 } : Room) #[.ref a, .ref b] h (a :: us) (VoidQ fun h' => Keep h h' [a] ∧ Str Z h' us a []) := by
  obtain ⟨hw, hEL, hSA, ⟨zc, SC, hz⟩, ⟨fm, SF, hfm⟩⟩ := id G
  refine Ctr.enter (own := "java/lang/String") (nm := "<init>") rfl rfl hEL (plainFor_of_name pn_0) #[.val (.ref a), .val (.ref b)] (fun m => by first | rfl | (simp [entryFrame, mkF, argsToLocals, Value.category, maxLocals]; done)) ?_
  intro p e s m below meth c T X
  refine g_aloadN X d4_0 rfl rfl 1 rfl ?_
  refine g_aloadN X d4_1 rfl rfl 2 rfl ?_
  refine g_iconst X (0 : Int32) d4_2 (by decide) 3 rfl ?_
  refine g_aloadN X d4_3 rfl rfl 4 rfl ?_
  refine g_arrlen X A d4_4 5 rfl ?_
  refine g_aconstNull X d4_5 6 rfl ?_
  refine g_callIn X rfl (hw _ (List.mem_of_getElem? (i := 20) rfl)) (hw _ (List.mem_of_getElem? (i := 21) rfl)) (hw _ (List.mem_of_getElem? (i := 15) rfl)) (hw _ (List.mem_of_getElem? (i := 23) rfl)) (by decide) (c_s149 l Z a0 G a b us h E V C hne) (fun _ q => q) (argsL := [.ref b, .int (0 : Int32), .int (0 : Int32), .null]) (rest := []) pd_26 rfl rfl rfl rfl 0 (Nat.le_of_eq rfl) (by decide) (by decide) (ck := 2) rfl (cs := 4) rfl (by decide) (by decide) d4_6 9 rfl ?_
  intro T1 h4 X2 hq3
  obtain ⟨K5, S6⟩ := hq3
  exact g_ret X2 rfl d4_9 (by decide) (by decide) ⟨rfl, ⟨K5, S6⟩⟩
theorem d36_0 : decode jdk_89_method_89_code 0 = .ok (.iload_n 0, 1) := by decide +kernel
theorem d36_1 : decode jdk_89_method_89_code 1 = .ok (.sipush 159, 3) := by decide +kernel
theorem d36_4 : decode jdk_89_method_89_code 4 = .ok (.if_icmp .gt 19, 3) := by decide +kernel
theorem d36_7 : decode jdk_89_method_89_code 7 = .ok (.iload_n 0, 1) := by decide +kernel
theorem d36_8 : decode jdk_89_method_89_code 8 = .ok (.bipush 127, 2) := by decide +kernel
theorem d36_10 : decode jdk_89_method_89_code 10 = .ok (.if_icmp .ge 9, 3) := by decide +kernel
theorem d36_13 : decode jdk_89_method_89_code 13 = .ok (.iload_n 0, 1) := by decide +kernel
theorem d36_14 : decode jdk_89_method_89_code 14 = .ok (.iconst 5, 1) := by decide +kernel
theorem d36_15 : decode jdk_89_method_89_code 15 = .ok (.iushr, 1) := by decide +kernel
theorem d36_16 : decode jdk_89_method_89_code 16 = .ok (.ifCond .ne 7, 3) := by decide +kernel
theorem d36_19 : decode jdk_89_method_89_code 19 = .ok (.iconst 1, 1) := by decide +kernel
theorem d36_20 : decode jdk_89_method_89_code 20 = .ok (.goto 4, 3) := by decide +kernel
theorem d36_23 : decode jdk_89_method_89_code 23 = .ok (.iconst 0, 1) := by decide +kernel
theorem d36_24 : decode jdk_89_method_89_code 24 = .ok (.ireturn, 1) := by decide +kernel
theorem pn_3 : plainName "java/lang/Character" = true := by first | (simp [plainName, overriddenIn]; done) | decide +kernel
set_option maxRecDepth 65536 in
set_option maxHeartbeats 40000000 in
theorem c_iso2 (l : Launch) (Z : State) (a0 : Array Value) (G : Gl Z a0) (c0 : Int32) (h : Heap)  :
    Ctr l Z EL nw (⟨"java/lang/Character", "isISOControl", "(I)Z"⟩ : MethodName) jdk_89_method_89_code 1 (Option.some Jvm.ClassFile.FieldType.boolean) ({ frames := 0, cells := 0, slots := 0, locals := 0 } : Room) #[.int c0] h [] (PureQ h fun v => v = .int (isoI c0)) := by
  obtain ⟨hw, hEL, hSA, ⟨zc, SC, hz⟩, ⟨fm, SF, hfm⟩⟩ := id G
  refine Ctr.enter (own := "java/lang/Character") (nm := "isISOControl") rfl rfl hEL (plainFor_of_name pn_3) #[.val (.int c0)] (fun m => by first | rfl | (simp [entryFrame, mkF, argsToLocals, Value.category, maxLocals]; done)) ?_
  intro p e s m below meth c T X
  refine g_iloadN X d36_0 rfl 1 rfl ?_
  refine g_sipush X (159 : Int32) d36_1 (by decide) 4 rfl ?_
  by_cases hb4 : (159 : Int32) < c0
  · refine g_icmpYes X d36_4 (XT.ii_gt_t hb4) 23 (by decide) (by decide) ?_
    refine g_iconst X (0 : Int32) d36_23 (by decide) 24 rfl ?_
    exact g_retN X (t := .boolean) rfl (by simp) d36_24 _ rfl (by decide) (by decide) ⟨rfl, _, rfl, (by rw [show isoI c0 = 0 from by simp [isoI, hb4]]; rfl)⟩
  · refine g_icmpNo X d36_4 (XT.ii_gt_f hb4) 7 rfl ?_
    refine g_iloadN X d36_7 rfl 8 rfl ?_
    refine g_bipush X (127 : Int32) d36_8 (by decide) 10 rfl ?_
    by_cases hb10 : c0 < (127 : Int32)
    · refine g_icmpNo X d36_10 (XT.ii_ge_f hb10) 13 rfl ?_
      refine g_iloadN X d36_13 rfl 14 rfl ?_
      refine g_iconst X (5 : Int32) d36_14 (by decide) 15 rfl ?_
      refine g_iushr X d36_15 _ rfl 16 rfl ?_
      by_cases hb16 : (XT.ushr c0 (5 : Int32)) = (0 : Int32)
      · refine g_ifNo X d36_16 (XT.ii_ne_f hb16) 19 rfl ?_
        refine g_iconst X (1 : Int32) d36_19 (by decide) 20 rfl ?_
        refine g_goto X d36_20 24 (by decide) (by decide) ?_
        exact g_retN X (t := .boolean) rfl (by simp) d36_24 _ rfl (by decide) (by decide) ⟨rfl, _, rfl, (by rw [show isoI c0 = 1 from by simp [isoI, hb10, hb16, hb4]]; rfl)⟩
      · refine g_ifYes X d36_16 (XT.ii_ne_t hb16) 23 (by decide) (by decide) ?_
        refine g_iconst X (0 : Int32) d36_23 (by decide) 24 rfl ?_
        exact g_retN X (t := .boolean) rfl (by simp) d36_24 _ rfl (by decide) (by decide) ⟨rfl, _, rfl, (by rw [show isoI c0 = 0 from by simp [isoI, hb10, hb16, hb4]]; rfl)⟩
    · refine g_icmpYes X d36_10 (XT.ii_ge_t hb10) 19 (by decide) (by decide) ?_
      refine g_iconst X (1 : Int32) d36_19 (by decide) 20 rfl ?_
      refine g_goto X d36_20 24 (by decide) (by decide) ?_
      exact g_retN X (t := .boolean) rfl (by simp) d36_24 _ rfl (by decide) (by decide) ⟨rfl, _, rfl, (by rw [show isoI c0 = 1 from by simp [isoI, hb10, hb4]]; rfl)⟩
theorem d35_0 : decode jdk_89_method_88_code 0 = .ok (.iload_n 0, 1) := by decide +kernel
theorem d35_1 : decode jdk_89_method_88_code 1 = .ok (.invokestatic 266, 3) := by decide +kernel
theorem d35_4 : decode jdk_89_method_88_code 4 = .ok (.ireturn, 1) := by decide +kernel
set_option maxRecDepth 65536 in
set_option maxHeartbeats 40000000 in
theorem c_iso1 (l : Launch) (Z : State) (a0 : Array Value) (G : Gl Z a0) (c0 : Int32) (h : Heap)  :
    Ctr l Z EL nw (⟨"java/lang/Character", "isISOControl", "(C)Z"⟩ : MethodName) jdk_89_method_88_code 1 (Option.some Jvm.ClassFile.FieldType.boolean) ({ frames := 1, cells := 0, slots := 0, locals := 12 } : Room) #[.int c0] h [] (PureQ h fun v => v = .int (isoI c0)) := by
  obtain ⟨hw, hEL, hSA, ⟨zc, SC, hz⟩, ⟨fm, SF, hfm⟩⟩ := id G
  refine Ctr.enter (own := "java/lang/Character") (nm := "isISOControl") rfl rfl hEL (plainFor_of_name pn_3) #[.val (.int c0)] (fun m => by first | rfl | (simp [entryFrame, mkF, argsToLocals, Value.category, maxLocals]; done)) ?_
  intro p e s m below meth c T X
  refine g_iloadN X d35_0 rfl 1 rfl ?_
  refine g_callSp X (hw _ (List.mem_of_getElem? (i := 195) rfl)) (hw _ (List.mem_of_getElem? (i := 196) rfl)) (hw _ (List.mem_of_getElem? (i := 193) rfl)) (hw _ (List.mem_of_getElem? (i := 197) rfl)) (by decide) (c_iso2 l Z a0 G c0 h) (by simp) (argsL := [.int c0]) (rest := []) pd_6 rfl rfl rfl rfl 0 (Nat.le_of_eq rfl) (by decide) (by decide) (ck := 0) rfl (cs := 0) rfl (by decide) (by decide) d35_1 4 rfl ?_
  intro w3 T1 X2 hq4
  subst hq4
  exact g_retN X2 (t := .boolean) rfl (by simp) d35_4 _ (nar_iso _) (by decide) (by decide) ⟨rfl, _, rfl, rfl⟩
theorem d11_0 : decode prog_15_method_2_code 0 = .ok (.iconst 0, 1) := by decide +kernel
theorem d11_1 : decode prog_15_method_2_code 1 = .ok (.istore_n 1, 1) := by decide +kernel
theorem d11_2 : decode prog_15_method_2_code 2 = .ok (.iload_n 1, 1) := by decide +kernel
theorem d11_3 : decode prog_15_method_2_code 3 = .ok (.aload_n 0, 1) := by decide +kernel
theorem d11_4 : decode prog_15_method_2_code 4 = .ok (.invokevirtual 7, 3) := by decide +kernel
theorem d11_7 : decode prog_15_method_2_code 7 = .ok (.if_icmp .ge 22, 3) := by decide +kernel
theorem d11_10 : decode prog_15_method_2_code 10 = .ok (.aload_n 0, 1) := by decide +kernel
theorem d11_11 : decode prog_15_method_2_code 11 = .ok (.iload_n 1, 1) := by decide +kernel
theorem d11_12 : decode prog_15_method_2_code 12 = .ok (.invokevirtual 13, 3) := by decide +kernel
theorem d11_15 : decode prog_15_method_2_code 15 = .ok (.invokestatic 17, 3) := by decide +kernel
theorem d11_18 : decode prog_15_method_2_code 18 = .ok (.ifCond .eq 5, 3) := by decide +kernel
theorem d11_21 : decode prog_15_method_2_code 21 = .ok (.iconst 1, 1) := by decide +kernel
theorem d11_22 : decode prog_15_method_2_code 22 = .ok (.ireturn, 1) := by decide +kernel
theorem d11_23 : decode prog_15_method_2_code 23 = .ok (.iinc 1 1, 3) := by decide +kernel
theorem d11_26 : decode prog_15_method_2_code 26 = .ok (.goto (-24), 3) := by decide +kernel
theorem d11_29 : decode prog_15_method_2_code 29 = .ok (.iconst 0, 1) := by decide +kernel
theorem d11_30 : decode prog_15_method_2_code 30 = .ok (.ireturn, 1) := by decide +kernel
theorem pn_4 : plainName "com/example/pegwright/pegwright/Names" = true := by first | (simp [plainName, overriddenIn]; done) | decide +kernel
set_option maxRecDepth 65536 in
set_option maxHeartbeats 40000000 in
theorem c_hold (l : Launch) (Z : State) (a0 : Array Value) (G : Gl Z a0) (a t : Addr) (kb : ClassId) (cs : List Int32) (h : Heap) (E : Exa Z h a "java/lang/String") (C : Fld Z h a "java/lang/String" "coder" "B" (.int (0 : Int32))) (V : Fld Z h a "java/lang/String" "value" "[B" (.ref t)) (A : Arv Z h t kb .byte (Int32.ofNat cs.length) (bys cs) (.int (0 : Int32))) (hcs : ∀ c ∈ cs, ¬ c < 0 ∧ ¬ (255 : Int32) < c) (hlen : cs.length ≤ 4000) (hiso : ∀ c ∈ cs, isoI c = 0) :
    Ctr l Z EL nw (⟨"com/example/pegwright/pegwright/Names", "holdsControlCharacter", "(Ljava/lang/String;)Z"⟩ : MethodName) prog_15_method_2_code 2 (Option.some Jvm.ClassFile.FieldType.boolean) ({ frames := 4, cells := 0, slots := 0, locals := 53 } : Room) #[.ref a] h [] (PureQ h fun v => v = .int 0) := by
  obtain ⟨hw, hEL, hSA, ⟨zc, SC, hz⟩, ⟨fm, SF, hfm⟩⟩ := id G
  refine Ctr.enter (own := "com/example/pegwright/pegwright/Names") (nm := "holdsControlCharacter") rfl rfl hEL (plainFor_of_name pn_4) #[.val (.ref a), .unset] (fun m => by first | rfl | (simp [entryFrame, mkF, argsToLocals, Value.category, maxLocals]; done)) ?_
  intro p e s m below meth c T X
  refine g_iconst X (0 : Int32) d11_0 (by decide) 1 rfl ?_
  refine g_istoreN X d11_1 (Ls' := #[.val (.ref a), .val (.int (0 : Int32))]) rfl 2 rfl ?_
  have loop : ∀ (k i : Nat) (T : State), St p l e ({ frames := 4, cells := 0, slots := 0, locals := 53 } : Room) s m #[.ref a] below meth c "com/example/pegwright/pegwright/Names" prog_15_method_2_code 2 ((Option.some Jvm.ClassFile.FieldType.boolean)) "holdsControlCharacter" Z EL nw [] [] T h 0 0 → i + k = cs.length → OwnKit.Goes p e below s Z EL nw (PureQ h fun v => v = .int 0) (({ frames := 4, cells := 0, slots := 0, locals := 53 } : Room)).cells (({ frames := 4, cells := 0, slots := 0, locals := 53 } : Room)).slots (T.setTop (mkF m 2 #[.val (.ref a), .val (.int (Int32.ofNat i))] [])) := by
    intro k
    induction k with
    | zero =>
      intro i T' X' hk
      refine g_iloadN X' d11_2 rfl 3 rfl ?_
      refine g_aloadN X' d11_3 rfl rfl 4 rfl ?_
      refine g_callVp X' (hw _ (List.mem_of_getElem? (i := 58) rfl)) (hw _ (List.mem_of_getElem? (i := 59) rfl)) (hw _ (List.mem_of_getElem? (i := 61) rfl)) (hw _ (List.mem_of_getElem? (i := 60) rfl)) (hw _ (List.mem_of_getElem? (i := 15) rfl)) (hw _ (List.mem_of_getElem? (i := 62) rfl)) (nfSel (hw _ (List.mem_of_getElem? (i := 61) rfl))) (by decide) E (c_len l Z a0 G a t kb cs h E C V A hcs hlen) (by simp) (argsL := []) (rest := [.int (Int32.ofNat i)]) pd_18 rfl rfl rfl rfl 1 (Nat.le_of_eq rfl) (by decide) (by decide) (ck := 0) rfl (cs := 0) rfl (by decide) (by decide) d11_4 7 rfl ?_
      intro w3 T1 X2 hq4
      subst hq4
      refine g_icmpYes X2 d11_7 (XT.ii_ge_t (of_le (by omega) (by omega))) 29 (by decide) (by decide) ?_
      refine g_iconst X2 (0 : Int32) d11_29 (by decide) 30 rfl ?_
      exact g_retN X2 (t := .boolean) rfl (by simp) d11_30 _ rfl (by decide) (by decide) ⟨rfl, _, rfl, rfl⟩
    | succ k ih =>
      intro i T' X' hk
      have hi : i < cs.length := by omega
      refine g_iloadN X' d11_2 rfl 3 rfl ?_
      refine g_aloadN X' d11_3 rfl rfl 4 rfl ?_
      refine g_callVp X' (hw _ (List.mem_of_getElem? (i := 58) rfl)) (hw _ (List.mem_of_getElem? (i := 59) rfl)) (hw _ (List.mem_of_getElem? (i := 61) rfl)) (hw _ (List.mem_of_getElem? (i := 60) rfl)) (hw _ (List.mem_of_getElem? (i := 15) rfl)) (hw _ (List.mem_of_getElem? (i := 62) rfl)) (nfSel (hw _ (List.mem_of_getElem? (i := 61) rfl))) (by decide) E (c_len l Z a0 G a t kb cs h E C V A hcs hlen) (by simp) (argsL := []) (rest := [.int (Int32.ofNat i)]) pd_18 rfl rfl rfl rfl 1 (Nat.le_of_eq rfl) (by decide) (by decide) (ck := 0) rfl (cs := 0) rfl (by decide) (by decide) d11_4 7 rfl ?_
      intro w7 T5 X6 hq8
      subst hq8
      refine g_icmpNo X6 d11_7 (XT.ii_ge_f (of_lt hi hlen)) 10 rfl ?_
      refine g_aloadN X6 d11_10 rfl rfl 11 rfl ?_
      refine g_iloadN X6 d11_11 rfl 12 rfl ?_
      refine g_callVp X6 (hw _ (List.mem_of_getElem? (i := 175) rfl)) (hw _ (List.mem_of_getElem? (i := 176) rfl)) (hw _ (List.mem_of_getElem? (i := 178) rfl)) (hw _ (List.mem_of_getElem? (i := 177) rfl)) (hw _ (List.mem_of_getElem? (i := 15) rfl)) (hw _ (List.mem_of_getElem? (i := 179) rfl)) (nfSel (hw _ (List.mem_of_getElem? (i := 178) rfl))) (by decide) E (c_cha l Z a0 G a t kb cs i h E C V A hcs hlen hi) (by simp) (argsL := [.int (Int32.ofNat i)]) (rest := []) pd_0 rfl rfl rfl rfl 0 (Nat.le_of_eq rfl) (by decide) (by decide) (ck := 0) rfl (cs := 0) rfl (by decide) (by decide) d11_12 15 rfl ?_
      intro w11 T9 X10 hq12
      subst hq12
      refine g_callSp X10 (hw _ (List.mem_of_getElem? (i := 191) rfl)) (hw _ (List.mem_of_getElem? (i := 192) rfl)) (hw _ (List.mem_of_getElem? (i := 193) rfl)) (hw _ (List.mem_of_getElem? (i := 194) rfl)) (by decide) (c_iso1 l Z a0 G (cs.getD i 0) h) (by simp) (argsL := [.int (cs.getD i 0)]) (rest := []) pd_5 rfl rfl rfl rfl 0 (Nat.le_of_eq rfl) (by decide) (by decide) (ck := 0) rfl (cs := 0) rfl (by decide) (by decide) d11_15 18 rfl ?_
      intro w15 T13 X14 hq16
      subst hq16
      refine g_ifYes X14 d11_18 (XT.ii_eq_t (hiso _ (mem_at hi))) 23 (by decide) (by decide) ?_
      refine g_iinc X14 d11_23 rfl (Int32.ofNat (i + 1)) (of_succ i) (Ls' := #[.val (.ref a), .val (.int (Int32.ofNat (i + 1)))]) rfl 26 rfl ?_
      refine g_goto X14 d11_26 2 (by decide) (by decide) ?_
      exact ih (i + 1) T13 X14 (by omega)
  exact loop cs.length 0 T X (by omega)
theorem d10_0 : decode prog_15_method_5_code 0 = .ok (.aload_n 1, 1) := by decide +kernel
theorem d10_1 : decode prog_15_method_5_code 1 = .ok (.invokestatic 33, 3) := by decide +kernel
theorem d10_4 : decode prog_15_method_5_code 4 = .ok (.ifCond .eq 18, 3) := by decide +kernel
theorem d10_7 : decode prog_15_method_5_code 7 = .ok (.new 37, 3) := by decide +kernel
theorem d10_10 : decode prog_15_method_5_code 10 = .ok (.dup, 1) := by decide +kernel
theorem d10_11 : decode prog_15_method_5_code 11 = .ok (.aload_n 0, 1) := by decide +kernel
theorem d10_12 : decode prog_15_method_5_code 12 = .ok (.aload_n 1, 1) := by decide +kernel
theorem d10_13 : decode prog_15_method_5_code 13 = .ok (.invokedynamic 39, 5) := by decide +kernel
theorem d10_18 : decode prog_15_method_5_code 18 = .ok (.invokespecial 42, 3) := by decide +kernel
theorem d10_21 : decode prog_15_method_5_code 21 = .ok (.athrow, 1) := by decide +kernel
theorem d10_22 : decode prog_15_method_5_code 22 = .ok (.aload_n 1, 1) := by decide +kernel
theorem d10_23 : decode prog_15_method_5_code 23 = .ok (.areturn, 1) := by decide +kernel
set_option maxRecDepth 65536 in
set_option maxHeartbeats 40000000 in
theorem c_rnc (l : Launch) (Z : State) (a0 : Array Value) (G : Gl Z a0) (b a t : Addr) (kb : ClassId) (cs : List Int32) (h : Heap) (E : Exa Z h a "java/lang/String") (C : Fld Z h a "java/lang/String" "coder" "B" (.int (0 : Int32))) (V : Fld Z h a "java/lang/String" "value" "[B" (.ref t)) (A : Arv Z h t kb .byte (Int32.ofNat cs.length) (bys cs) (.int (0 : Int32))) (hcs : ∀ c ∈ cs, ¬ c < 0 ∧ ¬ (255 : Int32) < c) (hlen : cs.length ≤ 4000) (hiso : ∀ c ∈ cs, isoI c = 0) :
    Ctr l Z EL nw (⟨"com/example/pegwright/pegwright/Names", "requireNoControlCharacter", "(Ljava/lang/String;Ljava/lang/String;)Ljava/lang/String;"⟩ : MethodName) prog_15_method_5_code 2 (Option.some (Jvm.ClassFile.FieldType.object "java/lang/String")) ({ frames := 5, cells := 0, slots := 0, locals := 66 } : Room) #[.ref b, .ref a] h [] (PureQ h fun v => v = .ref a) := by
  obtain ⟨hw, hEL, hSA, ⟨zc, SC, hz⟩, ⟨fm, SF, hfm⟩⟩ := id G
  refine Ctr.enter (own := "com/example/pegwright/pegwright/Names") (nm := "requireNoControlCharacter") rfl rfl hEL (plainFor_of_name pn_4) #[.val (.ref b), .val (.ref a)] (fun m => by first | rfl | (simp [entryFrame, mkF, argsToLocals, Value.category, maxLocals]; done)) ?_
  intro p e s m below meth c T X
  refine g_aloadN X d10_0 rfl rfl 1 rfl ?_
  refine g_callSp X (hw _ (List.mem_of_getElem? (i := 55) rfl)) (hw _ (List.mem_of_getElem? (i := 56) rfl)) (hw _ (List.mem_of_getElem? (i := 53) rfl)) (hw _ (List.mem_of_getElem? (i := 57) rfl)) (by decide) (c_hold l Z a0 G a t kb cs h E C V A hcs hlen hiso) (by simp) (argsL := [.ref a]) (rest := []) pd_7 rfl rfl rfl rfl 0 (Nat.le_of_eq rfl) (by decide) (by decide) (ck := 0) rfl (cs := 0) rfl (by decide) (by decide) d10_1 4 rfl ?_
  intro w3 T1 X2 hq4
  subst hq4
  refine g_ifYes X2 d10_4 (XT.ii_eq_t (by decide)) 22 (by decide) (by decide) ?_
  refine g_aloadN X2 d10_22 rfl rfl 23 rfl ?_
  exact g_retA X2 rfl rfl rfl d10_23 (by decide) (by decide) ⟨rfl, _, rfl, rfl⟩
theorem d9_0 : decode jdk_31_method_11_code 0 = .ok (.aload_n 0, 1) := by decide +kernel
theorem d9_1 : decode jdk_31_method_11_code 1 = .ok (.ifnonnull 12, 3) := by decide +kernel
theorem d9_4 : decode jdk_31_method_11_code 4 = .ok (.new 84, 3) := by decide +kernel
theorem d9_7 : decode jdk_31_method_11_code 7 = .ok (.dup, 1) := by decide +kernel
theorem d9_8 : decode jdk_31_method_11_code 8 = .ok (.aload_n 1, 1) := by decide +kernel
theorem d9_9 : decode jdk_31_method_11_code 9 = .ok (.invokespecial 87, 3) := by decide +kernel
theorem d9_12 : decode jdk_31_method_11_code 12 = .ok (.athrow, 1) := by decide +kernel
theorem d9_13 : decode jdk_31_method_11_code 13 = .ok (.aload_n 0, 1) := by decide +kernel
theorem d9_14 : decode jdk_31_method_11_code 14 = .ok (.areturn, 1) := by decide +kernel
theorem pn_5 : plainName "java/util/Objects" = true := by first | (simp [plainName, overriddenIn]; done) | decide +kernel
set_option maxRecDepth 65536 in
set_option maxHeartbeats 40000000 in
theorem c_rnn (l : Launch) (Z : State) (a0 : Array Value) (G : Gl Z a0) (a b : Addr) (h : Heap)  :
    Ctr l Z EL nw (⟨"java/util/Objects", "requireNonNull", "(Ljava/lang/Object;Ljava/lang/String;)Ljava/lang/Object;"⟩ : MethodName) jdk_31_method_11_code 2 (Option.some (Jvm.ClassFile.FieldType.object "java/lang/Object")) ({ frames := 0, cells := 0, slots := 0, locals := 0 } : Room) #[.ref a, .ref b] h [] (PureQ h fun v => v = .ref a) := by
  obtain ⟨hw, hEL, hSA, ⟨zc, SC, hz⟩, ⟨fm, SF, hfm⟩⟩ := id G
  refine Ctr.enter (own := "java/util/Objects") (nm := "requireNonNull") rfl rfl hEL (plainFor_of_name pn_5) #[.val (.ref a), .val (.ref b)] (fun m => by first | rfl | (simp [entryFrame, mkF, argsToLocals, Value.category, maxLocals]; done)) ?_
  intro p e s m below meth c T X
  refine g_aloadN X d9_0 rfl rfl 1 rfl ?_
  refine g_ifnonnullYes X d9_1 13 (by decide) (by decide) ?_
  refine g_aloadN X d9_13 rfl rfl 14 rfl ?_
  exact g_retA X rfl rfl rfl d9_14 (by decide) (by decide) ⟨rfl, _, rfl, rfl⟩
theorem d8_0 : decode jdk_30_method_1_code 0 = .ok (.aload_n 0, 1) := by decide +kernel
theorem d8_1 : decode jdk_30_method_1_code 1 = .ok (.invokespecial 1, 3) := by decide +kernel
theorem d8_4 : decode jdk_30_method_1_code 4 = .ok (.return_, 1) := by decide +kernel
theorem pn_6 : plainName "java/lang/Record" = true := by first | (simp [plainName, overriddenIn]; done) | decide +kernel
set_option maxRecDepth 65536 in
set_option maxHeartbeats 40000000 in
theorem c_rec (l : Launch) (Z : State) (a0 : Array Value) (G : Gl Z a0) (j : Addr) (h : Heap)  :
    Ctr l Z EL nw (⟨"java/lang/Record", "<init>", "()V"⟩ : MethodName) jdk_30_method_1_code 1 (Option.none : Option Jvm.ClassFile.FieldType) ({ frames := 1, cells := 0, slots := 0, locals := 12 } : Room) #[.ref j] h [j] (VoidQ fun h' => h = h') := by
  obtain ⟨hw, hEL, hSA, ⟨zc, SC, hz⟩, ⟨fm, SF, hfm⟩⟩ := id G
  refine Ctr.enter (own := "java/lang/Record") (nm := "<init>") rfl rfl hEL (plainFor_of_name pn_6) #[.val (.ref j)] (fun m => by first | rfl | (simp [entryFrame, mkF, argsToLocals, Value.category, maxLocals]; done)) ?_
  intro p e s m below meth c T X
  refine g_aloadN X d8_0 rfl rfl 1 rfl ?_
  refine g_initO X (hw _ (List.mem_of_getElem? (i := 43) rfl)) (hw _ (List.mem_of_getElem? (i := 25) rfl)) (hw _ (List.mem_of_getElem? (i := 26) rfl)) rfl d8_1 (by decide) 0 (Nat.le_of_eq rfl) (by decide) 4 rfl ?_
  intro T1 X2
  exact g_ret X2 rfl d8_4 (by decide) (by decide) ⟨rfl, rfl⟩
theorem d37_0 : decode jdk_43_method_25_code 0 = .ok (.aload_n 2, 1) := by decide +kernel
theorem d37_1 : decode jdk_43_method_25_code 1 = .ok (.iconst 0, 1) := by decide +kernel
theorem d37_2 : decode jdk_43_method_25_code 2 = .ok (.baload, 1) := by decide +kernel
theorem d37_3 : decode jdk_43_method_25_code 3 = .ok (.istore 5, 2) := by decide +kernel
theorem d37_5 : decode jdk_43_method_25_code 5 = .ok (.iload_n 1, 1) := by decide +kernel
theorem d37_6 : decode jdk_43_method_25_code 6 = .ok (.iload_n 3, 1) := by decide +kernel
theorem d37_7 : decode jdk_43_method_25_code 7 = .ok (.isub, 1) := by decide +kernel
theorem d37_8 : decode jdk_43_method_25_code 8 = .ok (.istore 6, 2) := by decide +kernel
theorem d37_10 : decode jdk_43_method_25_code 10 = .ok (.iload 4, 2) := by decide +kernel
theorem d37_12 : decode jdk_43_method_25_code 12 = .ok (.istore 7, 2) := by decide +kernel
theorem d37_14 : decode jdk_43_method_25_code 14 = .ok (.iload 7, 2) := by decide +kernel
theorem d37_16 : decode jdk_43_method_25_code 16 = .ok (.iload 6, 2) := by decide +kernel
theorem d37_18 : decode jdk_43_method_25_code 18 = .ok (.if_icmp .gt 101, 3) := by decide +kernel
theorem d37_21 : decode jdk_43_method_25_code 21 = .ok (.aload_n 0, 1) := by decide +kernel
theorem d37_22 : decode jdk_43_method_25_code 22 = .ok (.iload 7, 2) := by decide +kernel
theorem d37_24 : decode jdk_43_method_25_code 24 = .ok (.baload, 1) := by decide +kernel
theorem d37_25 : decode jdk_43_method_25_code 25 = .ok (.iload 5, 2) := by decide +kernel
theorem d37_27 : decode jdk_43_method_25_code 27 = .ok (.if_icmp .eq 25, 3) := by decide +kernel
theorem d37_30 : decode jdk_43_method_25_code 30 = .ok (.iinc 7 1, 3) := by decide +kernel
theorem d37_33 : decode jdk_43_method_25_code 33 = .ok (.iload 7, 2) := by decide +kernel
theorem d37_35 : decode jdk_43_method_25_code 35 = .ok (.iload 6, 2) := by decide +kernel
theorem d37_37 : decode jdk_43_method_25_code 37 = .ok (.if_icmp .gt 15, 3) := by decide +kernel
theorem d37_40 : decode jdk_43_method_25_code 40 = .ok (.aload_n 0, 1) := by decide +kernel
theorem d37_41 : decode jdk_43_method_25_code 41 = .ok (.iload 7, 2) := by decide +kernel
theorem d37_43 : decode jdk_43_method_25_code 43 = .ok (.baload, 1) := by decide +kernel
theorem d37_44 : decode jdk_43_method_25_code 44 = .ok (.iload 5, 2) := by decide +kernel
theorem d37_46 : decode jdk_43_method_25_code 46 = .ok (.if_icmp .eq 6, 3) := by decide +kernel
theorem d37_49 : decode jdk_43_method_25_code 49 = .ok (.goto (-19), 3) := by decide +kernel
theorem d37_52 : decode jdk_43_method_25_code 52 = .ok (.iload 7, 2) := by decide +kernel
theorem d37_54 : decode jdk_43_method_25_code 54 = .ok (.iload 6, 2) := by decide +kernel
theorem d37_56 : decode jdk_43_method_25_code 56 = .ok (.if_icmp .gt 57, 3) := by decide +kernel
theorem d37_59 : decode jdk_43_method_25_code 59 = .ok (.iload 7, 2) := by decide +kernel
theorem d37_61 : decode jdk_43_method_25_code 61 = .ok (.iconst 1, 1) := by decide +kernel
theorem d37_62 : decode jdk_43_method_25_code 62 = .ok (.iadd, 1) := by decide +kernel
theorem d37_63 : decode jdk_43_method_25_code 63 = .ok (.istore 8, 2) := by decide +kernel
theorem d37_65 : decode jdk_43_method_25_code 65 = .ok (.iload 8, 2) := by decide +kernel
theorem d37_67 : decode jdk_43_method_25_code 67 = .ok (.iload_n 3, 1) := by decide +kernel
theorem d37_68 : decode jdk_43_method_25_code 68 = .ok (.iadd, 1) := by decide +kernel
theorem d37_69 : decode jdk_43_method_25_code 69 = .ok (.iconst 1, 1) := by decide +kernel
theorem d37_70 : decode jdk_43_method_25_code 70 = .ok (.isub, 1) := by decide +kernel
theorem d37_71 : decode jdk_43_method_25_code 71 = .ok (.istore 9, 2) := by decide +kernel
theorem d37_73 : decode jdk_43_method_25_code 73 = .ok (.iconst 1, 1) := by decide +kernel
theorem d37_74 : decode jdk_43_method_25_code 74 = .ok (.istore 10, 2) := by decide +kernel
theorem d37_76 : decode jdk_43_method_25_code 76 = .ok (.iload 8, 2) := by decide +kernel
theorem d37_78 : decode jdk_43_method_25_code 78 = .ok (.iload 9, 2) := by decide +kernel
theorem d37_80 : decode jdk_43_method_25_code 80 = .ok (.if_icmp .ge 23, 3) := by decide +kernel
theorem d37_83 : decode jdk_43_method_25_code 83 = .ok (.aload_n 0, 1) := by decide +kernel
theorem d37_84 : decode jdk_43_method_25_code 84 = .ok (.iload 8, 2) := by decide +kernel
theorem d37_86 : decode jdk_43_method_25_code 86 = .ok (.baload, 1) := by decide +kernel
theorem d37_87 : decode jdk_43_method_25_code 87 = .ok (.aload_n 2, 1) := by decide +kernel
theorem d37_88 : decode jdk_43_method_25_code 88 = .ok (.iload 10, 2) := by decide +kernel
theorem d37_90 : decode jdk_43_method_25_code 90 = .ok (.baload, 1) := by decide +kernel
theorem d37_91 : decode jdk_43_method_25_code 91 = .ok (.if_icmp .ne 12, 3) := by decide +kernel
theorem d37_94 : decode jdk_43_method_25_code 94 = .ok (.iinc 8 1, 3) := by decide +kernel
theorem d37_97 : decode jdk_43_method_25_code 97 = .ok (.iinc 10 1, 3) := by decide +kernel
theorem d37_100 : decode jdk_43_method_25_code 100 = .ok (.goto (-24), 3) := by decide +kernel
theorem d37_103 : decode jdk_43_method_25_code 103 = .ok (.iload 8, 2) := by decide +kernel
theorem d37_105 : decode jdk_43_method_25_code 105 = .ok (.iload 9, 2) := by decide +kernel
theorem d37_107 : decode jdk_43_method_25_code 107 = .ok (.if_icmp .ne 6, 3) := by decide +kernel
theorem d37_110 : decode jdk_43_method_25_code 110 = .ok (.iload 7, 2) := by decide +kernel
theorem d37_112 : decode jdk_43_method_25_code 112 = .ok (.ireturn, 1) := by decide +kernel
theorem d37_113 : decode jdk_43_method_25_code 113 = .ok (.iinc 7 1, 3) := by decide +kernel
theorem d37_116 : decode jdk_43_method_25_code 116 = .ok (.goto (-102), 3) := by decide +kernel
theorem d37_119 : decode jdk_43_method_25_code 119 = .ok (.iconst (-1), 1) := by decide +kernel
theorem d37_120 : decode jdk_43_method_25_code 120 = .ok (.ireturn, 1) := by decide +kernel
set_option maxRecDepth 65536 in
set_option maxHeartbeats 40000000 in
theorem c_ix5 (l : Launch) (Z : State) (a0 : Array Value) (G : Gl Z a0) (t u : Addr) (kb kb' : ClassId) (cs : List Int32) (h : Heap) (A : Arv Z h t kb .byte (Int32.ofNat cs.length) (bys cs) (.int (0 : Int32))) (B : Arv Z h u kb' .byte (Int32.ofNat [(47 : Int32)].length) (bys [(47 : Int32)]) (.int (0 : Int32))) (hcs : ∀ c ∈ cs, ¬ c < 0 ∧ ¬ (255 : Int32) < c) (hsm : cs.length ≤ 3000) (hns : ∀ c ∈ cs, ¬ c = 47) (hpos : 0 < cs.length) :
    Ctr l Z EL nw (⟨"java/lang/StringLatin1", "indexOf", "([BI[BII)I"⟩ : MethodName) jdk_43_method_25_code 11 (Option.some Jvm.ClassFile.FieldType.int) ({ frames := 0, cells := 0, slots := 0, locals := 0 } : Room) #[.ref t, .int (Int32.ofNat cs.length), .ref u, .int (1 : Int32), .int (0 : Int32)] h [] (PureQ h fun v => v = .int (-1)) := by
  obtain ⟨hw, hEL, hSA, ⟨zc, SC, hz⟩, ⟨fm, SF, hfm⟩⟩ := id G
  refine Ctr.enter (own := "java/lang/StringLatin1") (nm := "indexOf") rfl rfl hEL (plainFor_of_name pn_2) #[.val (.ref t), .val (.int (Int32.ofNat cs.length)), .val (.ref u), .val (.int (1 : Int32)), .val (.int (0 : Int32)), .unset, .unset, .unset, .unset, .unset, .unset] (fun m => entry1 m _ _ (by simp [Value.category]) rfl) ?_
  intro p e s m below meth c T X
  refine g_aloadN X d37_0 rfl rfl 1 rfl ?_
  refine g_iconst X (0 : Int32) d37_1 (by decide) 2 rfl ?_
  refine g_baload X B (by decide) (by decide) (.int (47 : Int32)) rfl d37_2 3 rfl ?_
  refine g_istore X d37_3 (Ls' := #[.val (.ref t), .val (.int (Int32.ofNat cs.length)), .val (.ref u), .val (.int (1 : Int32)), .val (.int (0 : Int32)), .val (.int (47 : Int32)), .unset, .unset, .unset, .unset, .unset]) rfl 5 rfl ?_
  refine g_iloadN X d37_5 rfl 6 rfl ?_
  refine g_iloadN X d37_6 rfl 7 rfl ?_
  refine g_isub X d37_7 (Int32.ofNat (cs.length - 1)) (of_pred hpos) 8 rfl ?_
  refine g_istore X d37_8 (Ls' := #[.val (.ref t), .val (.int (Int32.ofNat cs.length)), .val (.ref u), .val (.int (1 : Int32)), .val (.int (0 : Int32)), .val (.int (47 : Int32)), .val (.int (Int32.ofNat (cs.length - 1))), .unset, .unset, .unset, .unset]) rfl 10 rfl ?_
  refine g_iload X d37_10 rfl 12 rfl ?_
  refine g_istore X d37_12 (Ls' := #[.val (.ref t), .val (.int (Int32.ofNat cs.length)), .val (.ref u), .val (.int (1 : Int32)), .val (.int (0 : Int32)), .val (.int (47 : Int32)), .val (.int (Int32.ofNat (cs.length - 1))), .val (.int (0 : Int32)), .unset, .unset, .unset]) rfl 14 rfl ?_
  refine g_iload X d37_14 rfl 16 rfl ?_
  refine g_iload X d37_16 rfl 18 rfl ?_
  refine g_icmpNo X d37_18 (XT.ii_gt_f (of_nn (by omega))) 21 rfl ?_
  refine g_aloadN X d37_21 rfl rfl 22 rfl ?_
  refine g_iload X d37_22 rfl 24 rfl ?_
  refine g_baload X A (by decide) (of_lt hpos (by omega)) _ (bys_at cs 0 (by omega)) d37_24 25 rfl ?_
  refine g_iload X d37_25 rfl 27 rfl ?_
  refine g_icmpNo X d37_27 (XT.ii_eq_f (lo47 (hcs _ (mem_at hpos)) (hns _ (mem_at hpos)))) 30 rfl ?_
  have loop : ∀ (k i : Nat) (T : State), St p l e ({ frames := 0, cells := 0, slots := 0, locals := 0 } : Room) s m #[.ref t, .int (Int32.ofNat cs.length), .ref u, .int (1 : Int32), .int (0 : Int32)] below meth c "java/lang/StringLatin1" jdk_43_method_25_code 11 ((Option.some Jvm.ClassFile.FieldType.int)) "indexOf" Z EL nw [] [] T h 0 0 → i + 1 + k = cs.length → OwnKit.Goes p e below s Z EL nw (PureQ h fun v => v = .int (-1)) (({ frames := 0, cells := 0, slots := 0, locals := 0 } : Room)).cells (({ frames := 0, cells := 0, slots := 0, locals := 0 } : Room)).slots (T.setTop (mkF m 30 #[.val (.ref t), .val (.int (Int32.ofNat cs.length)), .val (.ref u), .val (.int (1 : Int32)), .val (.int (0 : Int32)), .val (.int (47 : Int32)), .val (.int (Int32.ofNat (cs.length - 1))), .val (.int (Int32.ofNat i)), .unset, .unset, .unset] [])) := by
    intro k
    induction k with
    | zero =>
      intro i T' X' hk
      refine g_iinc X' d37_30 rfl (Int32.ofNat (i + 1)) (of_succ i) (Ls' := #[.val (.ref t), .val (.int (Int32.ofNat cs.length)), .val (.ref u), .val (.int (1 : Int32)), .val (.int (0 : Int32)), .val (.int (47 : Int32)), .val (.int (Int32.ofNat (cs.length - 1))), .val (.int (Int32.ofNat (i + 1))), .unset, .unset, .unset]) rfl 33 rfl ?_
      refine g_iload X' d37_33 rfl 35 rfl ?_
      refine g_iload X' d37_35 rfl 37 rfl ?_
      refine g_icmpYes X' d37_37 (XT.ii_gt_t (of_lt (by omega) (by omega))) 52 (by decide) (by decide) ?_
      refine g_iload X' d37_52 rfl 54 rfl ?_
      refine g_iload X' d37_54 rfl 56 rfl ?_
      refine g_icmpYes X' d37_56 (XT.ii_gt_t (of_lt (by omega) (by omega))) 113 (by decide) (by decide) ?_
      refine g_iinc X' d37_113 rfl (Int32.ofNat (i + 1 + 1)) (of_succ (i + 1)) (Ls' := #[.val (.ref t), .val (.int (Int32.ofNat cs.length)), .val (.ref u), .val (.int (1 : Int32)), .val (.int (0 : Int32)), .val (.int (47 : Int32)), .val (.int (Int32.ofNat (cs.length - 1))), .val (.int (Int32.ofNat (i + 1 + 1))), .unset, .unset, .unset]) rfl 116 rfl ?_
      refine g_goto X' d37_116 14 (by decide) (by decide) ?_
      refine g_iload X' d37_14 rfl 16 rfl ?_
      refine g_iload X' d37_16 rfl 18 rfl ?_
      refine g_icmpYes X' d37_18 (XT.ii_gt_t (of_lt (by omega) (by omega))) 119 (by decide) (by decide) ?_
      refine g_iconst X' (-1 : Int32) d37_119 (by decide) 120 rfl ?_
      exact g_retI X' rfl d37_120 (by decide) (by decide) ⟨rfl, _, rfl, rfl⟩
    | succ k ih =>
      intro i T' X' hk
      have hi : i + 1 < cs.length := by omega
      refine g_iinc X' d37_30 rfl (Int32.ofNat (i + 1)) (of_succ i) (Ls' := #[.val (.ref t), .val (.int (Int32.ofNat cs.length)), .val (.ref u), .val (.int (1 : Int32)), .val (.int (0 : Int32)), .val (.int (47 : Int32)), .val (.int (Int32.ofNat (cs.length - 1))), .val (.int (Int32.ofNat (i + 1))), .unset, .unset, .unset]) rfl 33 rfl ?_
      refine g_iload X' d37_33 rfl 35 rfl ?_
      refine g_iload X' d37_35 rfl 37 rfl ?_
      refine g_icmpNo X' d37_37 (XT.ii_gt_f (of_le (by omega) (by omega))) 40 rfl ?_
      refine g_aloadN X' d37_40 rfl rfl 41 rfl ?_
      refine g_iload X' d37_41 rfl 43 rfl ?_
      refine g_baload X' A (of_nn (by omega)) (of_lt hi (by omega)) _ (bys_at cs (i + 1) (by omega)) d37_43 44 rfl ?_
      refine g_iload X' d37_44 rfl 46 rfl ?_
      refine g_icmpNo X' d37_46 (XT.ii_eq_f (lo47 (hcs _ (mem_at hi)) (hns _ (mem_at hi)))) 49 rfl ?_
      refine g_goto X' d37_49 30 (by decide) (by decide) ?_
      exact ih (i + 1) T' X' (by omega)
  exact loop (cs.length - 1) 0 T X (by omega)
theorem d19_0 : decode jdk_43_method_24_code 0 = .ok (.aload_n 1, 1) := by decide +kernel
theorem d19_1 : decode jdk_43_method_24_code 1 = .ok (.arraylength, 1) := by decide +kernel
theorem d19_2 : decode jdk_43_method_24_code 2 = .ok (.ifCond .ne 5, 3) := by decide +kernel
theorem d19_5 : decode jdk_43_method_24_code 5 = .ok (.iconst 0, 1) := by decide +kernel
theorem d19_6 : decode jdk_43_method_24_code 6 = .ok (.ireturn, 1) := by decide +kernel
theorem d19_7 : decode jdk_43_method_24_code 7 = .ok (.aload_n 0, 1) := by decide +kernel
theorem d19_8 : decode jdk_43_method_24_code 8 = .ok (.arraylength, 1) := by decide +kernel
theorem d19_9 : decode jdk_43_method_24_code 9 = .ok (.ifCond .ne 5, 3) := by decide +kernel
theorem d19_12 : decode jdk_43_method_24_code 12 = .ok (.iconst (-1), 1) := by decide +kernel
theorem d19_13 : decode jdk_43_method_24_code 13 = .ok (.ireturn, 1) := by decide +kernel
theorem d19_14 : decode jdk_43_method_24_code 14 = .ok (.aload_n 0, 1) := by decide +kernel
theorem d19_15 : decode jdk_43_method_24_code 15 = .ok (.aload_n 0, 1) := by decide +kernel
theorem d19_16 : decode jdk_43_method_24_code 16 = .ok (.arraylength, 1) := by decide +kernel
theorem d19_17 : decode jdk_43_method_24_code 17 = .ok (.aload_n 1, 1) := by decide +kernel
theorem d19_18 : decode jdk_43_method_24_code 18 = .ok (.aload_n 1, 1) := by decide +kernel
theorem d19_19 : decode jdk_43_method_24_code 19 = .ok (.arraylength, 1) := by decide +kernel
theorem d19_20 : decode jdk_43_method_24_code 20 = .ok (.iconst 0, 1) := by decide +kernel
theorem d19_21 : decode jdk_43_method_24_code 21 = .ok (.invokestatic 99, 3) := by decide +kernel
theorem d19_24 : decode jdk_43_method_24_code 24 = .ok (.ireturn, 1) := by decide +kernel
set_option maxRecDepth 65536 in
set_option maxHeartbeats 40000000 in
theorem c_ix2 (l : Launch) (Z : State) (a0 : Array Value) (G : Gl Z a0) (t u : Addr) (kb kb' : ClassId) (cs : List Int32) (h : Heap) (A : Arv Z h t kb .byte (Int32.ofNat cs.length) (bys cs) (.int (0 : Int32))) (B : Arv Z h u kb' .byte (Int32.ofNat [(47 : Int32)].length) (bys [(47 : Int32)]) (.int (0 : Int32))) (hcs : ∀ c ∈ cs, ¬ c < 0 ∧ ¬ (255 : Int32) < c) (hsm : cs.length ≤ 3000) (hns : ∀ c ∈ cs, ¬ c = 47) :
    Ctr l Z EL nw (⟨"java/lang/StringLatin1", "indexOf", "([B[B)I"⟩ : MethodName) jdk_43_method_24_code 2 (Option.some Jvm.ClassFile.FieldType.int) ({ frames := 1, cells := 0, slots := 0, locals := 22 } : Room) #[.ref t, .ref u] h [] (PureQ h fun v => v = .int (-1)) := by
  obtain ⟨hw, hEL, hSA, ⟨zc, SC, hz⟩, ⟨fm, SF, hfm⟩⟩ := id G
  refine Ctr.enter (own := "java/lang/StringLatin1") (nm := "indexOf") rfl rfl hEL (plainFor_of_name pn_2) #[.val (.ref t), .val (.ref u)] (fun m => by first | rfl | (simp [entryFrame, mkF, argsToLocals, Value.category, maxLocals]; done)) ?_
  intro p e s m below meth c T X
  refine g_aloadN X d19_0 rfl rfl 1 rfl ?_
  refine g_arrlen X B d19_1 2 rfl ?_
  refine g_ifYes X d19_2 (XT.ii_ne_t (by decide)) 7 (by decide) (by decide) ?_
  refine g_aloadN X d19_7 rfl rfl 8 rfl ?_
  refine g_arrlen X A d19_8 9 rfl ?_
  by_cases hb9 : (Int32.ofNat cs.length) = (0 : Int32)
  · refine g_ifNo X d19_9 (XT.ii_ne_f hb9) 12 rfl ?_
    refine g_iconst X (-1 : Int32) d19_12 (by decide) 13 rfl ?_
    exact g_retI X rfl d19_13 (by decide) (by decide) ⟨rfl, _, rfl, rfl⟩
  · refine g_ifYes X d19_9 (XT.ii_ne_t hb9) 14 (by decide) (by decide) ?_
    refine g_aloadN X d19_14 rfl rfl 15 rfl ?_
    refine g_aloadN X d19_15 rfl rfl 16 rfl ?_
    refine g_arrlen X A d19_16 17 rfl ?_
    refine g_aloadN X d19_17 rfl rfl 18 rfl ?_
    refine g_aloadN X d19_18 rfl rfl 19 rfl ?_
    refine g_arrlen X B d19_19 20 rfl ?_
    refine g_iconst X (0 : Int32) d19_20 (by decide) 21 rfl ?_
    refine g_callSp X (hw _ (List.mem_of_getElem? (i := 198) rfl)) (hw _ (List.mem_of_getElem? (i := 199) rfl)) (hw _ (List.mem_of_getElem? (i := 103) rfl)) (hw _ (List.mem_of_getElem? (i := 200) rfl)) (by decide) (c_ix5 l Z a0 G t u kb kb' cs h A B hcs hsm hns (Nat.pos_of_ne_zero (fun q => hb9 (by rw [q]; rfl)))) (by simp) (argsL := [.ref t, .int (Int32.ofNat cs.length), .ref u, .int (Int32.ofNat [(47 : Int32)].length), .int (0 : Int32)]) (rest := []) pd_17 rfl rfl rfl rfl 0 (Nat.le_of_eq rfl) (by decide) (by decide) (ck := 0) rfl (cs := 0) rfl (by decide) (by decide) d19_21 24 rfl ?_
    intro w3 T1 X2 hq4
    subst hq4
    exact g_retI X2 rfl d19_24 (by decide) (by decide) ⟨rfl, _, rfl, rfl⟩
theorem d17_0 : decode jdk_42_method_84_code 0 = .ok (.aload_n 0, 1) := by decide +kernel
theorem d17_1 : decode jdk_42_method_84_code 1 = .ok (.invokevirtual 335, 3) := by decide +kernel
theorem d17_4 : decode jdk_42_method_84_code 4 = .ok (.istore_n 2, 1) := by decide +kernel
theorem d17_5 : decode jdk_42_method_84_code 5 = .ok (.iload_n 2, 1) := by decide +kernel
theorem d17_6 : decode jdk_42_method_84_code 6 = .ok (.aload_n 1, 1) := by decide +kernel
theorem d17_7 : decode jdk_42_method_84_code 7 = .ok (.invokevirtual 335, 3) := by decide +kernel
theorem d17_10 : decode jdk_42_method_84_code 10 = .ok (.if_icmp .ne 36, 3) := by decide +kernel
theorem d17_13 : decode jdk_42_method_84_code 13 = .ok (.aload_n 0, 1) := by decide +kernel
theorem d17_14 : decode jdk_42_method_84_code 14 = .ok (.invokevirtual 492, 3) := by decide +kernel
theorem d17_17 : decode jdk_42_method_84_code 17 = .ok (.ifCond .eq 17, 3) := by decide +kernel
theorem d17_20 : decode jdk_42_method_84_code 20 = .ok (.aload_n 0, 1) := by decide +kernel
theorem d17_21 : decode jdk_42_method_84_code 21 = .ok (.getfield 9, 3) := by decide +kernel
theorem d17_24 : decode jdk_42_method_84_code 24 = .ok (.aload_n 1, 1) := by decide +kernel
theorem d17_25 : decode jdk_42_method_84_code 25 = .ok (.getfield 9, 3) := by decide +kernel
theorem d17_28 : decode jdk_42_method_84_code 28 = .ok (.invokestatic 647, 3) := by decide +kernel
theorem d17_31 : decode jdk_42_method_84_code 31 = .ok (.goto 14, 3) := by decide +kernel
theorem d17_34 : decode jdk_42_method_84_code 34 = .ok (.aload_n 0, 1) := by decide +kernel
theorem d17_35 : decode jdk_42_method_84_code 35 = .ok (.getfield 9, 3) := by decide +kernel
theorem d17_38 : decode jdk_42_method_84_code 38 = .ok (.aload_n 1, 1) := by decide +kernel
theorem d17_39 : decode jdk_42_method_84_code 39 = .ok (.getfield 9, 3) := by decide +kernel
theorem d17_42 : decode jdk_42_method_84_code 42 = .ok (.invokestatic 649, 3) := by decide +kernel
theorem d17_45 : decode jdk_42_method_84_code 45 = .ok (.ireturn, 1) := by decide +kernel
theorem d17_46 : decode jdk_42_method_84_code 46 = .ok (.iload_n 2, 1) := by decide +kernel
theorem d17_47 : decode jdk_42_method_84_code 47 = .ok (.ifCond .ne 5, 3) := by decide +kernel
theorem d17_50 : decode jdk_42_method_84_code 50 = .ok (.iconst (-1), 1) := by decide +kernel
theorem d17_51 : decode jdk_42_method_84_code 51 = .ok (.ireturn, 1) := by decide +kernel
theorem d17_52 : decode jdk_42_method_84_code 52 = .ok (.aload_n 0, 1) := by decide +kernel
theorem d17_53 : decode jdk_42_method_84_code 53 = .ok (.getfield 9, 3) := by decide +kernel
theorem d17_56 : decode jdk_42_method_84_code 56 = .ok (.aload_n 1, 1) := by decide +kernel
theorem d17_57 : decode jdk_42_method_84_code 57 = .ok (.getfield 9, 3) := by decide +kernel
theorem d17_60 : decode jdk_42_method_84_code 60 = .ok (.invokestatic 650, 3) := by decide +kernel
theorem d17_63 : decode jdk_42_method_84_code 63 = .ok (.ireturn, 1) := by decide +kernel
set_option maxRecDepth 65536 in
set_option maxHeartbeats 40000000 in
theorem c_ix1 (l : Launch) (Z : State) (a0 : Array Value) (G : Gl Z a0) (a b t u : Addr) (kb kb' : ClassId) (cs : List Int32) (h : Heap) (E : Exa Z h a "java/lang/String") (C : Fld Z h a "java/lang/String" "coder" "B" (.int (0 : Int32))) (V : Fld Z h a "java/lang/String" "value" "[B" (.ref t)) (A : Arv Z h t kb .byte (Int32.ofNat cs.length) (bys cs) (.int (0 : Int32))) (hcs : ∀ c ∈ cs, ¬ c < 0 ∧ ¬ (255 : Int32) < c) (hlen : cs.length ≤ 4000) (E' : Exa Z h b "java/lang/String") (C' : Fld Z h b "java/lang/String" "coder" "B" (.int (0 : Int32))) (V' : Fld Z h b "java/lang/String" "value" "[B" (.ref u)) (A' : Arv Z h u kb' .byte (Int32.ofNat [(47 : Int32)].length) (bys [(47 : Int32)]) (.int (0 : Int32))) (hds : ∀ c ∈ [(47 : Int32)], ¬ c < 0 ∧ ¬ (255 : Int32) < c) (hlen' : [(47 : Int32)].length ≤ 4000) (hsm : cs.length ≤ 3000) (hns : ∀ c ∈ cs, ¬ c = 47) :
    Ctr l Z EL nw (⟨"java/lang/String", "indexOf", "(Ljava/lang/String;)I"⟩ : MethodName) jdk_42_method_84_code 3 (Option.some Jvm.ClassFile.FieldType.int) ({ frames := 2, cells := 0, slots := 0, locals := 35 } : Room) #[.ref a, .ref b] h [] (PureQ h fun v => v = .int (-1)) := by
  obtain ⟨hw, hEL, hSA, ⟨zc, SC, hz⟩, ⟨fm, SF, hfm⟩⟩ := id G
  refine Ctr.enter (own := "java/lang/String") (nm := "indexOf") rfl rfl hEL (plainFor_of_name pn_0) #[.val (.ref a), .val (.ref b), .unset] (fun m => by first | rfl | (simp [entryFrame, mkF, argsToLocals, Value.category, maxLocals]; done)) ?_
  intro p e s m below meth c T X
  refine g_aloadN X d17_0 rfl rfl 1 rfl ?_
  refine g_callVp X (hw _ (List.mem_of_getElem? (i := 63) rfl)) (hw _ (List.mem_of_getElem? (i := 64) rfl)) (hw _ (List.mem_of_getElem? (i := 66) rfl)) (hw _ (List.mem_of_getElem? (i := 65) rfl)) (hw _ (List.mem_of_getElem? (i := 15) rfl)) (hw _ (List.mem_of_getElem? (i := 67) rfl)) (nfSel (hw _ (List.mem_of_getElem? (i := 66) rfl))) (by decide) E (c_cod l Z a0 G a h C) (by simp) (argsL := []) (rest := []) pd_19 rfl rfl rfl rfl 0 (Nat.le_of_eq rfl) (by decide) (by decide) (ck := 0) rfl (cs := 0) rfl (by decide) (by decide) d17_1 4 rfl ?_
  intro w3 T1 X2 hq4
  subst hq4
  refine g_istoreN X2 d17_4 (Ls' := #[.val (.ref a), .val (.ref b), .val (.int (0 : Int32))]) rfl 5 rfl ?_
  refine g_iloadN X2 d17_5 rfl 6 rfl ?_
  refine g_aloadN X2 d17_6 rfl rfl 7 rfl ?_
  refine g_callVp X2 (hw _ (List.mem_of_getElem? (i := 63) rfl)) (hw _ (List.mem_of_getElem? (i := 64) rfl)) (hw _ (List.mem_of_getElem? (i := 66) rfl)) (hw _ (List.mem_of_getElem? (i := 65) rfl)) (hw _ (List.mem_of_getElem? (i := 15) rfl)) (hw _ (List.mem_of_getElem? (i := 67) rfl)) (nfSel (hw _ (List.mem_of_getElem? (i := 66) rfl))) (by decide) E' (c_cod l Z a0 G b h C') (by simp) (argsL := []) (rest := [.int (0 : Int32)]) pd_19 rfl rfl rfl rfl 1 (Nat.le_of_eq rfl) (by decide) (by decide) (ck := 0) rfl (cs := 0) rfl (by decide) (by decide) d17_7 10 rfl ?_
  intro w7 T5 X6 hq8
  subst hq8
  refine g_icmpNo X6 d17_10 (XT.ii_ne_f (by decide)) 13 rfl ?_
  refine g_aloadN X6 d17_13 rfl rfl 14 rfl ?_
  refine g_callVp X6 (hw _ (List.mem_of_getElem? (i := 96) rfl)) (hw _ (List.mem_of_getElem? (i := 97) rfl)) (hw _ (List.mem_of_getElem? (i := 99) rfl)) (hw _ (List.mem_of_getElem? (i := 98) rfl)) (hw _ (List.mem_of_getElem? (i := 15) rfl)) (hw _ (List.mem_of_getElem? (i := 100) rfl)) (nfSel (hw _ (List.mem_of_getElem? (i := 99) rfl))) (by decide) E (c_isl l Z a0 G a h C) (by simp) (argsL := []) (rest := []) pd_20 rfl rfl rfl rfl 0 (Nat.le_of_eq rfl) (by decide) (by decide) (ck := 0) rfl (cs := 0) rfl (by decide) (by decide) d17_14 17 rfl ?_
  intro w11 T9 X10 hq12
  subst hq12
  refine g_ifNo X10 d17_17 (XT.ii_eq_f (by decide)) 20 rfl ?_
  refine g_aloadN X10 d17_20 rfl rfl 21 rfl ?_
  refine g_getF X10 (Or.inl (hw _ (List.mem_of_getElem? (i := 33) rfl))) (host := "") Via.refl V d17_21 24 rfl ?_
  intro T13 X14
  refine g_aloadN X14 d17_24 rfl rfl 25 rfl ?_
  refine g_getF X14 (Or.inl (hw _ (List.mem_of_getElem? (i := 33) rfl))) (host := "") Via.refl V' d17_25 28 rfl ?_
  intro T15 X16
  refine g_callSp X16 (hw _ (List.mem_of_getElem? (i := 101) rfl)) (hw _ (List.mem_of_getElem? (i := 102) rfl)) (hw _ (List.mem_of_getElem? (i := 103) rfl)) (hw _ (List.mem_of_getElem? (i := 104) rfl)) (by decide) (c_ix2 l Z a0 G t u kb kb' cs h A A' hcs hsm hns) (by simp) (argsL := [.ref t, .ref u]) (rest := []) pd_16 rfl rfl rfl rfl 0 (Nat.le_of_eq rfl) (by decide) (by decide) (ck := 0) rfl (cs := 0) rfl (by decide) (by decide) d17_28 31 rfl ?_
  intro w19 T17 X18 hq20
  subst hq20
  refine g_goto X18 d17_31 45 (by decide) (by decide) ?_
  exact g_retI X18 rfl d17_45 (by decide) (by decide) ⟨rfl, _, rfl, rfl⟩
theorem d16_0 : decode jdk_42_method_126_code 0 = .ok (.aload_n 0, 1) := by decide +kernel
theorem d16_1 : decode jdk_42_method_126_code 1 = .ok (.areturn, 1) := by decide +kernel
set_option maxRecDepth 65536 in
set_option maxHeartbeats 40000000 in
theorem c_ts (l : Launch) (Z : State) (a0 : Array Value) (G : Gl Z a0) (a : Addr) (h : Heap)  :
    Ctr l Z EL nw (⟨"java/lang/String", "toString", "()Ljava/lang/String;"⟩ : MethodName) jdk_42_method_126_code 1 (Option.some (Jvm.ClassFile.FieldType.object "java/lang/String")) ({ frames := 0, cells := 0, slots := 0, locals := 0 } : Room) #[.ref a] h [] (PureQ h fun v => v = .ref a) := by
  obtain ⟨hw, hEL, hSA, ⟨zc, SC, hz⟩, ⟨fm, SF, hfm⟩⟩ := id G
  refine Ctr.enter (own := "java/lang/String") (nm := "toString") rfl rfl hEL (plainFor_of_name pn_0) #[.val (.ref a)] (fun m => by first | rfl | (simp [entryFrame, mkF, argsToLocals, Value.category, maxLocals]; done)) ?_
  intro p e s m below meth c T X
  refine g_aloadN X d16_0 rfl rfl 1 rfl ?_
  exact g_retA X rfl rfl rfl d16_1 (by decide) (by decide) ⟨rfl, _, rfl, rfl⟩
theorem d15_0 : decode jdk_42_method_97_code 0 = .ok (.aload_n 0, 1) := by decide +kernel
theorem d15_1 : decode jdk_42_method_97_code 1 = .ok (.aload_n 1, 1) := by decide +kernel
theorem d15_2 : decode jdk_42_method_97_code 2 = .ok (.invokeinterface 710 1, 5) := by decide +kernel
theorem d15_7 : decode jdk_42_method_97_code 7 = .ok (.invokevirtual 711, 3) := by decide +kernel
theorem d15_10 : decode jdk_42_method_97_code 10 = .ok (.ifCond .lt 7, 3) := by decide +kernel
theorem d15_13 : decode jdk_42_method_97_code 13 = .ok (.iconst 1, 1) := by decide +kernel
theorem d15_14 : decode jdk_42_method_97_code 14 = .ok (.goto 4, 3) := by decide +kernel
theorem d15_17 : decode jdk_42_method_97_code 17 = .ok (.iconst 0, 1) := by decide +kernel
theorem d15_18 : decode jdk_42_method_97_code 18 = .ok (.ireturn, 1) := by decide +kernel
set_option maxRecDepth 65536 in
set_option maxHeartbeats 40000000 in
theorem c_cont (l : Launch) (Z : State) (a0 : Array Value) (G : Gl Z a0) (a b t u : Addr) (kb kb' : ClassId) (cs : List Int32) (h : Heap) (E : Exa Z h a "java/lang/String") (C : Fld Z h a "java/lang/String" "coder" "B" (.int (0 : Int32))) (V : Fld Z h a "java/lang/String" "value" "[B" (.ref t)) (A : Arv Z h t kb .byte (Int32.ofNat cs.length) (bys cs) (.int (0 : Int32))) (hcs : ∀ c ∈ cs, ¬ c < 0 ∧ ¬ (255 : Int32) < c) (hlen : cs.length ≤ 4000) (E' : Exa Z h b "java/lang/String") (C' : Fld Z h b "java/lang/String" "coder" "B" (.int (0 : Int32))) (V' : Fld Z h b "java/lang/String" "value" "[B" (.ref u)) (A' : Arv Z h u kb' .byte (Int32.ofNat [(47 : Int32)].length) (bys [(47 : Int32)]) (.int (0 : Int32))) (hds : ∀ c ∈ [(47 : Int32)], ¬ c < 0 ∧ ¬ (255 : Int32) < c) (hlen' : [(47 : Int32)].length ≤ 4000) (hsm : cs.length ≤ 3000) (hns : ∀ c ∈ cs, ¬ c = 47) :
    Ctr l Z EL nw (⟨"java/lang/String", "contains", "(Ljava/lang/CharSequence;)Z"⟩ : MethodName) jdk_42_method_97_code 2 (Option.some Jvm.ClassFile.FieldType.boolean) ({ frames := 3, cells := 0, slots := 0, locals := 49 } : Room) #[.ref a, .ref b] h [] (PureQ h fun v => v = .int 0) := by
  obtain ⟨hw, hEL, hSA, ⟨zc, SC, hz⟩, ⟨fm, SF, hfm⟩⟩ := id G
  refine Ctr.enter (own := "java/lang/String") (nm := "contains") rfl rfl hEL (plainFor_of_name pn_0) #[.val (.ref a), .val (.ref b)] (fun m => by first | rfl | (simp [entryFrame, mkF, argsToLocals, Value.category, maxLocals]; done)) ?_
  intro p e s m below meth c T X
  refine g_aloadN X d15_0 rfl rfl 1 rfl ?_
  refine g_aloadN X d15_1 rfl rfl 2 rfl ?_
  refine g_callFp X (hw _ (List.mem_of_getElem? (i := 82) rfl)) (hw _ (List.mem_of_getElem? (i := 83) rfl)) (hw _ (List.mem_of_getElem? (i := 84) rfl)) (hw _ (List.mem_of_getElem? (i := 85) rfl)) (hw _ (List.mem_of_getElem? (i := 86) rfl)) (hw _ (List.mem_of_getElem? (i := 87) rfl)) (hw _ (List.mem_of_getElem? (i := 88) rfl)) (hw _ (List.mem_of_getElem? (i := 89) rfl)) (hw _ (List.mem_of_getElem? (i := 15) rfl)) (hw _ (List.mem_of_getElem? (i := 90) rfl)) (by decide) E' (c_ts l Z a0 G b h) (by simp) (argsL := []) (rest := [.ref a]) pd_14 rfl rfl rfl rfl 1 (Nat.le_of_eq rfl) (by decide) (by decide) (ck := 0) rfl (cs := 0) rfl (by decide) (by decide) d15_2 7 rfl ?_
  intro w3 T1 X2 hq4
  subst hq4
  refine g_callVp X2 (hw _ (List.mem_of_getElem? (i := 91) rfl)) (hw _ (List.mem_of_getElem? (i := 92) rfl)) (hw _ (List.mem_of_getElem? (i := 94) rfl)) (hw _ (List.mem_of_getElem? (i := 93) rfl)) (hw _ (List.mem_of_getElem? (i := 15) rfl)) (hw _ (List.mem_of_getElem? (i := 95) rfl)) (nfSel (hw _ (List.mem_of_getElem? (i := 94) rfl))) (by decide) E (c_ix1 l Z a0 G a b t u kb kb' cs h E C V A hcs hlen E' C' V' A' hds hlen' hsm hns) (by simp) (argsL := [.ref b]) (rest := []) pd_15 rfl rfl rfl rfl 0 (Nat.le_of_eq rfl) (by decide) (by decide) (ck := 0) rfl (cs := 0) rfl (by decide) (by decide) d15_7 10 rfl ?_
  intro w7 T5 X6 hq8
  subst hq8
  refine g_ifYes X6 d15_10 (XT.ii_lt_t (by decide)) 17 (by decide) (by decide) ?_
  refine g_iconst X6 (0 : Int32) d15_17 (by decide) 18 rfl ?_
  exact g_retN X6 (t := .boolean) rfl (by simp) d15_18 _ rfl (by decide) (by decide) ⟨rfl, _, rfl, rfl⟩
theorem d14_0 : decode prog_15_method_8_code 0 = .ok (.aload_n 1, 1) := by decide +kernel
theorem d14_1 : decode prog_15_method_8_code 1 = .ok (.ldc 50, 2) := by decide +kernel
theorem d14_3 : decode prog_15_method_8_code 3 = .ok (.invokevirtual 98, 3) := by decide +kernel
theorem d14_6 : decode prog_15_method_8_code 6 = .ok (.ifCond .eq 18, 3) := by decide +kernel
theorem d14_9 : decode prog_15_method_8_code 9 = .ok (.new 37, 3) := by decide +kernel
theorem d14_12 : decode prog_15_method_8_code 12 = .ok (.dup, 1) := by decide +kernel
theorem d14_13 : decode prog_15_method_8_code 13 = .ok (.aload_n 0, 1) := by decide +kernel
theorem d14_14 : decode prog_15_method_8_code 14 = .ok (.aload_n 1, 1) := by decide +kernel
theorem d14_15 : decode prog_15_method_8_code 15 = .ok (.invokedynamic 102, 5) := by decide +kernel
theorem d14_20 : decode prog_15_method_8_code 20 = .ok (.invokespecial 42, 3) := by decide +kernel
theorem d14_23 : decode prog_15_method_8_code 23 = .ok (.athrow, 1) := by decide +kernel
theorem d14_24 : decode prog_15_method_8_code 24 = .ok (.aload_n 1, 1) := by decide +kernel
theorem d14_25 : decode prog_15_method_8_code 25 = .ok (.areturn, 1) := by decide +kernel
set_option maxRecDepth 65536 in
set_option maxHeartbeats 40000000 in
theorem c_rns (l : Launch) (Z : State) (a0 : Array Value) (G : Gl Z a0) (b a : Addr) (us : List Addr) (cs : List Int32) (h : Heap) (S : Str Z h us a cs) (hsm : cs.length ≤ 3000) (hns : ∀ c ∈ cs, ¬ c = 47) :
    Ctr l Z EL nw (⟨"com/example/pegwright/pegwright/Names", "requireNoSlash", "(Ljava/lang/String;Ljava/lang/String;)Ljava/lang/String;"⟩ : MethodName) prog_15_method_8_code 2 (Option.some (Jvm.ClassFile.FieldType.object "java/lang/String")) ({ frames := 4, cells := 2, slots := 8, locals := 62 } : Room) #[.ref b, .ref a] h us (ValQ fun w h' => w = .ref a ∧ Ext h h') := by
  obtain ⟨hw, hEL, hSA, ⟨zc, SC, hz⟩, ⟨fm, SF, hfm⟩⟩ := id G
  refine Ctr.enter (own := "com/example/pegwright/pegwright/Names") (nm := "requireNoSlash") rfl rfl hEL (plainFor_of_name pn_4) #[.val (.ref b), .val (.ref a)] (fun m => by first | rfl | (simp [entryFrame, mkF, argsToLocals, Value.category, maxLocals]; done)) ?_
  intro p e s m below meth c T X
  refine g_aloadN X d14_0 rfl rfl 1 rfl ?_
  refine g_ldcS X (cs := [(47 : Int32)]) rfl (hw _ (List.mem_of_getElem? (i := 76) rfl)) hSA (by simp [EL, consts_1]) ⟨by decide, by decide⟩ (by decide) (by decide) d14_1 4 (by decide) (by decide) (ck := 2) rfl (cs' := 8) rfl (by decide) (by decide) 3 rfl ?_
  intro s1 T2 h3 X4 E5 S6
  obtain ⟨t7, kb8, e9, f10, f11, kc12, b13, l14, n15⟩ := id (S.ext E5)
  obtain ⟨t16, kb17, e18, f19, f20, kc21, b22, l23, n24⟩ := id S6
  refine g_callVp X4 (hw _ (List.mem_of_getElem? (i := 77) rfl)) (hw _ (List.mem_of_getElem? (i := 78) rfl)) (hw _ (List.mem_of_getElem? (i := 80) rfl)) (hw _ (List.mem_of_getElem? (i := 79) rfl)) (hw _ (List.mem_of_getElem? (i := 15) rfl)) (hw _ (List.mem_of_getElem? (i := 81) rfl)) (nfSel (hw _ (List.mem_of_getElem? (i := 80) rfl))) (by decide) e9 (c_cont l Z a0 G a s1 t7 t16 kb8 kb17 cs h3 e9 f10 f11 kc12 b13 l14 e18 f19 f20 kc21 b22 l23 hsm hns) (by simp) (argsL := [.ref s1]) (rest := []) pd_13 rfl rfl rfl rfl 0 (Nat.le_of_eq rfl) (by decide) (by decide) (ck := 2) rfl (cs := 8) rfl (by decide) (by decide) d14_3 6 rfl ?_
  intro w27 T25 X26 hq28
  subst hq28
  refine g_ifYes X26 d14_6 (XT.ii_eq_t (by decide)) 24 (by decide) (by decide) ?_
  refine g_aloadN X26 d14_24 rfl rfl 25 rfl ?_
  exact g_retA X26 rfl rfl rfl d14_25 (by decide) (by decide) ⟨_, rfl, ⟨rfl, ((Ext.refl h).trans E5)⟩⟩
theorem d7_0 : decode prog_18_method_1_code 0 = .ok (.aload_n 0, 1) := by decide +kernel
theorem d7_1 : decode prog_18_method_1_code 1 = .ok (.invokespecial 1, 3) := by decide +kernel
theorem d7_4 : decode prog_18_method_1_code 4 = .ok (.ldc 9, 2) := by decide +kernel
theorem d7_6 : decode prog_18_method_1_code 6 = .ok (.aload_n 1, 1) := by decide +kernel
theorem d7_7 : decode prog_18_method_1_code 7 = .ok (.ldc 11, 2) := by decide +kernel
theorem d7_9 : decode prog_18_method_1_code 9 = .ok (.invokestatic 13, 3) := by decide +kernel
theorem d7_12 : decode prog_18_method_1_code 12 = .ok (.checkcast 19, 3) := by decide +kernel
theorem d7_15 : decode prog_18_method_1_code 15 = .ok (.invokestatic 21, 3) := by decide +kernel
theorem d7_18 : decode prog_18_method_1_code 18 = .ok (.pop, 1) := by decide +kernel
theorem d7_19 : decode prog_18_method_1_code 19 = .ok (.ldc 27, 2) := by decide +kernel
theorem d7_21 : decode prog_18_method_1_code 21 = .ok (.aload_n 2, 1) := by decide +kernel
theorem d7_22 : decode prog_18_method_1_code 22 = .ok (.ldc 29, 2) := by decide +kernel
theorem d7_24 : decode prog_18_method_1_code 24 = .ok (.invokestatic 13, 3) := by decide +kernel
theorem d7_27 : decode prog_18_method_1_code 27 = .ok (.checkcast 19, 3) := by decide +kernel
theorem d7_30 : decode prog_18_method_1_code 30 = .ok (.invokestatic 21, 3) := by decide +kernel
theorem d7_33 : decode prog_18_method_1_code 33 = .ok (.pop, 1) := by decide +kernel
theorem d7_34 : decode prog_18_method_1_code 34 = .ok (.ldc 31, 2) := by decide +kernel
theorem d7_36 : decode prog_18_method_1_code 36 = .ok (.aload_n 3, 1) := by decide +kernel
theorem d7_37 : decode prog_18_method_1_code 37 = .ok (.ldc 33, 2) := by decide +kernel
theorem d7_39 : decode prog_18_method_1_code 39 = .ok (.invokestatic 13, 3) := by decide +kernel
theorem d7_42 : decode prog_18_method_1_code 42 = .ok (.checkcast 19, 3) := by decide +kernel
theorem d7_45 : decode prog_18_method_1_code 45 = .ok (.invokestatic 21, 3) := by decide +kernel
theorem d7_48 : decode prog_18_method_1_code 48 = .ok (.pop, 1) := by decide +kernel
theorem d7_49 : decode prog_18_method_1_code 49 = .ok (.ldc 27, 2) := by decide +kernel
theorem d7_51 : decode prog_18_method_1_code 51 = .ok (.aload_n 2, 1) := by decide +kernel
theorem d7_52 : decode prog_18_method_1_code 52 = .ok (.invokestatic 35, 3) := by decide +kernel
theorem d7_55 : decode prog_18_method_1_code 55 = .ok (.pop, 1) := by decide +kernel
theorem d7_56 : decode prog_18_method_1_code 56 = .ok (.ldc 31, 2) := by decide +kernel
theorem d7_58 : decode prog_18_method_1_code 58 = .ok (.aload_n 3, 1) := by decide +kernel
theorem d7_59 : decode prog_18_method_1_code 59 = .ok (.invokestatic 35, 3) := by decide +kernel
theorem d7_62 : decode prog_18_method_1_code 62 = .ok (.pop, 1) := by decide +kernel
theorem d7_63 : decode prog_18_method_1_code 63 = .ok (.aload_n 0, 1) := by decide +kernel
theorem d7_64 : decode prog_18_method_1_code 64 = .ok (.aload_n 1, 1) := by decide +kernel
theorem d7_65 : decode prog_18_method_1_code 65 = .ok (.putfield 38, 3) := by decide +kernel
theorem d7_68 : decode prog_18_method_1_code 68 = .ok (.aload_n 0, 1) := by decide +kernel
theorem d7_69 : decode prog_18_method_1_code 69 = .ok (.aload_n 2, 1) := by decide +kernel
theorem d7_70 : decode prog_18_method_1_code 70 = .ok (.putfield 41, 3) := by decide +kernel
theorem d7_73 : decode prog_18_method_1_code 73 = .ok (.aload_n 0, 1) := by decide +kernel
theorem d7_74 : decode prog_18_method_1_code 74 = .ok (.aload_n 3, 1) := by decide +kernel
theorem d7_75 : decode prog_18_method_1_code 75 = .ok (.putfield 43, 3) := by decide +kernel
theorem d7_78 : decode prog_18_method_1_code 78 = .ok (.return_, 1) := by decide +kernel
theorem pn_7 : plainName "com/example/pegwright/pegwright/Peg" = true := by first | (simp [plainName, overriddenIn]; done) | decide +kernel
set_option maxRecDepth 65536 in
set_option maxHeartbeats 40000000 in
theorem c_pinit (l : Launch) (Z : State) (a0 : Array Value) (G : Gl Z a0) (j a b d : Addr) (us : List Addr) (cs1 cs2 cs3 : List Int32) (h : Heap) (E : Exa Z h j "com/example/pegwright/pegwright/Peg") (F0 : Fld Z h j "com/example/pegwright/pegwright/Peg" "project" "Ljava/lang/String;" .null) (F1 : Fld Z h j "com/example/pegwright/pegwright/Peg" "element" "Ljava/lang/String;" .null) (F2 : Fld Z h j "com/example/pegwright/pegwright/Peg" "activity" "Ljava/lang/String;" .null) (S1 : Str Z h (j :: us) a cs1) (S2 : Str Z h (j :: us) b cs2) (S3 : Str Z h (j :: us) d cs3) (i1 : ∀ c ∈ cs1, isoI c = 0) (i2 : ∀ c ∈ cs2, isoI c = 0) (i3 : ∀ c ∈ cs3, isoI c = 0) (m2 : cs2.length ≤ 3000) (n2 : ∀ c ∈ cs2, ¬ c = 47) (m3 : cs3.length ≤ 3000) (n3 : ∀ c ∈ cs3, ¬ c = 47) :
    Ctr l Z EL nw (⟨"com/example/pegwright/pegwright/Peg", "<init>", "(Ljava/lang/String;Ljava/lang/String;Ljava/lang/String;)V"⟩ : MethodName) prog_18_method_1_code 4 (Option.none : Option Jvm.ClassFile.FieldType) ({ frames := 6, cells := 16, slots := 312, locals := 79 } : Room) #[.ref j, .ref a, .ref b, .ref d] h (j :: us) (VoidQ fun h' => Keep h h' [j] ∧ Exa Z h' j "com/example/pegwright/pegwright/Peg" ∧ Fld Z h' j "com/example/pegwright/pegwright/Peg" "project" "Ljava/lang/String;" (.ref a) ∧ Fld Z h' j "com/example/pegwright/pegwright/Peg" "element" "Ljava/lang/String;" (.ref b) ∧ Fld Z h' j "com/example/pegwright/pegwright/Peg" "activity" "Ljava/lang/String;" (.ref d)) := by
  obtain ⟨hw, hEL, hSA, ⟨zc, SC, hz⟩, ⟨fm, SF, hfm⟩⟩ := id G
  refine Ctr.enter (own := "com/example/pegwright/pegwright/Peg") (nm := "<init>") rfl rfl hEL (plainFor_of_name pn_7) #[.val (.ref j), .val (.ref a), .val (.ref b), .val (.ref d)] (fun m => entry1 m _ _ (by simp [Value.category]) rfl) ?_
  intro p e s m below meth c T X
  refine g_aloadN X d7_0 rfl rfl 1 rfl ?_
  refine g_callIn X rfl (hw _ (List.mem_of_getElem? (i := 38) rfl)) (hw _ (List.mem_of_getElem? (i := 39) rfl)) (hw _ (List.mem_of_getElem? (i := 41) rfl)) (hw _ (List.mem_of_getElem? (i := 42) rfl)) (by decide) (c_rec l Z a0 G j h) (by simp) (argsL := []) (rest := []) pd_10 rfl rfl rfl rfl 0 (Nat.le_of_eq rfl) (by decide) (by decide) (ck := 0) rfl (cs := 0) rfl (by decide) (by decide) d7_1 4 rfl ?_
  intro T1 h4 X2 hq3
  subst hq3
  refine g_ldcS X2 (cs := [(97 : Int32), (32 : Int32), (112 : Int32), (101 : Int32), (103 : Int32), (39 : Int32), (115 : Int32), (32 : Int32), (112 : Int32), (114 : Int32), (111 : Int32), (106 : Int32), (101 : Int32), (99 : Int32), (116 : Int32)]) rfl (hw _ (List.mem_of_getElem? (i := 44) rfl)) hSA (by simp [EL, consts_1]) ⟨by decide, by decide⟩ (by decide) (by decide) d7_4 60 (by decide) (by decide) (ck := 2) rfl (cs' := 64) rfl (by decide) (by decide) 6 rfl ?_
  intro s5 T6 h7 X8 E9 S10
  refine g_aloadN X8 d7_6 rfl rfl 7 rfl ?_
  refine g_ldcS X8 (cs := [(112 : Int32), (114 : Int32), (111 : Int32), (106 : Int32), (101 : Int32), (99 : Int32), (116 : Int32)]) rfl (hw _ (List.mem_of_getElem? (i := 45) rfl)) hSA (by simp [EL, consts_1]) ⟨by decide, by decide⟩ (by decide) (by decide) d7_7 28 (by decide) (by decide) (ck := 4) rfl (cs' := 96) rfl (by decide) (by decide) 9 rfl ?_
  intro s11 T12 h13 X14 E15 S16
  refine g_callSp X14 (hw _ (List.mem_of_getElem? (i := 46) rfl)) (hw _ (List.mem_of_getElem? (i := 47) rfl)) (hw _ (List.mem_of_getElem? (i := 48) rfl)) (hw _ (List.mem_of_getElem? (i := 49) rfl)) (by decide) (c_rnn l Z a0 G a s11 h13) (by simp) (argsL := [.ref a, .ref s11]) (rest := [.ref s5]) pd_9 rfl rfl rfl rfl 1 (Nat.le_of_eq rfl) (by decide) (by decide) (ck := 4) rfl (cs := 96) rfl (by decide) (by decide) d7_9 12 rfl ?_
  intro w19 T17 X18 hq20
  subst hq20
  refine g_cast X18 (hw _ (List.mem_of_getElem? (i := 50) rfl)) (Ins.self ((S1.ext E9).ext E15).exa) d7_12 15 rfl ?_
  intro T21 X22
  obtain ⟨t23, kb24, e25, f26, f27, kc28, b29, l30, n31⟩ := id ((S1.ext E9).ext E15)
  refine g_callSp X22 (hw _ (List.mem_of_getElem? (i := 51) rfl)) (hw _ (List.mem_of_getElem? (i := 52) rfl)) (hw _ (List.mem_of_getElem? (i := 53) rfl)) (hw _ (List.mem_of_getElem? (i := 54) rfl)) (by decide) (c_rnc l Z a0 G s5 a t23 kb24 cs1 h13 e25 f26 f27 kc28 b29 l30 i1) (by simp) (argsL := [.ref s5, .ref a]) (rest := []) pd_8 rfl rfl rfl rfl 0 (Nat.le_of_eq rfl) (by decide) (by decide) (ck := 4) rfl (cs := 96) rfl (by decide) (by decide) d7_15 18 rfl ?_
  intro w34 T32 X33 hq35
  subst hq35
  refine g_pop X33 d7_18 rfl 19 rfl ?_
  refine g_ldcS X33 (cs := [(97 : Int32), (32 : Int32), (112 : Int32), (101 : Int32), (103 : Int32), (39 : Int32), (115 : Int32), (32 : Int32), (101 : Int32), (108 : Int32), (101 : Int32), (109 : Int32), (101 : Int32), (110 : Int32), (116 : Int32)]) rfl (hw _ (List.mem_of_getElem? (i := 69) rfl)) hSA (by simp [EL, consts_1]) ⟨by decide, by decide⟩ (by decide) (by decide) d7_19 60 (by decide) (by decide) (ck := 6) rfl (cs' := 160) rfl (by decide) (by decide) 21 rfl ?_
  intro s36 T37 h38 X39 E40 S41
  refine g_aloadN X39 d7_21 rfl rfl 22 rfl ?_
  refine g_ldcS X39 (cs := [(101 : Int32), (108 : Int32), (101 : Int32), (109 : Int32), (101 : Int32), (110 : Int32), (116 : Int32)]) rfl (hw _ (List.mem_of_getElem? (i := 70) rfl)) hSA (by simp [EL, consts_1]) ⟨by decide, by decide⟩ (by decide) (by decide) d7_22 28 (by decide) (by decide) (ck := 8) rfl (cs' := 192) rfl (by decide) (by decide) 24 rfl ?_
  intro s42 T43 h44 X45 E46 S47
  refine g_callSp X45 (hw _ (List.mem_of_getElem? (i := 46) rfl)) (hw _ (List.mem_of_getElem? (i := 47) rfl)) (hw _ (List.mem_of_getElem? (i := 48) rfl)) (hw _ (List.mem_of_getElem? (i := 49) rfl)) (by decide) (c_rnn l Z a0 G b s42 h44) (by simp) (argsL := [.ref b, .ref s42]) (rest := [.ref s36]) pd_9 rfl rfl rfl rfl 1 (Nat.le_of_eq rfl) (by decide) (by decide) (ck := 8) rfl (cs := 192) rfl (by decide) (by decide) d7_24 27 rfl ?_
  intro w50 T48 X49 hq51
  subst hq51
  refine g_cast X49 (hw _ (List.mem_of_getElem? (i := 50) rfl)) (Ins.self ((((S2.ext E9).ext E15).ext E40).ext E46).exa) d7_27 30 rfl ?_
  intro T52 X53
  obtain ⟨t54, kb55, e56, f57, f58, kc59, b60, l61, n62⟩ := id ((((S2.ext E9).ext E15).ext E40).ext E46)
  refine g_callSp X53 (hw _ (List.mem_of_getElem? (i := 51) rfl)) (hw _ (List.mem_of_getElem? (i := 52) rfl)) (hw _ (List.mem_of_getElem? (i := 53) rfl)) (hw _ (List.mem_of_getElem? (i := 54) rfl)) (by decide) (c_rnc l Z a0 G s36 b t54 kb55 cs2 h44 e56 f57 f58 kc59 b60 l61 i2) (by simp) (argsL := [.ref s36, .ref b]) (rest := []) pd_8 rfl rfl rfl rfl 0 (Nat.le_of_eq rfl) (by decide) (by decide) (ck := 8) rfl (cs := 192) rfl (by decide) (by decide) d7_30 33 rfl ?_
  intro w65 T63 X64 hq66
  subst hq66
  refine g_pop X64 d7_33 rfl 34 rfl ?_
  refine g_ldcS X64 (cs := [(97 : Int32), (32 : Int32), (112 : Int32), (101 : Int32), (103 : Int32), (39 : Int32), (115 : Int32), (32 : Int32), (97 : Int32), (99 : Int32), (116 : Int32), (105 : Int32), (118 : Int32), (105 : Int32), (116 : Int32), (121 : Int32)]) rfl (hw _ (List.mem_of_getElem? (i := 71) rfl)) hSA (by simp [EL, consts_1]) ⟨by decide, by decide⟩ (by decide) (by decide) d7_34 64 (by decide) (by decide) (ck := 10) rfl (cs' := 260) rfl (by decide) (by decide) 36 rfl ?_
  intro s67 T68 h69 X70 E71 S72
  refine g_aloadN X70 d7_36 rfl rfl 37 rfl ?_
  refine g_ldcS X70 (cs := [(97 : Int32), (99 : Int32), (116 : Int32), (105 : Int32), (118 : Int32), (105 : Int32), (116 : Int32), (121 : Int32)]) rfl (hw _ (List.mem_of_getElem? (i := 72) rfl)) hSA (by simp [EL, consts_1]) ⟨by decide, by decide⟩ (by decide) (by decide) d7_37 32 (by decide) (by decide) (ck := 12) rfl (cs' := 296) rfl (by decide) (by decide) 39 rfl ?_
  intro s73 T74 h75 X76 E77 S78
  refine g_callSp X76 (hw _ (List.mem_of_getElem? (i := 46) rfl)) (hw _ (List.mem_of_getElem? (i := 47) rfl)) (hw _ (List.mem_of_getElem? (i := 48) rfl)) (hw _ (List.mem_of_getElem? (i := 49) rfl)) (by decide) (c_rnn l Z a0 G d s73 h75) (by simp) (argsL := [.ref d, .ref s73]) (rest := [.ref s67]) pd_9 rfl rfl rfl rfl 1 (Nat.le_of_eq rfl) (by decide) (by decide) (ck := 12) rfl (cs := 296) rfl (by decide) (by decide) d7_39 42 rfl ?_
  intro w81 T79 X80 hq82
  subst hq82
  refine g_cast X80 (hw _ (List.mem_of_getElem? (i := 50) rfl)) (Ins.self ((((((S3.ext E9).ext E15).ext E40).ext E46).ext E71).ext E77).exa) d7_42 45 rfl ?_
  intro T83 X84
  obtain ⟨t85, kb86, e87, f88, f89, kc90, b91, l92, n93⟩ := id ((((((S3.ext E9).ext E15).ext E40).ext E46).ext E71).ext E77)
  refine g_callSp X84 (hw _ (List.mem_of_getElem? (i := 51) rfl)) (hw _ (List.mem_of_getElem? (i := 52) rfl)) (hw _ (List.mem_of_getElem? (i := 53) rfl)) (hw _ (List.mem_of_getElem? (i := 54) rfl)) (by decide) (c_rnc l Z a0 G s67 d t85 kb86 cs3 h75 e87 f88 f89 kc90 b91 l92 i3) (by simp) (argsL := [.ref s67, .ref d]) (rest := []) pd_8 rfl rfl rfl rfl 0 (Nat.le_of_eq rfl) (by decide) (by decide) (ck := 12) rfl (cs := 296) rfl (by decide) (by decide) d7_45 48 rfl ?_
  intro w96 T94 X95 hq97
  subst hq97
  refine g_pop X95 d7_48 rfl 49 rfl ?_
  refine g_ldcA X95 (hw _ (List.mem_of_getElem? (i := 69) rfl)) (a := s36) (by simp) d7_49 51 rfl ?_
  refine g_aloadN X95 d7_51 rfl rfl 52 rfl ?_
  refine g_callSv X95 (hw _ (List.mem_of_getElem? (i := 73) rfl)) (hw _ (List.mem_of_getElem? (i := 74) rfl)) (hw _ (List.mem_of_getElem? (i := 53) rfl)) (hw _ (List.mem_of_getElem? (i := 75) rfl)) (by decide) (c_rns l Z a0 G s36 b (j :: us) cs2 h75 ((((((S2.ext E9).ext E15).ext E40).ext E46).ext E71).ext E77) m2 n2) (fun _ q => q) (argsL := [.ref s36, .ref b]) (rest := []) pd_8 rfl rfl rfl rfl 0 (Nat.le_of_eq rfl) (by decide) (by decide) (ck := 14) rfl (cs := 304) rfl (by decide) (by decide) d7_52 55 rfl ?_
  intro w100 T98 h102 X99 hq101
  obtain ⟨rfl, E103⟩ := hq101
  refine g_pop X99 d7_55 rfl 56 rfl ?_
  refine g_ldcA X99 (hw _ (List.mem_of_getElem? (i := 71) rfl)) (a := s67) (by simp) d7_56 58 rfl ?_
  refine g_aloadN X99 d7_58 rfl rfl 59 rfl ?_
  refine g_callSv X99 (hw _ (List.mem_of_getElem? (i := 73) rfl)) (hw _ (List.mem_of_getElem? (i := 74) rfl)) (hw _ (List.mem_of_getElem? (i := 53) rfl)) (hw _ (List.mem_of_getElem? (i := 75) rfl)) (by decide) (c_rns l Z a0 G s67 d (j :: us) cs3 h102 (((((((S3.ext E9).ext E15).ext E40).ext E46).ext E71).ext E77).ext E103) m3 n3) (fun _ q => q) (argsL := [.ref s67, .ref d]) (rest := []) pd_8 rfl rfl rfl rfl 0 (Nat.le_of_eq rfl) (by decide) (by decide) (ck := 16) rfl (cs := 312) rfl (by decide) (by decide) d7_59 62 rfl ?_
  intro w106 T104 h108 X105 hq107
  obtain ⟨rfl, E109⟩ := hq107
  refine g_pop X105 d7_62 rfl 63 rfl ?_
  refine g_aloadN X105 d7_63 rfl rfl 64 rfl ?_
  refine g_aloadN X105 d7_64 rfl rfl 65 rfl ?_
  refine g_putF X105 (Or.inl (hw _ (List.mem_of_getElem? (i := 105) rfl))) (host := "") Via.refl ((((((((F0.ext E9).ext E15).ext E40).ext E46).ext E71).ext E77).ext E103).ext E109) ((((((((E.ext E9).ext E15).ext E40).ext E46).ext E71).ext E77).ext E103).ext E109) (Or.inr ⟨(hw _ (List.mem_of_getElem? (i := 106) rfl)), rfl, rfl⟩) (hw _ (List.mem_of_getElem? (i := 8) rfl)) (ty := (.object "java/lang/String")) (by decide +kernel) rfl rfl (by simp) d7_65 68 rfl ?_
  intro T110 h111 X112 W113 F114 E115
  refine g_aloadN X112 d7_68 rfl rfl 69 rfl ?_
  refine g_aloadN X112 d7_69 rfl rfl 70 rfl ?_
  refine g_putF X112 (Or.inl (hw _ (List.mem_of_getElem? (i := 107) rfl))) (host := "") Via.refl (((((((((F1.ext E9).ext E15).ext E40).ext E46).ext E71).ext E77).ext E103).ext E109).other W113 (Or.inr (slot_ne (t := (.object "java/lang/String")) (t' := (.object "java/lang/String")) (Or.inr (hw _ (List.mem_of_getElem? (i := 108) rfl))) (Or.inr (hw _ (List.mem_of_getElem? (i := 106) rfl))) (by decide) (by decide +kernel) (by decide +kernel)))) E115 (Or.inr ⟨(hw _ (List.mem_of_getElem? (i := 108) rfl)), rfl, rfl⟩) (hw _ (List.mem_of_getElem? (i := 8) rfl)) (ty := (.object "java/lang/String")) (by decide +kernel) rfl rfl (by simp) d7_70 73 rfl ?_
  intro T116 h117 X118 W119 F120 E121
  refine g_aloadN X118 d7_73 rfl rfl 74 rfl ?_
  refine g_aloadN X118 d7_74 rfl rfl 75 rfl ?_
  refine g_putF X118 (Or.inl (hw _ (List.mem_of_getElem? (i := 109) rfl))) (host := "") Via.refl ((((((((((F2.ext E9).ext E15).ext E40).ext E46).ext E71).ext E77).ext E103).ext E109).other W113 (Or.inr (slot_ne (t := (.object "java/lang/String")) (t' := (.object "java/lang/String")) (Or.inr (hw _ (List.mem_of_getElem? (i := 110) rfl))) (Or.inr (hw _ (List.mem_of_getElem? (i := 106) rfl))) (by decide) (by decide +kernel) (by decide +kernel)))).other W119 (Or.inr (slot_ne (t := (.object "java/lang/String")) (t' := (.object "java/lang/String")) (Or.inr (hw _ (List.mem_of_getElem? (i := 110) rfl))) (Or.inr (hw _ (List.mem_of_getElem? (i := 108) rfl))) (by decide) (by decide +kernel) (by decide +kernel)))) E121 (Or.inr ⟨(hw _ (List.mem_of_getElem? (i := 110) rfl)), rfl, rfl⟩) (hw _ (List.mem_of_getElem? (i := 8) rfl)) (ty := (.object "java/lang/String")) (by decide +kernel) rfl rfl (by simp) d7_75 78 rfl ?_
  intro T122 h123 X124 W125 F126 E127
  exact g_ret X124 rfl d7_78 (by decide) (by decide) ⟨rfl, ⟨((((((((((((Keep.refl h [j]).ext E9).ext E15).ext E40).ext E46).ext E71).ext E77).ext E103).ext E109).wr W113 (Or.inl (by simp))).wr W119 (Or.inl (by simp))).wr W125 (Or.inl (by simp))), E127, ((F114.other W119 (Or.inr (slot_ne (t := (.object "java/lang/String")) (t' := (.object "java/lang/String")) (Or.inr (hw _ (List.mem_of_getElem? (i := 106) rfl))) (Or.inr (hw _ (List.mem_of_getElem? (i := 108) rfl))) (by decide) (by decide +kernel) (by decide +kernel)))).other W125 (Or.inr (slot_ne (t := (.object "java/lang/String")) (t' := (.object "java/lang/String")) (Or.inr (hw _ (List.mem_of_getElem? (i := 106) rfl))) (Or.inr (hw _ (List.mem_of_getElem? (i := 110) rfl))) (by decide) (by decide +kernel) (by decide +kernel)))), (F120.other W125 (Or.inr (slot_ne (t := (.object "java/lang/String")) (t' := (.object "java/lang/String")) (Or.inr (hw _ (List.mem_of_getElem? (i := 108) rfl))) (Or.inr (hw _ (List.mem_of_getElem? (i := 110) rfl))) (by decide) (by decide +kernel) (by decide +kernel)))), F126⟩⟩
theorem d27_0 : decode prog_18_method_4_code 0 = .ok (.aload_n 1, 1) := by decide +kernel
theorem d27_1 : decode prog_18_method_4_code 1 = .ok (.instanceof 7, 3) := by decide +kernel
theorem d27_4 : decode prog_18_method_4_code 4 = .ok (.ifCond .eq 54, 3) := by decide +kernel
theorem d27_7 : decode prog_18_method_4_code 7 = .ok (.aload_n 1, 1) := by decide +kernel
theorem d27_8 : decode prog_18_method_4_code 8 = .ok (.checkcast 7, 3) := by decide +kernel
theorem d27_11 : decode prog_18_method_4_code 11 = .ok (.astore_n 2, 1) := by decide +kernel
theorem d27_12 : decode prog_18_method_4_code 12 = .ok (.aload_n 0, 1) := by decide +kernel
theorem d27_13 : decode prog_18_method_4_code 13 = .ok (.getfield 38, 3) := by decide +kernel
theorem d27_16 : decode prog_18_method_4_code 16 = .ok (.aload_n 2, 1) := by decide +kernel
theorem d27_17 : decode prog_18_method_4_code 17 = .ok (.getfield 38, 3) := by decide +kernel
theorem d27_20 : decode prog_18_method_4_code 20 = .ok (.invokevirtual 80, 3) := by decide +kernel
theorem d27_23 : decode prog_18_method_4_code 23 = .ok (.ifCond .eq 35, 3) := by decide +kernel
theorem d27_26 : decode prog_18_method_4_code 26 = .ok (.aload_n 0, 1) := by decide +kernel
theorem d27_27 : decode prog_18_method_4_code 27 = .ok (.getfield 41, 3) := by decide +kernel
theorem d27_30 : decode prog_18_method_4_code 30 = .ok (.aload_n 2, 1) := by decide +kernel
theorem d27_31 : decode prog_18_method_4_code 31 = .ok (.getfield 41, 3) := by decide +kernel
theorem d27_34 : decode prog_18_method_4_code 34 = .ok (.invokevirtual 80, 3) := by decide +kernel
theorem d27_37 : decode prog_18_method_4_code 37 = .ok (.ifCond .eq 21, 3) := by decide +kernel
theorem d27_40 : decode prog_18_method_4_code 40 = .ok (.aload_n 0, 1) := by decide +kernel
theorem d27_41 : decode prog_18_method_4_code 41 = .ok (.getfield 43, 3) := by decide +kernel
theorem d27_44 : decode prog_18_method_4_code 44 = .ok (.aload_n 2, 1) := by decide +kernel
theorem d27_45 : decode prog_18_method_4_code 45 = .ok (.getfield 43, 3) := by decide +kernel
theorem d27_48 : decode prog_18_method_4_code 48 = .ok (.invokevirtual 80, 3) := by decide +kernel
theorem d27_51 : decode prog_18_method_4_code 51 = .ok (.ifCond .eq 7, 3) := by decide +kernel
theorem d27_54 : decode prog_18_method_4_code 54 = .ok (.iconst 1, 1) := by decide +kernel
theorem d27_55 : decode prog_18_method_4_code 55 = .ok (.goto 4, 3) := by decide +kernel
theorem d27_58 : decode prog_18_method_4_code 58 = .ok (.iconst 0, 1) := by decide +kernel
theorem d27_59 : decode prog_18_method_4_code 59 = .ok (.ireturn, 1) := by decide +kernel
set_option maxRecDepth 65536 in
set_option maxHeartbeats 40000000 in
theorem c_pe0 (l : Launch) (Z : State) (a0 : Array Value) (G : Gl Z a0) (j : Addr) (h : Heap)  :
    Ctr l Z EL nw (⟨"com/example/pegwright/pegwright/Peg", "equals", "(Ljava/lang/Object;)Z"⟩ : MethodName) prog_18_method_4_code 3 (Option.some Jvm.ClassFile.FieldType.boolean) ({ frames := 0, cells := 0, slots := 0, locals := 0 } : Room) #[.ref j, .null] h [] (PureQ h fun v => v = .int 0) := by
  obtain ⟨hw, hEL, hSA, ⟨zc, SC, hz⟩, ⟨fm, SF, hfm⟩⟩ := id G
  refine Ctr.enter (own := "com/example/pegwright/pegwright/Peg") (nm := "equals") rfl rfl hEL (plainFor_of_name pn_7) #[.val (.ref j), .val (.null), .unset] (fun m => by first | rfl | (simp [entryFrame, mkF, argsToLocals, Value.category, maxLocals]; done)) ?_
  intro p e s m below meth c T X
  refine g_aloadN X d27_0 rfl rfl 1 rfl ?_
  refine g_instNull X d27_1 4 rfl ?_
  refine g_ifYes X d27_4 (XT.ii_eq_t (by decide)) 58 (by decide) (by decide) ?_
  refine g_iconst X (0 : Int32) d27_58 (by decide) 59 rfl ?_
  exact g_retN X (t := .boolean) rfl (by simp) d27_59 _ rfl (by decide) (by decide) ⟨rfl, _, rfl, rfl⟩
set_option maxRecDepth 65536 in
set_option maxHeartbeats 40000000 in
theorem c_pe2 (l : Launch) (Z : State) (a0 : Array Value) (G : Gl Z a0) (j1 j2 x10 x11 x12 x20 x21 x22 : Addr) (us : List Addr) (c10 c11 c12 c20 c21 c22 : List Int32) (h : Heap) (FE1 : Exa Z h j1 "com/example/pegwright/pegwright/Peg") (FF10 : Fld Z h j1 "com/example/pegwright/pegwright/Peg" "project" "Ljava/lang/String;" (.ref x10)) (FF11 : Fld Z h j1 "com/example/pegwright/pegwright/Peg" "element" "Ljava/lang/String;" (.ref x11)) (FF12 : Fld Z h j1 "com/example/pegwright/pegwright/Peg" "activity" "Ljava/lang/String;" (.ref x12)) (SS10 : Str Z h us x10 c10) (SS11 : Str Z h us x11 c11) (SS12 : Str Z h us x12 c12) (FE2 : Exa Z h j2 "com/example/pegwright/pegwright/Peg") (FF20 : Fld Z h j2 "com/example/pegwright/pegwright/Peg" "project" "Ljava/lang/String;" (.ref x20)) (FF21 : Fld Z h j2 "com/example/pegwright/pegwright/Peg" "element" "Ljava/lang/String;" (.ref x21)) (FF22 : Fld Z h j2 "com/example/pegwright/pegwright/Peg" "activity" "Ljava/lang/String;" (.ref x22)) (SS20 : Str Z h us x20 c20) (SS21 : Str Z h us x21 c21) (SS22 : Str Z h us x22 c22) :
    Ctr l Z EL nw (⟨"com/example/pegwright/pegwright/Peg", "equals", "(Ljava/lang/Object;)Z"⟩ : MethodName) prog_18_method_4_code 3 (Option.some Jvm.ClassFile.FieldType.boolean) ({ frames := 2, cells := 0, slots := 0, locals := 28 } : Room) #[.ref j1, .ref j2] h [] (PureQ h fun v => v = .int (if c10 = c20 ∧ c11 = c21 ∧ c12 = c22 then 1 else 0)) := by
  obtain ⟨hw, hEL, hSA, ⟨zc, SC, hz⟩, ⟨fm, SF, hfm⟩⟩ := id G
  refine Ctr.enter (own := "com/example/pegwright/pegwright/Peg") (nm := "equals") rfl rfl hEL (plainFor_of_name pn_7) #[.val (.ref j1), .val (.ref j2), .unset] (fun m => by first | rfl | (simp [entryFrame, mkF, argsToLocals, Value.category, maxLocals]; done)) ?_
  intro p e s m below meth c T X
  refine g_aloadN X d27_0 rfl rfl 1 rfl ?_
  refine g_instY X (hw _ (List.mem_of_getElem? (i := 162) rfl)) (Ins.self FE2) d27_1 4 rfl ?_
  intro T1 X2
  refine g_ifNo X2 d27_4 (XT.ii_eq_f (by decide)) 7 rfl ?_
  refine g_aloadN X2 d27_7 rfl rfl 8 rfl ?_
  refine g_cast X2 (hw _ (List.mem_of_getElem? (i := 162) rfl)) (Ins.self FE2) d27_8 11 rfl ?_
  intro T3 X4
  refine g_astoreN X4 d27_11 rfl (Ls' := #[.val (.ref j1), .val (.ref j2), .val (.ref j2)]) rfl 12 rfl ?_
  refine g_aloadN X4 d27_12 rfl rfl 13 rfl ?_
  refine g_getF X4 (Or.inl (hw _ (List.mem_of_getElem? (i := 105) rfl))) (host := "") Via.refl FF10 d27_13 16 rfl ?_
  intro T5 X6
  refine g_aloadN X6 d27_16 rfl rfl 17 rfl ?_
  refine g_getF X6 (Or.inl (hw _ (List.mem_of_getElem? (i := 105) rfl))) (host := "") Via.refl FF20 d27_17 20 rfl ?_
  intro T7 X8
  obtain ⟨t9, kb10, e11, f12, f13, kc14, b15, l16, n17⟩ := id SS10
  obtain ⟨t18, kb19, e20, f21, f22, kc23, b24, l25, n26⟩ := id SS20
  refine g_callVp X8 (hw _ (List.mem_of_getElem? (i := 164) rfl)) (hw _ (List.mem_of_getElem? (i := 149) rfl)) (hw _ (List.mem_of_getElem? (i := 151) rfl)) (hw _ (List.mem_of_getElem? (i := 150) rfl)) (hw _ (List.mem_of_getElem? (i := 15) rfl)) (hw _ (List.mem_of_getElem? (i := 152) rfl)) (nfSel (hw _ (List.mem_of_getElem? (i := 151) rfl))) (by decide) e11 (c_seq l Z a0 G x10 x20 t9 t18 kb10 kb19 c10 c20 (str_inj SS10 SS20) h e11 f12 f13 kc14 b15 l16 e20 f21 f22 kc23 b24 l25) (by simp) (argsL := [.ref x20]) (rest := []) pd_12 rfl rfl rfl rfl 0 (Nat.le_of_eq rfl) (by decide) (by decide) (ck := 0) rfl (cs := 0) rfl (by decide) (by decide) d27_20 23 rfl ?_
  intro w29 T27 X28 hq30
  subst hq30
  by_cases hb23 : (if c10 = c20 then (1 : Int32) else 0) = (0 : Int32)
  · refine g_ifYes X28 d27_23 (XT.ii_eq_t hb23) 58 (by decide) (by decide) ?_
    refine g_iconst X28 (0 : Int32) d27_58 (by decide) 59 rfl ?_
    exact g_retN X28 (t := .boolean) rfl (by simp) d27_59 _ rfl (by decide) (by decide) ⟨rfl, _, rfl, (by by_cases q1 : c10 = c20 <;> by_cases q2 : c11 = c21 <;> by_cases q3 : c12 = c22 <;> simp [q1, q2, q3] at hb23 ⊢ <;> rfl)⟩
  · refine g_ifNo X28 d27_23 (XT.ii_eq_f hb23) 26 rfl ?_
    refine g_aloadN X28 d27_26 rfl rfl 27 rfl ?_
    refine g_getF X28 (Or.inl (hw _ (List.mem_of_getElem? (i := 107) rfl))) (host := "") Via.refl FF11 d27_27 30 rfl ?_
    intro T31 X32
    refine g_aloadN X32 d27_30 rfl rfl 31 rfl ?_
    refine g_getF X32 (Or.inl (hw _ (List.mem_of_getElem? (i := 107) rfl))) (host := "") Via.refl FF21 d27_31 34 rfl ?_
    intro T33 X34
    obtain ⟨t35, kb36, e37, f38, f39, kc40, b41, l42, n43⟩ := id SS11
    obtain ⟨t44, kb45, e46, f47, f48, kc49, b50, l51, n52⟩ := id SS21
    refine g_callVp X34 (hw _ (List.mem_of_getElem? (i := 164) rfl)) (hw _ (List.mem_of_getElem? (i := 149) rfl)) (hw _ (List.mem_of_getElem? (i := 151) rfl)) (hw _ (List.mem_of_getElem? (i := 150) rfl)) (hw _ (List.mem_of_getElem? (i := 15) rfl)) (hw _ (List.mem_of_getElem? (i := 152) rfl)) (nfSel (hw _ (List.mem_of_getElem? (i := 151) rfl))) (by decide) e37 (c_seq l Z a0 G x11 x21 t35 t44 kb36 kb45 c11 c21 (str_inj SS11 SS21) h e37 f38 f39 kc40 b41 l42 e46 f47 f48 kc49 b50 l51) (by simp) (argsL := [.ref x21]) (rest := []) pd_12 rfl rfl rfl rfl 0 (Nat.le_of_eq rfl) (by decide) (by decide) (ck := 0) rfl (cs := 0) rfl (by decide) (by decide) d27_34 37 rfl ?_
    intro w55 T53 X54 hq56
    subst hq56
    by_cases hb37 : (if c11 = c21 then (1 : Int32) else 0) = (0 : Int32)
    · refine g_ifYes X54 d27_37 (XT.ii_eq_t hb37) 58 (by decide) (by decide) ?_
      refine g_iconst X54 (0 : Int32) d27_58 (by decide) 59 rfl ?_
      exact g_retN X54 (t := .boolean) rfl (by simp) d27_59 _ rfl (by decide) (by decide) ⟨rfl, _, rfl, (by by_cases q1 : c10 = c20 <;> by_cases q2 : c11 = c21 <;> by_cases q3 : c12 = c22 <;> simp [q1, q2, q3] at hb23 hb37 ⊢ <;> rfl)⟩
    · refine g_ifNo X54 d27_37 (XT.ii_eq_f hb37) 40 rfl ?_
      refine g_aloadN X54 d27_40 rfl rfl 41 rfl ?_
      refine g_getF X54 (Or.inl (hw _ (List.mem_of_getElem? (i := 109) rfl))) (host := "") Via.refl FF12 d27_41 44 rfl ?_
      intro T57 X58
      refine g_aloadN X58 d27_44 rfl rfl 45 rfl ?_
      refine g_getF X58 (Or.inl (hw _ (List.mem_of_getElem? (i := 109) rfl))) (host := "") Via.refl FF22 d27_45 48 rfl ?_
      intro T59 X60
      obtain ⟨t61, kb62, e63, f64, f65, kc66, b67, l68, n69⟩ := id SS12
      obtain ⟨t70, kb71, e72, f73, f74, kc75, b76, l77, n78⟩ := id SS22
      refine g_callVp X60 (hw _ (List.mem_of_getElem? (i := 164) rfl)) (hw _ (List.mem_of_getElem? (i := 149) rfl)) (hw _ (List.mem_of_getElem? (i := 151) rfl)) (hw _ (List.mem_of_getElem? (i := 150) rfl)) (hw _ (List.mem_of_getElem? (i := 15) rfl)) (hw _ (List.mem_of_getElem? (i := 152) rfl)) (nfSel (hw _ (List.mem_of_getElem? (i := 151) rfl))) (by decide) e63 (c_seq l Z a0 G x12 x22 t61 t70 kb62 kb71 c12 c22 (str_inj SS12 SS22) h e63 f64 f65 kc66 b67 l68 e72 f73 f74 kc75 b76 l77) (by simp) (argsL := [.ref x22]) (rest := []) pd_12 rfl rfl rfl rfl 0 (Nat.le_of_eq rfl) (by decide) (by decide) (ck := 0) rfl (cs := 0) rfl (by decide) (by decide) d27_48 51 rfl ?_
      intro w81 T79 X80 hq82
      subst hq82
      by_cases hb51 : (if c12 = c22 then (1 : Int32) else 0) = (0 : Int32)
      · refine g_ifYes X80 d27_51 (XT.ii_eq_t hb51) 58 (by decide) (by decide) ?_
        refine g_iconst X80 (0 : Int32) d27_58 (by decide) 59 rfl ?_
        exact g_retN X80 (t := .boolean) rfl (by simp) d27_59 _ rfl (by decide) (by decide) ⟨rfl, _, rfl, (by by_cases q1 : c10 = c20 <;> by_cases q2 : c11 = c21 <;> by_cases q3 : c12 = c22 <;> simp [q1, q2, q3] at hb23 hb37 hb51 ⊢ <;> rfl)⟩
      · refine g_ifNo X80 d27_51 (XT.ii_eq_f hb51) 54 rfl ?_
        refine g_iconst X80 (1 : Int32) d27_54 (by decide) 55 rfl ?_
        refine g_goto X80 d27_55 59 (by decide) (by decide) ?_
        exact g_retN X80 (t := .boolean) rfl (by simp) d27_59 _ rfl (by decide) (by decide) ⟨rfl, _, rfl, (by by_cases q1 : c10 = c20 <;> by_cases q2 : c11 = c21 <;> by_cases q3 : c12 = c22 <;> simp [q1, q2, q3] at hb23 hb37 hb51 ⊢ <;> rfl)⟩
def len012 (n : Int32) : Prop := n = 0 ∨ n = 1 ∨ n = 2
theorem l3_tab : ∀ k : Fin 256, (UInt32.ofNat k.val).toInt32 % 3 = 0 ∨ (UInt32.ofNat k.val).toInt32 % 3 = 1 ∨ (UInt32.ofNat k.val).toInt32 % 3 = 2 := by decide +kernel
theorem l3 (x : Int32) : len012 (XT.ushr x 24 % 3) := by
  have hlt : (x.toUInt32 >>> ((24 : Int32) &&& 31).toUInt32).toNat < 256 := by
    have e : ((24 : Int32) &&& 31).toUInt32 = 24 := by decide
    rw [e, UInt32.toNat_shiftRight]
    have := x.toUInt32.toNat_lt
    simp only [show (24 : UInt32).toNat % 32 = 24 from by decide, Nat.shiftRight_eq_div_pow]; omega
  have e2 : XT.ushr x 24 = (UInt32.ofNat (x.toUInt32 >>> ((24 : Int32) &&& 31).toUInt32).toNat).toInt32 := by
    rw [UInt32.ofNat_toNat]; rfl
  rw [e2]; exact l3_tab ⟨_, hlt⟩
def mkJ (n c d : Int32) : List Int32 := if n = 0 then [] else if n = 1 then [c] else [c, d]
theorem same_key {la a1 a2 lb b1 b2 : Int32} (hp : len012 la) (hq : len012 lb) : mkJ la a1 a2 = mkJ lb b1 b2 ↔ (la = lb ∧ (la < 1 ∨ a1 = b1) ∧ (la < 2 ∨ a2 = b2)) := by
  have l01 : ((0 : Int32) < 1) = True := by decide
  have l02 : ((0 : Int32) < 2) = True := by decide
  have l11 : ((1 : Int32) < 1) = False := by decide
  have l12 : ((1 : Int32) < 2) = True := by decide
  have l21 : ((2 : Int32) < 1) = False := by decide
  have l22 : ((2 : Int32) < 2) = False := by decide
  unfold mkJ
  rcases hp with rfl | rfl | rfl <;> rcases hq with rfl | rfl | rfl <;> simp [l01, l02, l11, l12, l21, l22]
theorem if1 {P : Prop} [Decidable P] (h : ¬ (if P then (1 : Int32) else 0) = 0) : (if P then (1 : Int32) else 0) = 1 := by by_cases q : P <;> simp [q] at h ⊢
theorem if0 {P : Prop} [Decidable P] (h : (if P then (1 : Int32) else 0) = 0) : ¬ P := by by_cases q : P <;> simp [q] at h ⊢
theorem ifn {P : Prop} [Decidable P] (h : ¬ (if P then (1 : Int32) else 0) = 0) : P := by by_cases q : P <;> simp [q] at h ⊢
theorem if_iff {P Q : Prop} [Decidable P] [Decidable Q] (h : P ↔ Q) : (if P then (1 : Int32) else 0) = if Q then 1 else 0 := by
  by_cases q : P
  · rw [if_pos q, if_pos (h.mp q)]
  · rw [if_neg q, if_neg (fun r => q (h.mpr r))]
def g1 (v : Int32) : Int32 := if v < 32 then v + 32 else if ¬ v < 127 ∧ v < 160 then v + 33 else v
def okC (c : Int32) : Prop := (¬ c < 0 ∧ ¬ (255 : Int32) < c) ∧ isoI c = 0
def okS (c : Int32) : Prop := okC c ∧ ¬ c = 47
theorem g1_tab : ∀ k : Fin 256, (¬ g1 (Int32.ofNat k.val) < 0 ∧ ¬ (255 : Int32) < g1 (Int32.ofNat k.val)) ∧ isoI (g1 (Int32.ofNat k.val)) = 0 := by decide +kernel
theorem mkJ_iso {n c d : Int32} (h1 : isoI c = 0) (h2 : isoI d = 0) : ∀ x ∈ mkJ n c d, isoI x = 0 := by
  unfold mkJ
  intro x hx
  split at hx
  · simp at hx
  · split at hx
    · simp at hx; subst hx; exact h1
    · simp at hx; rcases hx with rfl | rfl <;> assumption
theorem mkJ_ns {n c d : Int32} (h1 : ¬ c = 47) (h2 : ¬ d = 47) : ∀ x ∈ mkJ n c d, ¬ x = 47 := by
  unfold mkJ
  intro x hx
  split at hx
  · simp at hx
  · split at hx
    · simp at hx; subst hx; exact h1
    · simp at hx; rcases hx with rfl | rfl <;> assumption
theorem mkJ_len (n c d : Int32) : (mkJ n c d).length ≤ 3000 := by
  unfold mkJ
  split
  · simp
  · split <;> simp
theorem l1 (x : Int32) : len012 (x &&& 1) := by
  have h := c_and x 1 (by decide)
  have e1 : (1 : Int32).toInt = 1 := by decide
  by_cases q0 : (x &&& 1).toInt = 0
  · exact Or.inl (Int32.toInt_inj.mp (by rw [q0]; decide))
  · exact Or.inr (Or.inl (Int32.toInt_inj.mp (by rw [e1]; omega)))
theorem lt2 (x : Int32) (h2 : ¬ x &&& 3 = 2) (h3 : ¬ x &&& 3 = 3) : x &&& 3 < 2 := by
  have h := c_and x 3 (by decide)
  have e2 : (2 : Int32).toInt = 2 := by decide
  have e3 : (3 : Int32).toInt = 3 := by decide
  have n2 : ¬ (x &&& 3).toInt = 2 := fun q => h2 (Int32.toInt_inj.mp (by rw [q]; decide))
  have n3 : ¬ (x &&& 3).toInt = 3 := fun q => h3 (Int32.toInt_inj.mp (by rw [q]; decide))
  rw [Int32.lt_iff_toInt_lt, e2]; omega
def chJ (x : Int32) : Int32 := g1 (x &&& 255)
theorem chJ_ok (x : Int32) : okC (chJ x) := by
  unfold chJ okC
  obtain ⟨k, e⟩ := fin256p (and255 x)
  rw [e]; exact g1_tab k
def pcJ (x : Int32) : Int32 := if chJ x = 47 then 46 else chJ x
theorem pcJ_ok (x : Int32) : okS (pcJ x) := by
  unfold pcJ
  split
  · exact ⟨⟨⟨by decide, by decide⟩, by decide⟩, by decide⟩
  · rename_i h; exact ⟨chJ_ok x, h⟩
theorem okS.c {x : Int32} (h : okS x) : okC x := h.1
theorem d1_0 : decode method_2_code 0 = .ok (.iload_n 0, 1) := by decide +kernel
theorem d1_1 : decode method_2_code 1 = .ok (.sipush 255, 3) := by decide +kernel
theorem d1_4 : decode method_2_code 4 = .ok (.iand, 1) := by decide +kernel
theorem d1_5 : decode method_2_code 5 = .ok (.istore_n 1, 1) := by decide +kernel
theorem d1_6 : decode method_2_code 6 = .ok (.iload_n 1, 1) := by decide +kernel
theorem d1_7 : decode method_2_code 7 = .ok (.bipush 32, 2) := by decide +kernel
theorem d1_9 : decode method_2_code 9 = .ok (.if_icmp .ge 9, 3) := by decide +kernel
theorem d1_12 : decode method_2_code 12 = .ok (.iinc 1 32, 3) := by decide +kernel
theorem d1_15 : decode method_2_code 15 = .ok (.goto 19, 3) := by decide +kernel
theorem d1_18 : decode method_2_code 18 = .ok (.iload_n 1, 1) := by decide +kernel
theorem d1_19 : decode method_2_code 19 = .ok (.bipush 127, 2) := by decide +kernel
theorem d1_21 : decode method_2_code 21 = .ok (.if_icmp .lt 13, 3) := by decide +kernel
theorem d1_24 : decode method_2_code 24 = .ok (.iload_n 1, 1) := by decide +kernel
theorem d1_25 : decode method_2_code 25 = .ok (.sipush 160, 3) := by decide +kernel
theorem d1_28 : decode method_2_code 28 = .ok (.if_icmp .ge 6, 3) := by decide +kernel
theorem d1_31 : decode method_2_code 31 = .ok (.iinc 1 33, 3) := by decide +kernel
theorem d1_34 : decode method_2_code 34 = .ok (.iload_n 1, 1) := by decide +kernel
theorem d1_35 : decode method_2_code 35 = .ok (.i2c, 1) := by decide +kernel
theorem d1_36 : decode method_2_code 36 = .ok (.ireturn, 1) := by decide +kernel
theorem pn_8 : plainName "com/example/pegwright/pegwright/KeyEqualsPinLaw" = true := by first | (simp [plainName, overriddenIn]; done) | decide +kernel
set_option maxRecDepth 65536 in
set_option maxHeartbeats 40000000 in
theorem c_ch (l : Launch) (Z : State) (a0 : Array Value) (G : Gl Z a0) (x0 : Int32) (h : Heap)  :
    Ctr l Z EL nw (⟨"com/example/pegwright/pegwright/KeyEqualsPinLaw", "ch", "(I)C"⟩ : MethodName) method_2_code 2 (Option.some Jvm.ClassFile.FieldType.char) ({ frames := 0, cells := 0, slots := 0, locals := 0 } : Room) #[.int x0] h [] (PureQ h fun v => v = .int (chJ x0)) := by
  obtain ⟨hw, hEL, hSA, ⟨zc, SC, hz⟩, ⟨fm, SF, hfm⟩⟩ := id G
  refine Ctr.enter (own := "com/example/pegwright/pegwright/KeyEqualsPinLaw") (nm := "ch") rfl rfl hEL (plainFor_of_name pn_8) #[.val (.int x0), .unset] (fun m => by first | rfl | (simp [entryFrame, mkF, argsToLocals, Value.category, maxLocals]; done)) ?_
  intro p e s m below meth c T X
  refine g_iloadN X d1_0 rfl 1 rfl ?_
  refine g_sipush X (255 : Int32) d1_1 (by decide) 4 rfl ?_
  refine g_iand X d1_4 _ rfl 5 rfl ?_
  refine g_istoreN X d1_5 (Ls' := #[.val (.int x0), .val (.int (x0 &&& (255 : Int32)))]) rfl 6 rfl ?_
  refine g_iloadN X d1_6 rfl 7 rfl ?_
  refine g_bipush X (32 : Int32) d1_7 (by decide) 9 rfl ?_
  by_cases hb9 : (x0 &&& (255 : Int32)) < (32 : Int32)
  · refine g_icmpNo X d1_9 (XT.ii_ge_f hb9) 12 rfl ?_
    refine g_iinc X d1_12 rfl ((x0 &&& (255 : Int32)) + (32 : Int32)) rfl (Ls' := #[.val (.int x0), .val (.int ((x0 &&& (255 : Int32)) + (32 : Int32)))]) rfl 15 rfl ?_
    refine g_goto X d1_15 34 (by decide) (by decide) ?_
    refine g_iloadN X d1_34 rfl 35 rfl ?_
    refine g_i2c X d1_35 (chJ x0) (by rw [show (x0 &&& (255 : Int32)) + (32 : Int32) = chJ x0 from by simp [chJ, g1, hb9]]; exact nar255 (chJ_ok _).1) 36 rfl ?_
    exact g_retN X (t := .char) rfl (by simp) d1_36 _ (nar255 ((chJ_ok _).1)) (by decide) (by decide) ⟨rfl, _, rfl, rfl⟩
  · refine g_icmpYes X d1_9 (XT.ii_ge_t hb9) 18 (by decide) (by decide) ?_
    refine g_iloadN X d1_18 rfl 19 rfl ?_
    refine g_bipush X (127 : Int32) d1_19 (by decide) 21 rfl ?_
    by_cases hb21 : (x0 &&& (255 : Int32)) < (127 : Int32)
    · refine g_icmpYes X d1_21 (XT.ii_lt_t hb21) 34 (by decide) (by decide) ?_
      refine g_iloadN X d1_34 rfl 35 rfl ?_
      refine g_i2c X d1_35 (chJ x0) (by rw [show x0 &&& (255 : Int32) = chJ x0 from by simp [chJ, g1, hb21, hb9]]; exact nar255 (chJ_ok _).1) 36 rfl ?_
      exact g_retN X (t := .char) rfl (by simp) d1_36 _ (nar255 ((chJ_ok _).1)) (by decide) (by decide) ⟨rfl, _, rfl, rfl⟩
    · refine g_icmpNo X d1_21 (XT.ii_lt_f hb21) 24 rfl ?_
      refine g_iloadN X d1_24 rfl 25 rfl ?_
      refine g_sipush X (160 : Int32) d1_25 (by decide) 28 rfl ?_
      by_cases hb28 : (x0 &&& (255 : Int32)) < (160 : Int32)
      · refine g_icmpNo X d1_28 (XT.ii_ge_f hb28) 31 rfl ?_
        refine g_iinc X d1_31 rfl ((x0 &&& (255 : Int32)) + (33 : Int32)) rfl (Ls' := #[.val (.int x0), .val (.int ((x0 &&& (255 : Int32)) + (33 : Int32)))]) rfl 34 rfl ?_
        refine g_iloadN X d1_34 rfl 35 rfl ?_
        refine g_i2c X d1_35 (chJ x0) (by rw [show (x0 &&& (255 : Int32)) + (33 : Int32) = chJ x0 from by simp [chJ, g1, hb21, hb28, hb9]]; exact nar255 (chJ_ok _).1) 36 rfl ?_
        exact g_retN X (t := .char) rfl (by simp) d1_36 _ (nar255 ((chJ_ok _).1)) (by decide) (by decide) ⟨rfl, _, rfl, rfl⟩
      · refine g_icmpYes X d1_28 (XT.ii_ge_t hb28) 34 (by decide) (by decide) ?_
        refine g_iloadN X d1_34 rfl 35 rfl ?_
        refine g_i2c X d1_35 (chJ x0) (by rw [show x0 &&& (255 : Int32) = chJ x0 from by simp [chJ, g1, hb21, hb28, hb9]]; exact nar255 (chJ_ok _).1) 36 rfl ?_
        exact g_retN X (t := .char) rfl (by simp) d1_36 _ (nar255 ((chJ_ok _).1)) (by decide) (by decide) ⟨rfl, _, rfl, rfl⟩
theorem d2_0 : decode method_3_code 0 = .ok (.iload_n 0, 1) := by decide +kernel
theorem d2_1 : decode method_3_code 1 = .ok (.invokestatic 7, 3) := by decide +kernel
theorem d2_4 : decode method_3_code 4 = .ok (.istore_n 1, 1) := by decide +kernel
theorem d2_5 : decode method_3_code 5 = .ok (.iload_n 1, 1) := by decide +kernel
theorem d2_6 : decode method_3_code 6 = .ok (.bipush 47, 2) := by decide +kernel
theorem d2_8 : decode method_3_code 8 = .ok (.if_icmp .ne 8, 3) := by decide +kernel
theorem d2_11 : decode method_3_code 11 = .ok (.bipush 46, 2) := by decide +kernel
theorem d2_13 : decode method_3_code 13 = .ok (.goto 4, 3) := by decide +kernel
theorem d2_16 : decode method_3_code 16 = .ok (.iload_n 1, 1) := by decide +kernel
theorem d2_17 : decode method_3_code 17 = .ok (.ireturn, 1) := by decide +kernel
set_option maxRecDepth 65536 in
set_option maxHeartbeats 40000000 in
theorem c_pc (l : Launch) (Z : State) (a0 : Array Value) (G : Gl Z a0) (x0 : Int32) (h : Heap)  :
    Ctr l Z EL nw (⟨"com/example/pegwright/pegwright/KeyEqualsPinLaw", "pc", "(I)C"⟩ : MethodName) method_3_code 2 (Option.some Jvm.ClassFile.FieldType.char) ({ frames := 1, cells := 0, slots := 0, locals := 13 } : Room) #[.int x0] h [] (PureQ h fun v => v = .int (pcJ x0)) := by
  obtain ⟨hw, hEL, hSA, ⟨zc, SC, hz⟩, ⟨fm, SF, hfm⟩⟩ := id G
  refine Ctr.enter (own := "com/example/pegwright/pegwright/KeyEqualsPinLaw") (nm := "pc") rfl rfl hEL (plainFor_of_name pn_8) #[.val (.int x0), .unset] (fun m => by first | rfl | (simp [entryFrame, mkF, argsToLocals, Value.category, maxLocals]; done)) ?_
  intro p e s m below meth c T X
  refine g_iloadN X d2_0 rfl 1 rfl ?_
  refine g_callSp X (hw _ (List.mem_of_getElem? (i := 0) rfl)) (hw _ (List.mem_of_getElem? (i := 1) rfl)) (hw _ (List.mem_of_getElem? (i := 2) rfl)) (hw _ (List.mem_of_getElem? (i := 3) rfl)) (by decide) (c_ch l Z a0 G x0 h) (by simp) (argsL := [.int x0]) (rest := []) pd_0 rfl rfl rfl rfl 0 (Nat.le_of_eq rfl) (by decide) (by decide) (ck := 0) rfl (cs := 0) rfl (by decide) (by decide) d2_1 4 rfl ?_
  intro w3 T1 X2 hq4
  subst hq4
  refine g_istoreN X2 d2_4 (Ls' := #[.val (.int x0), .val (.int (chJ x0))]) rfl 5 rfl ?_
  refine g_iloadN X2 d2_5 rfl 6 rfl ?_
  refine g_bipush X2 (47 : Int32) d2_6 (by decide) 8 rfl ?_
  by_cases hb8 : (chJ x0) = (47 : Int32)
  · refine g_icmpNo X2 d2_8 (XT.ii_ne_f hb8) 11 rfl ?_
    refine g_bipush X2 (46 : Int32) d2_11 (by decide) 13 rfl ?_
    refine g_goto X2 d2_13 17 (by decide) (by decide) ?_
    exact g_retN X2 (t := .char) rfl (by simp) d2_17 _ rfl (by decide) (by decide) ⟨rfl, _, rfl, (by simp [pcJ, hb8]; first | done | rfl)⟩
  · refine g_icmpYes X2 d2_8 (XT.ii_ne_t hb8) 16 (by decide) (by decide) ?_
    refine g_iloadN X2 d2_16 rfl 17 rfl ?_
    exact g_retN X2 (t := .char) rfl (by simp) d2_17 _ (nar255 (chJ_ok _).1) (by decide) (by decide) ⟨rfl, _, rfl, (by simp [pcJ, hb8])⟩
theorem d3_0 : decode method_4_code 0 = .ok (.iload_n 0, 1) := by decide +kernel
theorem d3_1 : decode method_4_code 1 = .ok (.ifCond .ne 14, 3) := by decide +kernel
theorem d3_4 : decode method_4_code 4 = .ok (.new 13, 3) := by decide +kernel
theorem d3_7 : decode method_4_code 7 = .ok (.dup, 1) := by decide +kernel
theorem d3_8 : decode method_4_code 8 = .ok (.iconst 0, 1) := by decide +kernel
theorem d3_9 : decode method_4_code 9 = .ok (.newarray .char, 2) := by decide +kernel
theorem d3_11 : decode method_4_code 11 = .ok (.invokespecial 15, 3) := by decide +kernel
theorem d3_14 : decode method_4_code 14 = .ok (.areturn, 1) := by decide +kernel
theorem d3_15 : decode method_4_code 15 = .ok (.iload_n 0, 1) := by decide +kernel
theorem d3_16 : decode method_4_code 16 = .ok (.iconst 1, 1) := by decide +kernel
theorem d3_17 : decode method_4_code 17 = .ok (.if_icmp .ne 20, 3) := by decide +kernel
theorem d3_20 : decode method_4_code 20 = .ok (.iconst 1, 1) := by decide +kernel
theorem d3_21 : decode method_4_code 21 = .ok (.newarray .char, 2) := by decide +kernel
theorem d3_23 : decode method_4_code 23 = .ok (.astore_n 3, 1) := by decide +kernel
theorem d3_24 : decode method_4_code 24 = .ok (.aload_n 3, 1) := by decide +kernel
theorem d3_25 : decode method_4_code 25 = .ok (.iconst 0, 1) := by decide +kernel
theorem d3_26 : decode method_4_code 26 = .ok (.iload_n 1, 1) := by decide +kernel
theorem d3_27 : decode method_4_code 27 = .ok (.castore, 1) := by decide +kernel
theorem d3_28 : decode method_4_code 28 = .ok (.new 13, 3) := by decide +kernel
theorem d3_31 : decode method_4_code 31 = .ok (.dup, 1) := by decide +kernel
theorem d3_32 : decode method_4_code 32 = .ok (.aload_n 3, 1) := by decide +kernel
theorem d3_33 : decode method_4_code 33 = .ok (.invokespecial 15, 3) := by decide +kernel
theorem d3_36 : decode method_4_code 36 = .ok (.areturn, 1) := by decide +kernel
theorem d3_37 : decode method_4_code 37 = .ok (.iconst 2, 1) := by decide +kernel
theorem d3_38 : decode method_4_code 38 = .ok (.newarray .char, 2) := by decide +kernel
theorem d3_40 : decode method_4_code 40 = .ok (.astore_n 3, 1) := by decide +kernel
theorem d3_41 : decode method_4_code 41 = .ok (.aload_n 3, 1) := by decide +kernel
theorem d3_42 : decode method_4_code 42 = .ok (.iconst 0, 1) := by decide +kernel
theorem d3_43 : decode method_4_code 43 = .ok (.iload_n 1, 1) := by decide +kernel
theorem d3_44 : decode method_4_code 44 = .ok (.castore, 1) := by decide +kernel
theorem d3_45 : decode method_4_code 45 = .ok (.aload_n 3, 1) := by decide +kernel
theorem d3_46 : decode method_4_code 46 = .ok (.iconst 1, 1) := by decide +kernel
theorem d3_47 : decode method_4_code 47 = .ok (.iload_n 2, 1) := by decide +kernel
theorem d3_48 : decode method_4_code 48 = .ok (.castore, 1) := by decide +kernel
theorem d3_49 : decode method_4_code 49 = .ok (.new 13, 3) := by decide +kernel
theorem d3_52 : decode method_4_code 52 = .ok (.dup, 1) := by decide +kernel
theorem d3_53 : decode method_4_code 53 = .ok (.aload_n 3, 1) := by decide +kernel
theorem d3_54 : decode method_4_code 54 = .ok (.invokespecial 15, 3) := by decide +kernel
theorem d3_57 : decode method_4_code 57 = .ok (.areturn, 1) := by decide +kernel
set_option maxRecDepth 65536 in
set_option maxHeartbeats 40000000 in
theorem c_mk (l : Launch) (Z : State) (a0 : Array Value) (G : Gl Z a0) (n0 c1 c2 : Int32) (us : List Addr) (h : Heap) (o1 : ¬ c1 < 0 ∧ ¬ (255 : Int32) < c1) (o2 : ¬ c2 < 0 ∧ ¬ (255 : Int32) < c2) :
    Ctr l Z EL nw (⟨"com/example/pegwright/pegwright/KeyEqualsPinLaw", "mk", "(ICC)Ljava/lang/String;"⟩ : MethodName) method_4_code 4 (Option.some (Jvm.ClassFile.FieldType.object "java/lang/String")) ({ frames := 4, cells := 4, slots := 8, locals := 66 } : Room) #[.int n0, .int c1, .int c2] h us (ValQ fun w h' => ∃ a, w = .ref a ∧ Ext h h' ∧ Str Z h' us a (mkJ n0 c1 c2)) := by
  obtain ⟨hw, hEL, hSA, ⟨zc, SC, hz⟩, ⟨fm, SF, hfm⟩⟩ := id G
  refine Ctr.enter (own := "com/example/pegwright/pegwright/KeyEqualsPinLaw") (nm := "mk") rfl rfl hEL (plainFor_of_name pn_8) #[.val (.int n0), .val (.int c1), .val (.int c2), .unset] (fun m => by first | rfl | (simp [entryFrame, mkF, argsToLocals, Value.category, maxLocals]; done)) ?_
  intro p e s m below meth c T X
  refine g_iloadN X d3_0 rfl 1 rfl ?_
  by_cases hb1 : n0 = (0 : Int32)
  · refine g_ifNo X d3_1 (XT.ii_ne_f hb1) 4 rfl ?_
    refine g_new X (hw _ (List.mem_of_getElem? (i := 13) rfl)) (hw _ (List.mem_of_getElem? (i := 14) rfl)) (hw _ (List.mem_of_getElem? (i := 15) rfl)) d3_4 (ck := 1) rfl (cs := 4) rfl (by decide) (by decide) 7 rfl ?_
    intro a1 T2 h3 ea4 X5 E6 A7 D8
    have le_a1 : h.size ≤ a1 := by rw [ea4]; exact (Ext.refl h).1
    have F9 : Fld Z h3 a1 "java/lang/String" "value" "[B" (.null) := D8 (Or.inr (hw _ (List.mem_of_getElem? (i := 29) rfl))) (ty := (.array .byte)) (by decide +kernel)
    have F10 : Fld Z h3 a1 "java/lang/String" "coder" "B" (.int (0 : Int32)) := D8 (Or.inr (hw _ (List.mem_of_getElem? (i := 30) rfl))) (ty := .byte) (by decide +kernel)
    refine g_dup X5 d3_7 rfl 8 rfl ?_
    refine g_iconst X5 (0 : Int32) d3_8 (by decide) 9 rfl ?_
    refine g_newP X5 (hw _ (List.mem_of_getElem? (i := 16) rfl)) d3_9 (by decide) 0 (by decide) (by decide) (ck := 2) rfl (cs := 4) rfl (by decide) (by decide) 11 rfl ?_
    intro a11 T12 h13 kc14 ea15 X16 E17 A18
    have A19 : Arv Z h13 a11 kc14 .char (0 : Int32) [] (.int (0 : Int32)) := A18.pad (fun i => by rcases i with _ | _ | _ | _ | _ | i <;> rfl)
    have le_a11 : h.size ≤ a11 := by rw [ea15]; exact ((Ext.refl h).trans E6).1
    have ne_a1_a11 : a1 ≠ a11 := by rw [ea15]; exact Nat.ne_of_lt A7.lt
    refine g_callIn X16 rfl (hw _ (List.mem_of_getElem? (i := 17) rfl)) (hw _ (List.mem_of_getElem? (i := 18) rfl)) (hw _ (List.mem_of_getElem? (i := 15) rfl)) (hw _ (List.mem_of_getElem? (i := 19) rfl)) (by decide) (c_s3 l Z a0 G a1 a11 kc14 (us) h13 (A7.ext E17) (F9.ext E17) (F10.ext E17) (fun x hx => Nat.ne_of_lt (Nat.lt_of_lt_of_le (X.news x hx) le_a1)) A19) (fun _ hx => List.mem_cons_of_mem _ hx) (argsL := [.ref a11]) (rest := [.ref a1]) pd_25 rfl rfl rfl rfl 1 (Nat.le_of_eq rfl) (by decide) (by decide) (ck := 4) rfl (cs := 8) rfl (by decide) (by decide) d3_11 14 rfl ?_
    intro T20 h23 X21 hq22
    obtain ⟨K24, S25⟩ := hq22
    have X26 := X21.sub (us' := us) (by intro x hx; simp [hx])
    exact g_retA X26 rfl rfl rfl d3_14 (by decide) (by decide) ⟨_, rfl, ⟨a1, rfl, (ext_keep (((Ext.refl h).trans E6).trans E17) K24 (fun x hx => by cases List.mem_singleton.mp hx; exact le_a1)), (by rw [show mkJ n0 c1 c2 = ([] : List Int32) from by simp [mkJ, hb1]]; exact S25)⟩⟩
  · refine g_ifYes X d3_1 (XT.ii_ne_t hb1) 15 (by decide) (by decide) ?_
    refine g_iloadN X d3_15 rfl 16 rfl ?_
    refine g_iconst X (1 : Int32) d3_16 (by decide) 17 rfl ?_
    by_cases hb17 : n0 = (1 : Int32)
    · refine g_icmpNo X d3_17 (XT.ii_ne_f hb17) 20 rfl ?_
      refine g_iconst X (1 : Int32) d3_20 (by decide) 21 rfl ?_
      refine g_newP X (hw _ (List.mem_of_getElem? (i := 16) rfl)) d3_21 (by decide) 1 (by decide) (by decide) (ck := 1) rfl (cs := 1) rfl (by decide) (by decide) 23 rfl ?_
      intro a27 T28 h29 kc30 ea31 X32 E33 A34
      have A35 : Arv Z h29 a27 kc30 .char (1 : Int32) [.int (0 : Int32)] (.int (0 : Int32)) := A34.pad (fun i => by rcases i with _ | _ | _ | _ | _ | i <;> rfl)
      have le_a27 : h.size ≤ a27 := by rw [ea31]; exact (Ext.refl h).1
      refine g_astoreN X32 d3_23 rfl (Ls' := #[.val (.int n0), .val (.int c1), .val (.int c2), .val (.ref a27)]) rfl 24 rfl ?_
      refine g_aloadN X32 d3_24 rfl rfl 25 rfl ?_
      refine g_iconst X32 (0 : Int32) d3_25 (by decide) 26 rfl ?_
      refine g_iloadN X32 d3_26 rfl 27 rfl ?_
      refine g_castore X32 A35 0 (by decide) (by decide) (by decide) (by simp) c1 (nar255 o1) (by simp) d3_27 28 rfl ?_
      intro T36 h37 X38 W39 B41
      have A40 : Arv Z h37 a27 kc30 .char (1 : Int32) [.int c1] (.int (0 : Int32)) := B41
      refine g_new X38 (hw _ (List.mem_of_getElem? (i := 13) rfl)) (hw _ (List.mem_of_getElem? (i := 14) rfl)) (hw _ (List.mem_of_getElem? (i := 15) rfl)) d3_28 (ck := 2) rfl (cs := 5) rfl (by decide) (by decide) 31 rfl ?_
      intro a42 T43 h44 ea45 X46 E47 A48 D49
      have le_a42 : h.size ≤ a42 := by rw [ea45]; exact (ext_wr ((Ext.refl h).trans E33) W39 le_a27).1
      have ne_a27_a42 : a27 ≠ a42 := by rw [ea45]; exact Nat.ne_of_lt A40.lt
      have F50 : Fld Z h44 a42 "java/lang/String" "value" "[B" (.null) := D49 (Or.inr (hw _ (List.mem_of_getElem? (i := 29) rfl))) (ty := (.array .byte)) (by decide +kernel)
      have F51 : Fld Z h44 a42 "java/lang/String" "coder" "B" (.int (0 : Int32)) := D49 (Or.inr (hw _ (List.mem_of_getElem? (i := 30) rfl))) (ty := .byte) (by decide +kernel)
      refine g_dup X46 d3_31 rfl 32 rfl ?_
      refine g_aloadN X46 d3_32 rfl rfl 33 rfl ?_
      refine g_strNew X46 (cs := [c1]) (hw _ (List.mem_of_getElem? (i := 17) rfl)) (hw _ (List.mem_of_getElem? (i := 18) rfl)) (hw _ (List.mem_of_getElem? (i := 19) rfl)) (hwsV hw) (hw _ (List.mem_of_getElem? (i := 14) rfl)) (SC.ext X46.old) hz A48 F50 F51 (A40.ext E47) rfl 1 rfl rfl (by decide) (by decide) (by intro c hc; simp only [List.mem_cons, List.not_mem_nil, or_false] at hc; rcases hc with hc <;> rw [hc] <;> assumption) (by simp) rfl 1 (Nat.le_of_eq rfl) (by decide) (by decide) (ck := 3) rfl (cs' := 6) rfl (by decide) (by decide) d3_33 36 rfl ?_
      intro T52 h53 X54 K55 Q56
      have S57 : Str Z h53 (us) a42 [c1] := str_of Q56 X.news le_a42 ((ext_wr ((Ext.refl h).trans E33) W39 le_a27).trans E47).1
      have X58 := X54.sub (us' := us) (by intro x hx; simp [hx])
      exact g_retA X58 rfl rfl rfl d3_36 (by decide) (by decide) ⟨_, rfl, ⟨a42, rfl, (ext_keep ((ext_wr ((Ext.refl h).trans E33) W39 le_a27).trans E47) K55 (fun x hx => by cases List.mem_singleton.mp hx; exact le_a42)), (by rw [show mkJ n0 c1 c2 = [c1] from by simp [mkJ, hb1, hb17]]; exact S57)⟩⟩
    · refine g_icmpYes X d3_17 (XT.ii_ne_t hb17) 37 (by decide) (by decide) ?_
      refine g_iconst X (2 : Int32) d3_37 (by decide) 38 rfl ?_
      refine g_newP X (hw _ (List.mem_of_getElem? (i := 16) rfl)) d3_38 (by decide) 2 (by decide) (by decide) (ck := 1) rfl (cs := 2) rfl (by decide) (by decide) 40 rfl ?_
      intro a59 T60 h61 kc62 ea63 X64 E65 A66
      have A67 : Arv Z h61 a59 kc62 .char (2 : Int32) [.int (0 : Int32), .int (0 : Int32)] (.int (0 : Int32)) := A66.pad (fun i => by rcases i with _ | _ | _ | _ | _ | i <;> rfl)
      have le_a59 : h.size ≤ a59 := by rw [ea63]; exact (Ext.refl h).1
      refine g_astoreN X64 d3_40 rfl (Ls' := #[.val (.int n0), .val (.int c1), .val (.int c2), .val (.ref a59)]) rfl 41 rfl ?_
      refine g_aloadN X64 d3_41 rfl rfl 42 rfl ?_
      refine g_iconst X64 (0 : Int32) d3_42 (by decide) 43 rfl ?_
      refine g_iloadN X64 d3_43 rfl 44 rfl ?_
      refine g_castore X64 A67 0 (by decide) (by decide) (by decide) (by simp) c1 (nar255 o1) (by simp) d3_44 45 rfl ?_
      intro T68 h69 X70 W71 B73
      have A72 : Arv Z h69 a59 kc62 .char (2 : Int32) [.int c1, .int (0 : Int32)] (.int (0 : Int32)) := B73
      refine g_aloadN X70 d3_45 rfl rfl 46 rfl ?_
      refine g_iconst X70 (1 : Int32) d3_46 (by decide) 47 rfl ?_
      refine g_iloadN X70 d3_47 rfl 48 rfl ?_
      refine g_castore X70 A72 1 (by decide) (by decide) (by decide) (by simp) c2 (nar255 o2) (by simp) d3_48 49 rfl ?_
      intro T74 h75 X76 W77 B79
      have A78 : Arv Z h75 a59 kc62 .char (2 : Int32) [.int c1, .int c2] (.int (0 : Int32)) := B79
      refine g_new X76 (hw _ (List.mem_of_getElem? (i := 13) rfl)) (hw _ (List.mem_of_getElem? (i := 14) rfl)) (hw _ (List.mem_of_getElem? (i := 15) rfl)) d3_49 (ck := 2) rfl (cs := 6) rfl (by decide) (by decide) 52 rfl ?_
      intro a80 T81 h82 ea83 X84 E85 A86 D87
      have le_a80 : h.size ≤ a80 := by rw [ea83]; exact (ext_wr (ext_wr ((Ext.refl h).trans E65) W71 le_a59) W77 le_a59).1
      have ne_a59_a80 : a59 ≠ a80 := by rw [ea83]; exact Nat.ne_of_lt A78.lt
      have F88 : Fld Z h82 a80 "java/lang/String" "value" "[B" (.null) := D87 (Or.inr (hw _ (List.mem_of_getElem? (i := 29) rfl))) (ty := (.array .byte)) (by decide +kernel)
      have F89 : Fld Z h82 a80 "java/lang/String" "coder" "B" (.int (0 : Int32)) := D87 (Or.inr (hw _ (List.mem_of_getElem? (i := 30) rfl))) (ty := .byte) (by decide +kernel)
      refine g_dup X84 d3_52 rfl 53 rfl ?_
      refine g_aloadN X84 d3_53 rfl rfl 54 rfl ?_
      refine g_strNew X84 (cs := [c1, c2]) (hw _ (List.mem_of_getElem? (i := 17) rfl)) (hw _ (List.mem_of_getElem? (i := 18) rfl)) (hw _ (List.mem_of_getElem? (i := 19) rfl)) (hwsV hw) (hw _ (List.mem_of_getElem? (i := 14) rfl)) (SC.ext X84.old) hz A86 F88 F89 (A78.ext E85) rfl 2 rfl rfl (by decide) (by decide) (by intro c hc; simp only [List.mem_cons, List.not_mem_nil, or_false] at hc; rcases hc with hc | hc <;> rw [hc] <;> assumption) (by simp) rfl 1 (Nat.le_of_eq rfl) (by decide) (by decide) (ck := 3) rfl (cs' := 8) rfl (by decide) (by decide) d3_54 57 rfl ?_
      intro T90 h91 X92 K93 Q94
      have S95 : Str Z h91 (us) a80 [c1, c2] := str_of Q94 X.news le_a80 ((ext_wr (ext_wr ((Ext.refl h).trans E65) W71 le_a59) W77 le_a59).trans E85).1
      have X96 := X92.sub (us' := us) (by intro x hx; simp [hx])
      exact g_retA X96 rfl rfl rfl d3_57 (by decide) (by decide) ⟨_, rfl, ⟨a80, rfl, (ext_keep ((ext_wr (ext_wr ((Ext.refl h).trans E65) W71 le_a59) W77 le_a59).trans E85) K93 (fun x hx => by cases List.mem_singleton.mp hx; exact le_a80)), (by rw [show mkJ n0 c1 c2 = [c1, c2] from by simp [mkJ, hb1, hb17]]; exact S95)⟩⟩
theorem d23_0 : decode method_5_code 0 = .ok (.iload_n 0, 1) := by decide +kernel
theorem d23_1 : decode method_5_code 1 = .ok (.iload_n 3, 1) := by decide +kernel
theorem d23_2 : decode method_5_code 2 = .ok (.if_icmp .ne 29, 3) := by decide +kernel
theorem d23_5 : decode method_5_code 5 = .ok (.iload_n 0, 1) := by decide +kernel
theorem d23_6 : decode method_5_code 6 = .ok (.iconst 1, 1) := by decide +kernel
theorem d23_7 : decode method_5_code 7 = .ok (.if_icmp .lt 9, 3) := by decide +kernel
theorem d23_10 : decode method_5_code 10 = .ok (.iload_n 1, 1) := by decide +kernel
theorem d23_11 : decode method_5_code 11 = .ok (.iload 4, 2) := by decide +kernel
theorem d23_13 : decode method_5_code 13 = .ok (.if_icmp .ne 18, 3) := by decide +kernel
theorem d23_16 : decode method_5_code 16 = .ok (.iload_n 0, 1) := by decide +kernel
theorem d23_17 : decode method_5_code 17 = .ok (.iconst 2, 1) := by decide +kernel
theorem d23_18 : decode method_5_code 18 = .ok (.if_icmp .lt 9, 3) := by decide +kernel
theorem d23_21 : decode method_5_code 21 = .ok (.iload_n 2, 1) := by decide +kernel
theorem d23_22 : decode method_5_code 22 = .ok (.iload 5, 2) := by decide +kernel
theorem d23_24 : decode method_5_code 24 = .ok (.if_icmp .ne 7, 3) := by decide +kernel
theorem d23_27 : decode method_5_code 27 = .ok (.iconst 1, 1) := by decide +kernel
theorem d23_28 : decode method_5_code 28 = .ok (.goto 4, 3) := by decide +kernel
theorem d23_31 : decode method_5_code 31 = .ok (.iconst 0, 1) := by decide +kernel
theorem d23_32 : decode method_5_code 32 = .ok (.ireturn, 1) := by decide +kernel
set_option maxRecDepth 65536 in
set_option maxHeartbeats 40000000 in
theorem c_same (l : Launch) (Z : State) (a0 : Array Value) (G : Gl Z a0) (la a1 a2 lb b1 b2 : Int32) (h : Heap) (dl : len012 la) (db : len012 lb) :
    Ctr l Z EL nw (⟨"com/example/pegwright/pegwright/KeyEqualsPinLaw", "same", "(ICCICC)Z"⟩ : MethodName) method_5_code 6 (Option.some Jvm.ClassFile.FieldType.boolean) ({ frames := 0, cells := 0, slots := 0, locals := 0 } : Room) #[.int la, .int a1, .int a2, .int lb, .int b1, .int b2] h [] (PureQ h fun v => v = .int (if mkJ la a1 a2 = mkJ lb b1 b2 then 1 else 0)) := by
  obtain ⟨hw, hEL, hSA, ⟨zc, SC, hz⟩, ⟨fm, SF, hfm⟩⟩ := id G
  refine Ctr.enter (own := "com/example/pegwright/pegwright/KeyEqualsPinLaw") (nm := "same") rfl rfl hEL (plainFor_of_name pn_8) #[.val (.int la), .val (.int a1), .val (.int a2), .val (.int lb), .val (.int b1), .val (.int b2)] (fun m => entry1 m _ _ (by simp [Value.category]) rfl) ?_
  intro p e s m below meth c T X
  refine g_iloadN X d23_0 rfl 1 rfl ?_
  refine g_iloadN X d23_1 rfl 2 rfl ?_
  by_cases hb2 : la = lb
  · refine g_icmpNo X d23_2 (XT.ii_ne_f hb2) 5 rfl ?_
    refine g_iloadN X d23_5 rfl 6 rfl ?_
    refine g_iconst X (1 : Int32) d23_6 (by decide) 7 rfl ?_
    by_cases hb7 : la < (1 : Int32)
    · refine g_icmpYes X d23_7 (XT.ii_lt_t hb7) 16 (by decide) (by decide) ?_
      refine g_iloadN X d23_16 rfl 17 rfl ?_
      refine g_iconst X (2 : Int32) d23_17 (by decide) 18 rfl ?_
      by_cases hb18 : la < (2 : Int32)
      · refine g_icmpYes X d23_18 (XT.ii_lt_t hb18) 27 (by decide) (by decide) ?_
        refine g_iconst X (1 : Int32) d23_27 (by decide) 28 rfl ?_
        refine g_goto X d23_28 32 (by decide) (by decide) ?_
        exact g_retN X (t := .boolean) rfl (by simp) d23_32 _ rfl (by decide) (by decide) ⟨rfl, _, rfl, (by rw [if_pos ((same_key dl db).mpr ⟨hb2, Or.inl hb7, Or.inl hb18⟩)]; rfl)⟩
      · refine g_icmpNo X d23_18 (XT.ii_lt_f hb18) 21 rfl ?_
        refine g_iloadN X d23_21 rfl 22 rfl ?_
        refine g_iload X d23_22 rfl 24 rfl ?_
        by_cases hb24 : a2 = b2
        · refine g_icmpNo X d23_24 (XT.ii_ne_f hb24) 27 rfl ?_
          refine g_iconst X (1 : Int32) d23_27 (by decide) 28 rfl ?_
          refine g_goto X d23_28 32 (by decide) (by decide) ?_
          exact g_retN X (t := .boolean) rfl (by simp) d23_32 _ rfl (by decide) (by decide) ⟨rfl, _, rfl, (by rw [if_pos ((same_key dl db).mpr ⟨hb2, Or.inl hb7, Or.inr hb24⟩)]; rfl)⟩
        · refine g_icmpYes X d23_24 (XT.ii_ne_t hb24) 31 (by decide) (by decide) ?_
          refine g_iconst X (0 : Int32) d23_31 (by decide) 32 rfl ?_
          exact g_retN X (t := .boolean) rfl (by simp) d23_32 _ rfl (by decide) (by decide) ⟨rfl, _, rfl, (by rw [if_neg (fun q => ((same_key dl db).mp q).2.2.elim hb18 hb24)]; rfl)⟩
    · refine g_icmpNo X d23_7 (XT.ii_lt_f hb7) 10 rfl ?_
      refine g_iloadN X d23_10 rfl 11 rfl ?_
      refine g_iload X d23_11 rfl 13 rfl ?_
      by_cases hb13 : a1 = b1
      · refine g_icmpNo X d23_13 (XT.ii_ne_f hb13) 16 rfl ?_
        refine g_iloadN X d23_16 rfl 17 rfl ?_
        refine g_iconst X (2 : Int32) d23_17 (by decide) 18 rfl ?_
        by_cases hb18 : la < (2 : Int32)
        · refine g_icmpYes X d23_18 (XT.ii_lt_t hb18) 27 (by decide) (by decide) ?_
          refine g_iconst X (1 : Int32) d23_27 (by decide) 28 rfl ?_
          refine g_goto X d23_28 32 (by decide) (by decide) ?_
          exact g_retN X (t := .boolean) rfl (by simp) d23_32 _ rfl (by decide) (by decide) ⟨rfl, _, rfl, (by rw [if_pos ((same_key dl db).mpr ⟨hb2, Or.inr hb13, Or.inl hb18⟩)]; rfl)⟩
        · refine g_icmpNo X d23_18 (XT.ii_lt_f hb18) 21 rfl ?_
          refine g_iloadN X d23_21 rfl 22 rfl ?_
          refine g_iload X d23_22 rfl 24 rfl ?_
          by_cases hb24 : a2 = b2
          · refine g_icmpNo X d23_24 (XT.ii_ne_f hb24) 27 rfl ?_
            refine g_iconst X (1 : Int32) d23_27 (by decide) 28 rfl ?_
            refine g_goto X d23_28 32 (by decide) (by decide) ?_
            exact g_retN X (t := .boolean) rfl (by simp) d23_32 _ rfl (by decide) (by decide) ⟨rfl, _, rfl, (by rw [if_pos ((same_key dl db).mpr ⟨hb2, Or.inr hb13, Or.inr hb24⟩)]; rfl)⟩
          · refine g_icmpYes X d23_24 (XT.ii_ne_t hb24) 31 (by decide) (by decide) ?_
            refine g_iconst X (0 : Int32) d23_31 (by decide) 32 rfl ?_
            exact g_retN X (t := .boolean) rfl (by simp) d23_32 _ rfl (by decide) (by decide) ⟨rfl, _, rfl, (by rw [if_neg (fun q => ((same_key dl db).mp q).2.2.elim hb18 hb24)]; rfl)⟩
      · refine g_icmpYes X d23_13 (XT.ii_ne_t hb13) 31 (by decide) (by decide) ?_
        refine g_iconst X (0 : Int32) d23_31 (by decide) 32 rfl ?_
        exact g_retN X (t := .boolean) rfl (by simp) d23_32 _ rfl (by decide) (by decide) ⟨rfl, _, rfl, (by rw [if_neg (fun q => ((same_key dl db).mp q).2.1.elim hb7 hb13)]; rfl)⟩
  · refine g_icmpYes X d23_2 (XT.ii_ne_t hb2) 31 (by decide) (by decide) ?_
    refine g_iconst X (0 : Int32) d23_31 (by decide) 32 rfl ?_
    exact g_retN X (t := .boolean) rfl (by simp) d23_32 _ rfl (by decide) (by decide) ⟨rfl, _, rfl, (by rw [if_neg (fun q => hb2 ((same_key dl db).mp q).1)]; rfl)⟩
theorem d21_0 : decode prog_15_method_3_code 0 = .ok (.ldc 23, 2) := by decide +kernel
theorem d21_2 : decode prog_15_method_3_code 2 = .ok (.aload_n 0, 1) := by decide +kernel
theorem d21_3 : decode prog_15_method_3_code 3 = .ok (.invokestatic 25, 3) := by decide +kernel
theorem d21_6 : decode prog_15_method_3_code 6 = .ok (.areturn, 1) := by decide +kernel
set_option maxRecDepth 65536 in
set_option maxHeartbeats 40000000 in
theorem c_rw (l : Launch) (Z : State) (a0 : Array Value) (G : Gl Z a0) (a : Addr) (us : List Addr) (cs : List Int32) (h : Heap) (S : Str Z h us a cs) (hiso : ∀ c ∈ cs, isoI c = 0) :
    Ctr l Z EL nw (⟨"com/example/pegwright/pegwright/Names", "requireWarehouse", "(Ljava/lang/String;)Ljava/lang/String;"⟩ : MethodName) prog_15_method_3_code 1 (Option.some (Jvm.ClassFile.FieldType.object "java/lang/String")) ({ frames := 6, cells := 2, slots := 76, locals := 79 } : Room) #[.ref a] h us (ValQ fun w h' => w = .ref a ∧ Ext h h') := by
  obtain ⟨hw, hEL, hSA, ⟨zc, SC, hz⟩, ⟨fm, SF, hfm⟩⟩ := id G
  refine Ctr.enter (own := "com/example/pegwright/pegwright/Names") (nm := "requireWarehouse") rfl rfl hEL (plainFor_of_name pn_4) #[.val (.ref a)] (fun m => by first | rfl | (simp [entryFrame, mkF, argsToLocals, Value.category, maxLocals]; done)) ?_
  intro p e s m below meth c T X
  refine g_ldcS X (cs := [(97 : Int32), (32 : Int32), (119 : Int32), (97 : Int32), (114 : Int32), (101 : Int32), (104 : Int32), (111 : Int32), (117 : Int32), (115 : Int32), (101 : Int32), (39 : Int32), (115 : Int32), (32 : Int32), (110 : Int32), (97 : Int32), (109 : Int32), (101 : Int32)]) rfl (hw _ (List.mem_of_getElem? (i := 124) rfl)) hSA (by simp [EL, consts_1]) ⟨by decide, by decide⟩ (by decide) (by decide) d21_0 72 (by decide) (by decide) (ck := 2) rfl (cs' := 76) rfl (by decide) (by decide) 2 rfl ?_
  intro s1 T2 h3 X4 E5 S6
  refine g_aloadN X4 d21_2 rfl rfl 3 rfl ?_
  obtain ⟨t7, kb8, e9, f10, f11, kc12, b13, l14, n15⟩ := id (S.ext E5)
  refine g_callSp X4 (hw _ (List.mem_of_getElem? (i := 125) rfl)) (hw _ (List.mem_of_getElem? (i := 52) rfl)) (hw _ (List.mem_of_getElem? (i := 53) rfl)) (hw _ (List.mem_of_getElem? (i := 54) rfl)) (by decide) (c_rnc l Z a0 G s1 a t7 kb8 cs h3 e9 f10 f11 kc12 b13 l14 hiso) (by simp) (argsL := [.ref s1, .ref a]) (rest := []) pd_8 rfl rfl rfl rfl 0 (Nat.le_of_eq rfl) (by decide) (by decide) (ck := 2) rfl (cs := 76) rfl (by decide) (by decide) d21_3 6 rfl ?_
  intro w18 T16 X17 hq19
  subst hq19
  exact g_retA X17 rfl rfl rfl d21_6 (by decide) (by decide) ⟨_, rfl, ⟨rfl, ((Ext.refl h).trans E5)⟩⟩
theorem d22_0 : decode prog_15_method_4_code 0 = .ok (.ldc 31, 2) := by decide +kernel
theorem d22_2 : decode prog_15_method_4_code 2 = .ok (.aload_n 0, 1) := by decide +kernel
theorem d22_3 : decode prog_15_method_4_code 3 = .ok (.invokestatic 25, 3) := by decide +kernel
theorem d22_6 : decode prog_15_method_4_code 6 = .ok (.areturn, 1) := by decide +kernel
set_option maxRecDepth 65536 in
set_option maxHeartbeats 40000000 in
theorem c_ri (l : Launch) (Z : State) (a0 : Array Value) (G : Gl Z a0) (a : Addr) (us : List Addr) (cs : List Int32) (h : Heap) (S : Str Z h us a cs) (hiso : ∀ c ∈ cs, isoI c = 0) :
    Ctr l Z EL nw (⟨"com/example/pegwright/pegwright/Names", "requireItem", "(Ljava/lang/String;)Ljava/lang/String;"⟩ : MethodName) prog_15_method_4_code 1 (Option.some (Jvm.ClassFile.FieldType.object "java/lang/String")) ({ frames := 6, cells := 2, slots := 60, locals := 79 } : Room) #[.ref a] h us (ValQ fun w h' => w = .ref a ∧ Ext h h') := by
  obtain ⟨hw, hEL, hSA, ⟨zc, SC, hz⟩, ⟨fm, SF, hfm⟩⟩ := id G
  refine Ctr.enter (own := "com/example/pegwright/pegwright/Names") (nm := "requireItem") rfl rfl hEL (plainFor_of_name pn_4) #[.val (.ref a)] (fun m => by first | rfl | (simp [entryFrame, mkF, argsToLocals, Value.category, maxLocals]; done)) ?_
  intro p e s m below meth c T X
  refine g_ldcS X (cs := [(97 : Int32), (110 : Int32), (32 : Int32), (105 : Int32), (116 : Int32), (101 : Int32), (109 : Int32), (39 : Int32), (115 : Int32), (32 : Int32), (110 : Int32), (97 : Int32), (109 : Int32), (101 : Int32)]) rfl (hw _ (List.mem_of_getElem? (i := 130) rfl)) hSA (by simp [EL, consts_1]) ⟨by decide, by decide⟩ (by decide) (by decide) d22_0 56 (by decide) (by decide) (ck := 2) rfl (cs' := 60) rfl (by decide) (by decide) 2 rfl ?_
  intro s1 T2 h3 X4 E5 S6
  refine g_aloadN X4 d22_2 rfl rfl 3 rfl ?_
  obtain ⟨t7, kb8, e9, f10, f11, kc12, b13, l14, n15⟩ := id (S.ext E5)
  refine g_callSp X4 (hw _ (List.mem_of_getElem? (i := 125) rfl)) (hw _ (List.mem_of_getElem? (i := 52) rfl)) (hw _ (List.mem_of_getElem? (i := 53) rfl)) (hw _ (List.mem_of_getElem? (i := 54) rfl)) (by decide) (c_rnc l Z a0 G s1 a t7 kb8 cs h3 e9 f10 f11 kc12 b13 l14 hiso) (by simp) (argsL := [.ref s1, .ref a]) (rest := []) pd_8 rfl rfl rfl rfl 0 (Nat.le_of_eq rfl) (by decide) (by decide) (ck := 2) rfl (cs := 60) rfl (by decide) (by decide) d22_3 6 rfl ?_
  intro w18 T16 X17 hq19
  subst hq19
  exact g_retA X17 rfl rfl rfl d22_6 (by decide) (by decide) ⟨_, rfl, ⟨rfl, ((Ext.refl h).trans E5)⟩⟩
theorem d20_0 : decode prog_22_method_1_code 0 = .ok (.aload_n 0, 1) := by decide +kernel
theorem d20_1 : decode prog_22_method_1_code 1 = .ok (.invokespecial 1, 3) := by decide +kernel
theorem d20_4 : decode prog_22_method_1_code 4 = .ok (.aload_n 1, 1) := by decide +kernel
theorem d20_5 : decode prog_22_method_1_code 5 = .ok (.ldc 7, 2) := by decide +kernel
theorem d20_7 : decode prog_22_method_1_code 7 = .ok (.invokestatic 9, 3) := by decide +kernel
theorem d20_10 : decode prog_22_method_1_code 10 = .ok (.checkcast 15, 3) := by decide +kernel
theorem d20_13 : decode prog_22_method_1_code 13 = .ok (.invokestatic 17, 3) := by decide +kernel
theorem d20_16 : decode prog_22_method_1_code 16 = .ok (.pop, 1) := by decide +kernel
theorem d20_17 : decode prog_22_method_1_code 17 = .ok (.aload_n 2, 1) := by decide +kernel
theorem d20_18 : decode prog_22_method_1_code 18 = .ok (.ldc 23, 2) := by decide +kernel
theorem d20_20 : decode prog_22_method_1_code 20 = .ok (.invokestatic 9, 3) := by decide +kernel
theorem d20_23 : decode prog_22_method_1_code 23 = .ok (.checkcast 15, 3) := by decide +kernel
theorem d20_26 : decode prog_22_method_1_code 26 = .ok (.invokestatic 25, 3) := by decide +kernel
theorem d20_29 : decode prog_22_method_1_code 29 = .ok (.pop, 1) := by decide +kernel
theorem d20_30 : decode prog_22_method_1_code 30 = .ok (.aload_n 3, 1) := by decide +kernel
theorem d20_31 : decode prog_22_method_1_code 31 = .ok (.ldc 28, 2) := by decide +kernel
theorem d20_33 : decode prog_22_method_1_code 33 = .ok (.invokestatic 9, 3) := by decide +kernel
theorem d20_36 : decode prog_22_method_1_code 36 = .ok (.pop, 1) := by decide +kernel
theorem d20_37 : decode prog_22_method_1_code 37 = .ok (.aload_n 0, 1) := by decide +kernel
theorem d20_38 : decode prog_22_method_1_code 38 = .ok (.aload_n 1, 1) := by decide +kernel
theorem d20_39 : decode prog_22_method_1_code 39 = .ok (.putfield 30, 3) := by decide +kernel
theorem d20_42 : decode prog_22_method_1_code 42 = .ok (.aload_n 0, 1) := by decide +kernel
theorem d20_43 : decode prog_22_method_1_code 43 = .ok (.aload_n 2, 1) := by decide +kernel
theorem d20_44 : decode prog_22_method_1_code 44 = .ok (.putfield 35, 3) := by decide +kernel
theorem d20_47 : decode prog_22_method_1_code 47 = .ok (.aload_n 0, 1) := by decide +kernel
theorem d20_48 : decode prog_22_method_1_code 48 = .ok (.aload_n 3, 1) := by decide +kernel
theorem d20_49 : decode prog_22_method_1_code 49 = .ok (.putfield 37, 3) := by decide +kernel
theorem d20_52 : decode prog_22_method_1_code 52 = .ok (.return_, 1) := by decide +kernel
theorem pn_9 : plainName "com/example/pegwright/pegwright/PeggedStock$Key" = true := by first | (simp [plainName, overriddenIn]; done) | decide +kernel
set_option maxRecDepth 65536 in
set_option maxHeartbeats 40000000 in
theorem c_kinit (l : Launch) (Z : State) (a0 : Array Value) (G : Gl Z a0) (j a b d : Addr) (us : List Addr) (cs1 cs2 : List Int32) (h : Heap) (E : Exa Z h j "com/example/pegwright/pegwright/PeggedStock$Key") (F0 : Fld Z h j "com/example/pegwright/pegwright/PeggedStock$Key" "warehouse" "Ljava/lang/String;" .null) (F1 : Fld Z h j "com/example/pegwright/pegwright/PeggedStock$Key" "item" "Ljava/lang/String;" .null) (F2 : Fld Z h j "com/example/pegwright/pegwright/PeggedStock$Key" "peg" "Lcom/example/pegwright/pegwright/Peg;" .null) (S1 : Str Z h (j :: us) a cs1) (S2 : Str Z h (j :: us) b cs2) (i1 : ∀ c ∈ cs1, isoI c = 0) (i2 : ∀ c ∈ cs2, isoI c = 0) :
    Ctr l Z EL nw (⟨"com/example/pegwright/pegwright/PeggedStock$Key", "<init>", "(Ljava/lang/String;Ljava/lang/String;Lcom/example/pegwright/pegwright/Peg;)V"⟩ : MethodName) prog_22_method_1_code 4 (Option.none : Option Jvm.ClassFile.FieldType) ({ frames := 7, cells := 10, slots := 212, locals := 91 } : Room) #[.ref j, .ref a, .ref b, .ref d] h (j :: us) (VoidQ fun h' => Keep h h' [j] ∧ Exa Z h' j "com/example/pegwright/pegwright/PeggedStock$Key" ∧ Fld Z h' j "com/example/pegwright/pegwright/PeggedStock$Key" "warehouse" "Ljava/lang/String;" (.ref a) ∧ Fld Z h' j "com/example/pegwright/pegwright/PeggedStock$Key" "item" "Ljava/lang/String;" (.ref b) ∧ Fld Z h' j "com/example/pegwright/pegwright/PeggedStock$Key" "peg" "Lcom/example/pegwright/pegwright/Peg;" (.ref d)) := by
  obtain ⟨hw, hEL, hSA, ⟨zc, SC, hz⟩, ⟨fm, SF, hfm⟩⟩ := id G
  refine Ctr.enter (own := "com/example/pegwright/pegwright/PeggedStock$Key") (nm := "<init>") rfl rfl hEL (plainFor_of_name pn_9) #[.val (.ref j), .val (.ref a), .val (.ref b), .val (.ref d)] (fun m => entry1 m _ _ (by simp [Value.category]) rfl) ?_
  intro p e s m below meth c T X
  refine g_aloadN X d20_0 rfl rfl 1 rfl ?_
  refine g_callIn X rfl (hw _ (List.mem_of_getElem? (i := 117) rfl)) (hw _ (List.mem_of_getElem? (i := 39) rfl)) (hw _ (List.mem_of_getElem? (i := 41) rfl)) (hw _ (List.mem_of_getElem? (i := 42) rfl)) (by decide) (c_rec l Z a0 G j h) (by simp) (argsL := []) (rest := []) pd_10 rfl rfl rfl rfl 0 (Nat.le_of_eq rfl) (by decide) (by decide) (ck := 0) rfl (cs := 0) rfl (by decide) (by decide) d20_1 4 rfl ?_
  intro T1 h4 X2 hq3
  subst hq3
  refine g_aloadN X2 d20_4 rfl rfl 5 rfl ?_
  refine g_ldcS X2 (cs := [(119 : Int32), (97 : Int32), (114 : Int32), (101 : Int32), (104 : Int32), (111 : Int32), (117 : Int32), (115 : Int32), (101 : Int32)]) rfl (hw _ (List.mem_of_getElem? (i := 118) rfl)) hSA (by simp [EL, consts_1]) ⟨by decide, by decide⟩ (by decide) (by decide) d20_5 36 (by decide) (by decide) (ck := 2) rfl (cs' := 40) rfl (by decide) (by decide) 7 rfl ?_
  intro s5 T6 h7 X8 E9 S10
  refine g_callSp X8 (hw _ (List.mem_of_getElem? (i := 119) rfl)) (hw _ (List.mem_of_getElem? (i := 47) rfl)) (hw _ (List.mem_of_getElem? (i := 48) rfl)) (hw _ (List.mem_of_getElem? (i := 49) rfl)) (by decide) (c_rnn l Z a0 G a s5 h7) (by simp) (argsL := [.ref a, .ref s5]) (rest := []) pd_9 rfl rfl rfl rfl 0 (Nat.le_of_eq rfl) (by decide) (by decide) (ck := 2) rfl (cs := 40) rfl (by decide) (by decide) d20_7 10 rfl ?_
  intro w13 T11 X12 hq14
  subst hq14
  refine g_cast X12 (hw _ (List.mem_of_getElem? (i := 120) rfl)) (Ins.self (S1.ext E9).exa) d20_10 13 rfl ?_
  intro T15 X16
  refine g_callSv X16 (hw _ (List.mem_of_getElem? (i := 121) rfl)) (hw _ (List.mem_of_getElem? (i := 122) rfl)) (hw _ (List.mem_of_getElem? (i := 53) rfl)) (hw _ (List.mem_of_getElem? (i := 123) rfl)) (by decide) (c_rw l Z a0 G a (j :: us) cs1 h7 (S1.ext E9) i1) (fun _ q => q) (argsL := [.ref a]) (rest := []) pd_3 rfl rfl rfl rfl 0 (Nat.le_of_eq rfl) (by decide) (by decide) (ck := 4) rfl (cs := 116) rfl (by decide) (by decide) d20_13 16 rfl ?_
  intro w19 T17 h21 X18 hq20
  obtain ⟨rfl, E22⟩ := hq20
  refine g_pop X18 d20_16 rfl 17 rfl ?_
  refine g_aloadN X18 d20_17 rfl rfl 18 rfl ?_
  refine g_ldcS X18 (cs := [(105 : Int32), (116 : Int32), (101 : Int32), (109 : Int32)]) rfl (hw _ (List.mem_of_getElem? (i := 126) rfl)) hSA (by simp [EL, consts_1]) ⟨by decide, by decide⟩ (by decide) (by decide) d20_18 16 (by decide) (by decide) (ck := 6) rfl (cs' := 136) rfl (by decide) (by decide) 20 rfl ?_
  intro s23 T24 h25 X26 E27 S28
  refine g_callSp X26 (hw _ (List.mem_of_getElem? (i := 119) rfl)) (hw _ (List.mem_of_getElem? (i := 47) rfl)) (hw _ (List.mem_of_getElem? (i := 48) rfl)) (hw _ (List.mem_of_getElem? (i := 49) rfl)) (by decide) (c_rnn l Z a0 G b s23 h25) (by simp) (argsL := [.ref b, .ref s23]) (rest := []) pd_9 rfl rfl rfl rfl 0 (Nat.le_of_eq rfl) (by decide) (by decide) (ck := 6) rfl (cs := 136) rfl (by decide) (by decide) d20_20 23 rfl ?_
  intro w31 T29 X30 hq32
  subst hq32
  refine g_cast X30 (hw _ (List.mem_of_getElem? (i := 120) rfl)) (Ins.self (((S2.ext E9).ext E22).ext E27).exa) d20_23 26 rfl ?_
  intro T33 X34
  refine g_callSv X34 (hw _ (List.mem_of_getElem? (i := 127) rfl)) (hw _ (List.mem_of_getElem? (i := 128) rfl)) (hw _ (List.mem_of_getElem? (i := 53) rfl)) (hw _ (List.mem_of_getElem? (i := 129) rfl)) (by decide) (c_ri l Z a0 G b (j :: us) cs2 h25 (((S2.ext E9).ext E22).ext E27) i2) (fun _ q => q) (argsL := [.ref b]) (rest := []) pd_3 rfl rfl rfl rfl 0 (Nat.le_of_eq rfl) (by decide) (by decide) (ck := 8) rfl (cs := 196) rfl (by decide) (by decide) d20_26 29 rfl ?_
  intro w37 T35 h39 X36 hq38
  obtain ⟨rfl, E40⟩ := hq38
  refine g_pop X36 d20_29 rfl 30 rfl ?_
  refine g_aloadN X36 d20_30 rfl rfl 31 rfl ?_
  refine g_ldcS X36 (cs := [(112 : Int32), (101 : Int32), (103 : Int32)]) rfl (hw _ (List.mem_of_getElem? (i := 131) rfl)) hSA (by simp [EL, consts_1]) ⟨by decide, by decide⟩ (by decide) (by decide) d20_31 12 (by decide) (by decide) (ck := 10) rfl (cs' := 212) rfl (by decide) (by decide) 33 rfl ?_
  intro s41 T42 h43 X44 E45 S46
  refine g_callSp X44 (hw _ (List.mem_of_getElem? (i := 119) rfl)) (hw _ (List.mem_of_getElem? (i := 47) rfl)) (hw _ (List.mem_of_getElem? (i := 48) rfl)) (hw _ (List.mem_of_getElem? (i := 49) rfl)) (by decide) (c_rnn l Z a0 G d s41 h43) (by simp) (argsL := [.ref d, .ref s41]) (rest := []) pd_9 rfl rfl rfl rfl 0 (Nat.le_of_eq rfl) (by decide) (by decide) (ck := 10) rfl (cs := 212) rfl (by decide) (by decide) d20_33 36 rfl ?_
  intro w49 T47 X48 hq50
  subst hq50
  refine g_pop X48 d20_36 rfl 37 rfl ?_
  refine g_aloadN X48 d20_37 rfl rfl 38 rfl ?_
  refine g_aloadN X48 d20_38 rfl rfl 39 rfl ?_
  refine g_putF X48 (Or.inl (hw _ (List.mem_of_getElem? (i := 132) rfl))) (host := "") Via.refl (((((F0.ext E9).ext E22).ext E27).ext E40).ext E45) (((((E.ext E9).ext E22).ext E27).ext E40).ext E45) (Or.inr ⟨(hw _ (List.mem_of_getElem? (i := 133) rfl)), rfl, rfl⟩) (hw _ (List.mem_of_getElem? (i := 112) rfl)) (ty := (.object "java/lang/String")) (by decide +kernel) rfl rfl (by simp) d20_39 42 rfl ?_
  intro T51 h52 X53 W54 F55 E56
  refine g_aloadN X53 d20_42 rfl rfl 43 rfl ?_
  refine g_aloadN X53 d20_43 rfl rfl 44 rfl ?_
  refine g_putF X53 (Or.inl (hw _ (List.mem_of_getElem? (i := 134) rfl))) (host := "") Via.refl ((((((F1.ext E9).ext E22).ext E27).ext E40).ext E45).other W54 (Or.inr (slot_ne (t := (.object "java/lang/String")) (t' := (.object "java/lang/String")) (Or.inr (hw _ (List.mem_of_getElem? (i := 135) rfl))) (Or.inr (hw _ (List.mem_of_getElem? (i := 133) rfl))) (by decide) (by decide +kernel) (by decide +kernel)))) E56 (Or.inr ⟨(hw _ (List.mem_of_getElem? (i := 135) rfl)), rfl, rfl⟩) (hw _ (List.mem_of_getElem? (i := 112) rfl)) (ty := (.object "java/lang/String")) (by decide +kernel) rfl rfl (by simp) d20_44 47 rfl ?_
  intro T57 h58 X59 W60 F61 E62
  refine g_aloadN X59 d20_47 rfl rfl 48 rfl ?_
  refine g_aloadN X59 d20_48 rfl rfl 49 rfl ?_
  refine g_putF X59 (Or.inl (hw _ (List.mem_of_getElem? (i := 136) rfl))) (host := "") Via.refl (((((((F2.ext E9).ext E22).ext E27).ext E40).ext E45).other W54 (Or.inr (slot_ne (t := (.object "com/example/pegwright/pegwright/Peg")) (t' := (.object "java/lang/String")) (Or.inr (hw _ (List.mem_of_getElem? (i := 137) rfl))) (Or.inr (hw _ (List.mem_of_getElem? (i := 133) rfl))) (by decide) (by decide +kernel) (by decide +kernel)))).other W60 (Or.inr (slot_ne (t := (.object "com/example/pegwright/pegwright/Peg")) (t' := (.object "java/lang/String")) (Or.inr (hw _ (List.mem_of_getElem? (i := 137) rfl))) (Or.inr (hw _ (List.mem_of_getElem? (i := 135) rfl))) (by decide) (by decide +kernel) (by decide +kernel)))) E62 (Or.inr ⟨(hw _ (List.mem_of_getElem? (i := 137) rfl)), rfl, rfl⟩) (hw _ (List.mem_of_getElem? (i := 112) rfl)) (ty := (.object "com/example/pegwright/pegwright/Peg")) (by decide +kernel) rfl rfl (by simp) d20_49 52 rfl ?_
  intro T63 h64 X65 W66 F67 E68
  exact g_ret X65 rfl d20_52 (by decide) (by decide) ⟨rfl, ⟨(((((((((Keep.refl h [j]).ext E9).ext E22).ext E27).ext E40).ext E45).wr W54 (Or.inl (by simp))).wr W60 (Or.inl (by simp))).wr W66 (Or.inl (by simp))), E68, ((F55.other W60 (Or.inr (slot_ne (t := (.object "java/lang/String")) (t' := (.object "java/lang/String")) (Or.inr (hw _ (List.mem_of_getElem? (i := 133) rfl))) (Or.inr (hw _ (List.mem_of_getElem? (i := 135) rfl))) (by decide) (by decide +kernel) (by decide +kernel)))).other W66 (Or.inr (slot_ne (t := (.object "java/lang/String")) (t' := (.object "com/example/pegwright/pegwright/Peg")) (Or.inr (hw _ (List.mem_of_getElem? (i := 133) rfl))) (Or.inr (hw _ (List.mem_of_getElem? (i := 137) rfl))) (by decide) (by decide +kernel) (by decide +kernel)))), (F61.other W66 (Or.inr (slot_ne (t := (.object "java/lang/String")) (t' := (.object "com/example/pegwright/pegwright/Peg")) (Or.inr (hw _ (List.mem_of_getElem? (i := 135) rfl))) (Or.inr (hw _ (List.mem_of_getElem? (i := 137) rfl))) (by decide) (by decide +kernel) (by decide +kernel)))), F67⟩⟩
theorem d24_0 : decode prog_22_method_2_code 0 = .ok (.aload_n 1, 1) := by decide +kernel
theorem d24_1 : decode prog_22_method_2_code 1 = .ok (.instanceof 31, 3) := by decide +kernel
theorem d24_4 : decode prog_22_method_2_code 4 = .ok (.ifCond .eq 54, 3) := by decide +kernel
theorem d24_7 : decode prog_22_method_2_code 7 = .ok (.aload_n 1, 1) := by decide +kernel
theorem d24_8 : decode prog_22_method_2_code 8 = .ok (.checkcast 31, 3) := by decide +kernel
theorem d24_11 : decode prog_22_method_2_code 11 = .ok (.astore_n 2, 1) := by decide +kernel
theorem d24_12 : decode prog_22_method_2_code 12 = .ok (.aload_n 0, 1) := by decide +kernel
theorem d24_13 : decode prog_22_method_2_code 13 = .ok (.getfield 30, 3) := by decide +kernel
theorem d24_16 : decode prog_22_method_2_code 16 = .ok (.aload_n 2, 1) := by decide +kernel
theorem d24_17 : decode prog_22_method_2_code 17 = .ok (.getfield 30, 3) := by decide +kernel
theorem d24_20 : decode prog_22_method_2_code 20 = .ok (.invokevirtual 40, 3) := by decide +kernel
theorem d24_23 : decode prog_22_method_2_code 23 = .ok (.ifCond .eq 35, 3) := by decide +kernel
theorem d24_26 : decode prog_22_method_2_code 26 = .ok (.aload_n 0, 1) := by decide +kernel
theorem d24_27 : decode prog_22_method_2_code 27 = .ok (.getfield 35, 3) := by decide +kernel
theorem d24_30 : decode prog_22_method_2_code 30 = .ok (.aload_n 2, 1) := by decide +kernel
theorem d24_31 : decode prog_22_method_2_code 31 = .ok (.getfield 35, 3) := by decide +kernel
theorem d24_34 : decode prog_22_method_2_code 34 = .ok (.invokevirtual 40, 3) := by decide +kernel
theorem d24_37 : decode prog_22_method_2_code 37 = .ok (.ifCond .eq 21, 3) := by decide +kernel
theorem d24_40 : decode prog_22_method_2_code 40 = .ok (.aload_n 0, 1) := by decide +kernel
theorem d24_41 : decode prog_22_method_2_code 41 = .ok (.getfield 37, 3) := by decide +kernel
theorem d24_44 : decode prog_22_method_2_code 44 = .ok (.aload_n 2, 1) := by decide +kernel
theorem d24_45 : decode prog_22_method_2_code 45 = .ok (.getfield 37, 3) := by decide +kernel
theorem d24_48 : decode prog_22_method_2_code 48 = .ok (.invokevirtual 44, 3) := by decide +kernel
theorem d24_51 : decode prog_22_method_2_code 51 = .ok (.ifCond .eq 7, 3) := by decide +kernel
theorem d24_54 : decode prog_22_method_2_code 54 = .ok (.iconst 1, 1) := by decide +kernel
theorem d24_55 : decode prog_22_method_2_code 55 = .ok (.goto 4, 3) := by decide +kernel
theorem d24_58 : decode prog_22_method_2_code 58 = .ok (.iconst 0, 1) := by decide +kernel
theorem d24_59 : decode prog_22_method_2_code 59 = .ok (.ireturn, 1) := by decide +kernel
set_option maxRecDepth 65536 in
set_option maxHeartbeats 40000000 in
theorem c_ke0 (l : Launch) (Z : State) (a0 : Array Value) (G : Gl Z a0) (j : Addr) (h : Heap)  :
    Ctr l Z EL nw (⟨"com/example/pegwright/pegwright/PeggedStock$Key", "equals", "(Ljava/lang/Object;)Z"⟩ : MethodName) prog_22_method_2_code 3 (Option.some Jvm.ClassFile.FieldType.boolean) ({ frames := 0, cells := 0, slots := 0, locals := 0 } : Room) #[.ref j, .null] h [] (PureQ h fun v => v = .int 0) := by
  obtain ⟨hw, hEL, hSA, ⟨zc, SC, hz⟩, ⟨fm, SF, hfm⟩⟩ := id G
  refine Ctr.enter (own := "com/example/pegwright/pegwright/PeggedStock$Key") (nm := "equals") rfl rfl hEL (plainFor_of_name pn_9) #[.val (.ref j), .val (.null), .unset] (fun m => by first | rfl | (simp [entryFrame, mkF, argsToLocals, Value.category, maxLocals]; done)) ?_
  intro p e s m below meth c T X
  refine g_aloadN X d24_0 rfl rfl 1 rfl ?_
  refine g_instNull X d24_1 4 rfl ?_
  refine g_ifYes X d24_4 (XT.ii_eq_t (by decide)) 58 (by decide) (by decide) ?_
  refine g_iconst X (0 : Int32) d24_58 (by decide) 59 rfl ?_
  exact g_retN X (t := .boolean) rfl (by simp) d24_59 _ rfl (by decide) (by decide) ⟨rfl, _, rfl, rfl⟩
set_option maxRecDepth 65536 in
set_option maxHeartbeats 40000000 in
theorem c_keP (l : Launch) (Z : State) (a0 : Array Value) (G : Gl Z a0) (j o : Addr) (h : Heap) (EP : Exa Z h o "com/example/pegwright/pegwright/Peg") :
    Ctr l Z EL nw (⟨"com/example/pegwright/pegwright/PeggedStock$Key", "equals", "(Ljava/lang/Object;)Z"⟩ : MethodName) prog_22_method_2_code 3 (Option.some Jvm.ClassFile.FieldType.boolean) ({ frames := 0, cells := 0, slots := 0, locals := 0 } : Room) #[.ref j, .ref o] h [] (PureQ h fun v => v = .int 0) := by
  obtain ⟨hw, hEL, hSA, ⟨zc, SC, hz⟩, ⟨fm, SF, hfm⟩⟩ := id G
  refine Ctr.enter (own := "com/example/pegwright/pegwright/PeggedStock$Key") (nm := "equals") rfl rfl hEL (plainFor_of_name pn_9) #[.val (.ref j), .val (.ref o), .unset] (fun m => by first | rfl | (simp [entryFrame, mkF, argsToLocals, Value.category, maxLocals]; done)) ?_
  intro p e s m below meth c T X
  refine g_aloadN X d24_0 rfl rfl 1 rfl ?_
  refine g_instNo X (hw _ (List.mem_of_getElem? (i := 146) rfl)) EP (own_noassign2 (hw _ (List.mem_of_getElem? (i := 201) rfl)) (hw _ (List.mem_of_getElem? (i := 202) rfl)) (hw _ (List.mem_of_getElem? (i := 203) rfl)) (hw _ (List.mem_of_getElem? (i := 112) rfl)) (by decide) (by decide) (by decide)) d24_1 4 rfl ?_
  intro T1 X2
  refine g_ifYes X2 d24_4 (XT.ii_eq_t (by decide)) 58 (by decide) (by decide) ?_
  refine g_iconst X2 (0 : Int32) d24_58 (by decide) 59 rfl ?_
  exact g_retN X2 (t := .boolean) rfl (by simp) d24_59 _ rfl (by decide) (by decide) ⟨rfl, _, rfl, rfl⟩
set_option maxRecDepth 65536 in
set_option maxHeartbeats 40000000 in
theorem c_ke2 (l : Launch) (Z : State) (a0 : Array Value) (G : Gl Z a0) (j1 j2 y10 y11 y12 x10 x11 x12 y20 y21 y22 x20 x21 x22 : Addr) (us : List Addr) (v10s v11s c10 c11 c12 v20s v21s c20 c21 c22 : List Int32) (h : Heap) (KE1 : Exa Z h j1 "com/example/pegwright/pegwright/PeggedStock$Key") (KF10 : Fld Z h j1 "com/example/pegwright/pegwright/PeggedStock$Key" "warehouse" "Ljava/lang/String;" (.ref y10)) (KF11 : Fld Z h j1 "com/example/pegwright/pegwright/PeggedStock$Key" "item" "Ljava/lang/String;" (.ref y11)) (KF12 : Fld Z h j1 "com/example/pegwright/pegwright/PeggedStock$Key" "peg" "Lcom/example/pegwright/pegwright/Peg;" (.ref y12)) (KS10 : Str Z h us y10 v10s) (KS11 : Str Z h us y11 v11s) (FE1 : Exa Z h y12 "com/example/pegwright/pegwright/Peg") (FF10 : Fld Z h y12 "com/example/pegwright/pegwright/Peg" "project" "Ljava/lang/String;" (.ref x10)) (FF11 : Fld Z h y12 "com/example/pegwright/pegwright/Peg" "element" "Ljava/lang/String;" (.ref x11)) (FF12 : Fld Z h y12 "com/example/pegwright/pegwright/Peg" "activity" "Ljava/lang/String;" (.ref x12)) (SS10 : Str Z h us x10 c10) (SS11 : Str Z h us x11 c11) (SS12 : Str Z h us x12 c12) (KE2 : Exa Z h j2 "com/example/pegwright/pegwright/PeggedStock$Key") (KF20 : Fld Z h j2 "com/example/pegwright/pegwright/PeggedStock$Key" "warehouse" "Ljava/lang/String;" (.ref y20)) (KF21 : Fld Z h j2 "com/example/pegwright/pegwright/PeggedStock$Key" "item" "Ljava/lang/String;" (.ref y21)) (KF22 : Fld Z h j2 "com/example/pegwright/pegwright/PeggedStock$Key" "peg" "Lcom/example/pegwright/pegwright/Peg;" (.ref y22)) (KS20 : Str Z h us y20 v20s) (KS21 : Str Z h us y21 v21s) (FE2 : Exa Z h y22 "com/example/pegwright/pegwright/Peg") (FF20 : Fld Z h y22 "com/example/pegwright/pegwright/Peg" "project" "Ljava/lang/String;" (.ref x20)) (FF21 : Fld Z h y22 "com/example/pegwright/pegwright/Peg" "element" "Ljava/lang/String;" (.ref x21)) (FF22 : Fld Z h y22 "com/example/pegwright/pegwright/Peg" "activity" "Ljava/lang/String;" (.ref x22)) (SS20 : Str Z h us x20 c20) (SS21 : Str Z h us x21 c21) (SS22 : Str Z h us x22 c22) :
    Ctr l Z EL nw (⟨"com/example/pegwright/pegwright/PeggedStock$Key", "equals", "(Ljava/lang/Object;)Z"⟩ : MethodName) prog_22_method_2_code 3 (Option.some Jvm.ClassFile.FieldType.boolean) ({ frames := 3, cells := 0, slots := 0, locals := 42 } : Room) #[.ref j1, .ref j2] h [] (PureQ h fun v => v = .int (if v10s = v20s ∧ v11s = v21s ∧ c10 = c20 ∧ c11 = c21 ∧ c12 = c22 then 1 else 0)) := by
  obtain ⟨hw, hEL, hSA, ⟨zc, SC, hz⟩, ⟨fm, SF, hfm⟩⟩ := id G
  refine Ctr.enter (own := "com/example/pegwright/pegwright/PeggedStock$Key") (nm := "equals") rfl rfl hEL (plainFor_of_name pn_9) #[.val (.ref j1), .val (.ref j2), .unset] (fun m => by first | rfl | (simp [entryFrame, mkF, argsToLocals, Value.category, maxLocals]; done)) ?_
  intro p e s m below meth c T X
  refine g_aloadN X d24_0 rfl rfl 1 rfl ?_
  refine g_instY X (hw _ (List.mem_of_getElem? (i := 146) rfl)) (Ins.self KE2) d24_1 4 rfl ?_
  intro T1 X2
  refine g_ifNo X2 d24_4 (XT.ii_eq_f (by decide)) 7 rfl ?_
  refine g_aloadN X2 d24_7 rfl rfl 8 rfl ?_
  refine g_cast X2 (hw _ (List.mem_of_getElem? (i := 146) rfl)) (Ins.self KE2) d24_8 11 rfl ?_
  intro T3 X4
  refine g_astoreN X4 d24_11 rfl (Ls' := #[.val (.ref j1), .val (.ref j2), .val (.ref j2)]) rfl 12 rfl ?_
  refine g_aloadN X4 d24_12 rfl rfl 13 rfl ?_
  refine g_getF X4 (Or.inl (hw _ (List.mem_of_getElem? (i := 132) rfl))) (host := "") Via.refl KF10 d24_13 16 rfl ?_
  intro T5 X6
  refine g_aloadN X6 d24_16 rfl rfl 17 rfl ?_
  refine g_getF X6 (Or.inl (hw _ (List.mem_of_getElem? (i := 132) rfl))) (host := "") Via.refl KF20 d24_17 20 rfl ?_
  intro T7 X8
  obtain ⟨t9, kb10, e11, f12, f13, kc14, b15, l16, n17⟩ := id KS10
  obtain ⟨t18, kb19, e20, f21, f22, kc23, b24, l25, n26⟩ := id KS20
  refine g_callVp X8 (hw _ (List.mem_of_getElem? (i := 148) rfl)) (hw _ (List.mem_of_getElem? (i := 149) rfl)) (hw _ (List.mem_of_getElem? (i := 151) rfl)) (hw _ (List.mem_of_getElem? (i := 150) rfl)) (hw _ (List.mem_of_getElem? (i := 15) rfl)) (hw _ (List.mem_of_getElem? (i := 152) rfl)) (nfSel (hw _ (List.mem_of_getElem? (i := 151) rfl))) (by decide) e11 (c_seq l Z a0 G y10 y20 t9 t18 kb10 kb19 v10s v20s (str_inj KS10 KS20) h e11 f12 f13 kc14 b15 l16 e20 f21 f22 kc23 b24 l25) (by simp) (argsL := [.ref y20]) (rest := []) pd_12 rfl rfl rfl rfl 0 (Nat.le_of_eq rfl) (by decide) (by decide) (ck := 0) rfl (cs := 0) rfl (by decide) (by decide) d24_20 23 rfl ?_
  intro w29 T27 X28 hq30
  subst hq30
  by_cases hb23 : (if v10s = v20s then (1 : Int32) else 0) = (0 : Int32)
  · refine g_ifYes X28 d24_23 (XT.ii_eq_t hb23) 58 (by decide) (by decide) ?_
    refine g_iconst X28 (0 : Int32) d24_58 (by decide) 59 rfl ?_
    exact g_retN X28 (t := .boolean) rfl (by simp) d24_59 _ rfl (by decide) (by decide) ⟨rfl, _, rfl, (by by_cases q1 : v10s = v20s <;> by_cases q2 : v11s = v21s <;> by_cases q3 : c10 = c20 <;> by_cases q4 : c11 = c21 <;> by_cases q5 : c12 = c22 <;> simp [q1, q2, q3, q4, q5] at hb23 ⊢ <;> rfl)⟩
  · refine g_ifNo X28 d24_23 (XT.ii_eq_f hb23) 26 rfl ?_
    refine g_aloadN X28 d24_26 rfl rfl 27 rfl ?_
    refine g_getF X28 (Or.inl (hw _ (List.mem_of_getElem? (i := 134) rfl))) (host := "") Via.refl KF11 d24_27 30 rfl ?_
    intro T31 X32
    refine g_aloadN X32 d24_30 rfl rfl 31 rfl ?_
    refine g_getF X32 (Or.inl (hw _ (List.mem_of_getElem? (i := 134) rfl))) (host := "") Via.refl KF21 d24_31 34 rfl ?_
    intro T33 X34
    obtain ⟨t35, kb36, e37, f38, f39, kc40, b41, l42, n43⟩ := id KS11
    obtain ⟨t44, kb45, e46, f47, f48, kc49, b50, l51, n52⟩ := id KS21
    refine g_callVp X34 (hw _ (List.mem_of_getElem? (i := 148) rfl)) (hw _ (List.mem_of_getElem? (i := 149) rfl)) (hw _ (List.mem_of_getElem? (i := 151) rfl)) (hw _ (List.mem_of_getElem? (i := 150) rfl)) (hw _ (List.mem_of_getElem? (i := 15) rfl)) (hw _ (List.mem_of_getElem? (i := 152) rfl)) (nfSel (hw _ (List.mem_of_getElem? (i := 151) rfl))) (by decide) e37 (c_seq l Z a0 G y11 y21 t35 t44 kb36 kb45 v11s v21s (str_inj KS11 KS21) h e37 f38 f39 kc40 b41 l42 e46 f47 f48 kc49 b50 l51) (by simp) (argsL := [.ref y21]) (rest := []) pd_12 rfl rfl rfl rfl 0 (Nat.le_of_eq rfl) (by decide) (by decide) (ck := 0) rfl (cs := 0) rfl (by decide) (by decide) d24_34 37 rfl ?_
    intro w55 T53 X54 hq56
    subst hq56
    by_cases hb37 : (if v11s = v21s then (1 : Int32) else 0) = (0 : Int32)
    · refine g_ifYes X54 d24_37 (XT.ii_eq_t hb37) 58 (by decide) (by decide) ?_
      refine g_iconst X54 (0 : Int32) d24_58 (by decide) 59 rfl ?_
      exact g_retN X54 (t := .boolean) rfl (by simp) d24_59 _ rfl (by decide) (by decide) ⟨rfl, _, rfl, (by by_cases q1 : v10s = v20s <;> by_cases q2 : v11s = v21s <;> by_cases q3 : c10 = c20 <;> by_cases q4 : c11 = c21 <;> by_cases q5 : c12 = c22 <;> simp [q1, q2, q3, q4, q5] at hb23 hb37 ⊢ <;> rfl)⟩
    · refine g_ifNo X54 d24_37 (XT.ii_eq_f hb37) 40 rfl ?_
      refine g_aloadN X54 d24_40 rfl rfl 41 rfl ?_
      refine g_getF X54 (Or.inl (hw _ (List.mem_of_getElem? (i := 136) rfl))) (host := "") Via.refl KF12 d24_41 44 rfl ?_
      intro T57 X58
      refine g_aloadN X58 d24_44 rfl rfl 45 rfl ?_
      refine g_getF X58 (Or.inl (hw _ (List.mem_of_getElem? (i := 136) rfl))) (host := "") Via.refl KF22 d24_45 48 rfl ?_
      intro T59 X60
      refine g_callVp X60 (hw _ (List.mem_of_getElem? (i := 157) rfl)) (hw _ (List.mem_of_getElem? (i := 158) rfl)) (hw _ (List.mem_of_getElem? (i := 160) rfl)) (hw _ (List.mem_of_getElem? (i := 159) rfl)) (hw _ (List.mem_of_getElem? (i := 9) rfl)) (hw _ (List.mem_of_getElem? (i := 161) rfl)) (nfSel (hw _ (List.mem_of_getElem? (i := 160) rfl))) (by decide) FE1 (c_pe2 l Z a0 G y12 y22 x10 x11 x12 x20 x21 x22 _ c10 c11 c12 c20 c21 c22 h FE1 FF10 FF11 FF12 SS10 SS11 SS12 FE2 FF20 FF21 FF22 SS20 SS21 SS22) (by simp) (argsL := [.ref y22]) (rest := []) pd_12 rfl rfl rfl rfl 0 (Nat.le_of_eq rfl) (by decide) (by decide) (ck := 0) rfl (cs := 0) rfl (by decide) (by decide) d24_48 51 rfl ?_
      intro w63 T61 X62 hq64
      subst hq64
      by_cases hb51 : (if c10 = c20 ∧ c11 = c21 ∧ c12 = c22 then (1 : Int32) else 0) = (0 : Int32)
      · refine g_ifYes X62 d24_51 (XT.ii_eq_t hb51) 58 (by decide) (by decide) ?_
        refine g_iconst X62 (0 : Int32) d24_58 (by decide) 59 rfl ?_
        exact g_retN X62 (t := .boolean) rfl (by simp) d24_59 _ rfl (by decide) (by decide) ⟨rfl, _, rfl, (by by_cases q1 : v10s = v20s <;> by_cases q2 : v11s = v21s <;> by_cases q3 : c10 = c20 <;> by_cases q4 : c11 = c21 <;> by_cases q5 : c12 = c22 <;> simp [q1, q2, q3, q4, q5] at hb23 hb37 hb51 ⊢ <;> rfl)⟩
      · refine g_ifNo X62 d24_51 (XT.ii_eq_f hb51) 54 rfl ?_
        refine g_iconst X62 (1 : Int32) d24_54 (by decide) 55 rfl ?_
        refine g_goto X62 d24_55 59 (by decide) (by decide) ?_
        exact g_retN X62 (t := .boolean) rfl (by simp) d24_59 _ rfl (by decide) (by decide) ⟨rfl, _, rfl, (by by_cases q1 : v10s = v20s <;> by_cases q2 : v11s = v21s <;> by_cases q3 : c10 = c20 <;> by_cases q4 : c11 = c21 <;> by_cases q5 : c12 = c22 <;> simp [q1, q2, q3, q4, q5] at hb23 hb37 hb51 ⊢ <;> rfl)⟩
set_option maxRecDepth 65536 in
set_option maxHeartbeats 40000000 in
theorem J618 (l : Launch) (Z : State) (a0 : Array Value) (G : Gl Z a0) (k0 k1 k2 k3 k4 k5 : Int32) (h : Heap) (p : Program) (e : Env) (s : State) (m : MethodId) (below : List Frame) (meth : Method) (c : Code) (lwA : Int32) (wA1 : Int32) (wA2 : Int32) (liA : Int32) (iA1 : Int32) (iA2 : Int32) (lpA : Int32) (pA : Int32) (leA : Int32) (eA : Int32) (laA : Int32) (aA : Int32) (olwA : len012 lwA) (owA1 : okC wA1) (owA2 : okC wA2) (oliA : len012 liA) (oiA1 : okC iA1) (oiA2 : okC iA2) (olpA : len012 lpA) (opA : okC pA) (oleA : len012 leA) (oeA : okS eA) (olaA : len012 laA) (oaA : okS aA) (r0 : Int32) (r1 : Int32) (r2 : Int32) (r3 : Int32) (r4 : Int32) (lwB : Int32) (wB1 : Int32) (wB2 : Int32) (liB : Int32) (iB1 : Int32) (iB2 : Int32) (lpB : Int32) (pB : Int32) (leB : Int32) (eB : Int32) (laB : Int32) (aB : Int32) (olwB : len012 lwB) (owB1 : okC wB1) (owB2 : okC wB2) (oliB : len012 liB) (oiB1 : okC iB1) (oiB2 : okC iB2) (olpB : len012 lpB) (opB : okC pB) (oleB : len012 leB) (oeB : okS eB) (olaB : len012 laB) (oaB : okS aB) (a1 s17 s25 s33 a46 s62 s70 s78 a91 s107 s115 a128 s144 s152 : Addr) (hh : Heap) (R165 : Exa Z hh a1 "com/example/pegwright/pegwright/Peg") (R166 : Fld Z hh a1 "com/example/pegwright/pegwright/Peg" "project" "Ljava/lang/String;" (.ref s17)) (R167 : Fld Z hh a1 "com/example/pegwright/pegwright/Peg" "element" "Ljava/lang/String;" (.ref s25)) (R168 : Fld Z hh a1 "com/example/pegwright/pegwright/Peg" "activity" "Ljava/lang/String;" (.ref s33)) (R169 : Str Z hh [] s17 (mkJ lpA pA pA)) (R170 : Str Z hh [] s25 (mkJ leA eA eA)) (R171 : Str Z hh [] s33 (mkJ laA aA aA)) (R172 : Exa Z hh a46 "com/example/pegwright/pegwright/Peg") (R173 : Fld Z hh a46 "com/example/pegwright/pegwright/Peg" "project" "Ljava/lang/String;" (.ref s62)) (R174 : Fld Z hh a46 "com/example/pegwright/pegwright/Peg" "element" "Ljava/lang/String;" (.ref s70)) (R175 : Fld Z hh a46 "com/example/pegwright/pegwright/Peg" "activity" "Ljava/lang/String;" (.ref s78)) (R176 : Str Z hh [] s62 (mkJ lpB pB pB)) (R177 : Str Z hh [] s70 (mkJ leB eB eB)) (R178 : Str Z hh [] s78 (mkJ laB aB aB)) (R179 : Exa Z hh a91 "com/example/pegwright/pegwright/PeggedStock$Key") (R180 : Fld Z hh a91 "com/example/pegwright/pegwright/PeggedStock$Key" "warehouse" "Ljava/lang/String;" (.ref s107)) (R181 : Fld Z hh a91 "com/example/pegwright/pegwright/PeggedStock$Key" "item" "Ljava/lang/String;" (.ref s115)) (R182 : Fld Z hh a91 "com/example/pegwright/pegwright/PeggedStock$Key" "peg" "Lcom/example/pegwright/pegwright/Peg;" (.ref a1)) (R183 : Str Z hh [] s107 (mkJ lwA wA1 wA2)) (R184 : Str Z hh [] s115 (mkJ liA iA1 iA2)) (R185 : Exa Z hh a128 "com/example/pegwright/pegwright/PeggedStock$Key") (R186 : Fld Z hh a128 "com/example/pegwright/pegwright/PeggedStock$Key" "warehouse" "Ljava/lang/String;" (.ref s144)) (R187 : Fld Z hh a128 "com/example/pegwright/pegwright/PeggedStock$Key" "item" "Ljava/lang/String;" (.ref s152)) (R188 : Fld Z hh a128 "com/example/pegwright/pegwright/PeggedStock$Key" "peg" "Lcom/example/pegwright/pegwright/Peg;" (.ref a46)) (R189 : Str Z hh [] s144 (mkJ lwB wB1 wB2)) (R190 : Str Z hh [] s152 (mkJ liB iB1 iB2)) (rf : Int32) (hrf : rf = if (mkJ lwA wA1 wA2) = (mkJ lwB wB1 wB2) ∧ (mkJ liA iA1 iA2) = (mkJ liB iB1 iB2) ∧ (mkJ lpA pA pA) = (mkJ lpB pB pB) ∧ (mkJ leA eA eA) = (mkJ leB eB eB) ∧ (mkJ laA aA aA) = (mkJ laB aB aB) then (1 : Int32) else 0) (T : State) (X : St p l e room_1 s m #[.int k0, .int k1, .int k2, .int k3, .int k4, .int k5] below meth c "com/example/pegwright/pegwright/KeyEqualsPinLaw" code maxLocals ret "law" Z EL nw [] [] T hh 96 1140) :
    OwnKit.Goes p e below s Z EL nw (fun v _ => v = some (.int 1)) (room_1).cells (room_1).slots (T.setTop (mkF m 618 #[.val (.int k0), .val (.int k1), .val (.int k2), .val (.int k3), .val (.int k4), .val (.int k5), .val (.int lwA), .val (.int wA1), .val (.int wA2), .val (.int liA), .val (.int iA1), .val (.int iA2), .val (.int lpA), .val (.int pA), .val (.int leA), .val (.int eA), .val (.int laA), .val (.int aA), .val (.int r0), .val (.int r1), .val (.int r2), .val (.int r3), .val (.int r4), .val (.int lwB), .val (.int wB1), .val (.int wB2), .val (.int liB), .val (.int iB1), .val (.int iB2), .val (.int lpB), .val (.int pB), .val (.int leB), .val (.int eB), .val (.int laB), .val (.int aB), .val (.ref a1), .val (.ref a46), .val (.ref a91), .val (.ref a128), .val (.int rf), .unset, .unset, .unset] [])) := by
  obtain ⟨hw, hEL, hSA, ⟨zc, SC, hz⟩, ⟨fm, SF, hfm⟩⟩ := id G
  refine g_iloadN X at_618 rfl 619 rfl ?_
  refine g_bipush X (16 : Int32) at_619 (by decide) 621 rfl ?_
  refine g_iushr X at_621 _ rfl 622 rfl ?_
  refine g_iconst X (3 : Int32) at_622 (by decide) 623 rfl ?_
  refine g_iand X at_623 _ rfl 624 rfl ?_
  refine g_istore X at_624 (Ls' := #[.val (.int k0), .val (.int k1), .val (.int k2), .val (.int k3), .val (.int k4), .val (.int k5), .val (.int lwA), .val (.int wA1), .val (.int wA2), .val (.int liA), .val (.int iA1), .val (.int iA2), .val (.int lpA), .val (.int pA), .val (.int leA), .val (.int eA), .val (.int laA), .val (.int aA), .val (.int r0), .val (.int r1), .val (.int r2), .val (.int r3), .val (.int r4), .val (.int lwB), .val (.int wB1), .val (.int wB2), .val (.int liB), .val (.int iB1), .val (.int iB2), .val (.int lpB), .val (.int pB), .val (.int leB), .val (.int eB), .val (.int laB), .val (.int aB), .val (.ref a1), .val (.ref a46), .val (.ref a91), .val (.ref a128), .val (.int rf), .val (.int ((XT.ushr k3 (16 : Int32)) &&& (3 : Int32))), .unset, .unset]) rfl 626 rfl ?_
  refine g_iload X at_626 rfl 628 rfl ?_
  refine g_iconst X (2 : Int32) at_628 (by decide) 629 rfl ?_
  by_cases hb629 : ((XT.ushr k3 (16 : Int32)) &&& (3 : Int32)) = (2 : Int32)
  · refine g_icmpNo X at_629 (XT.ii_ne_f hb629) 632 rfl ?_
    refine g_aconstNull X at_632 633 rfl ?_
    refine g_goto X at_633 649 (by decide) (by decide) ?_
    refine g_astore X at_649 rfl (Ls' := #[.val (.int k0), .val (.int k1), .val (.int k2), .val (.int k3), .val (.int k4), .val (.int k5), .val (.int lwA), .val (.int wA1), .val (.int wA2), .val (.int liA), .val (.int iA1), .val (.int iA2), .val (.int lpA), .val (.int pA), .val (.int leA), .val (.int eA), .val (.int laA), .val (.int aA), .val (.int r0), .val (.int r1), .val (.int r2), .val (.int r3), .val (.int r4), .val (.int lwB), .val (.int wB1), .val (.int wB2), .val (.int liB), .val (.int iB1), .val (.int iB2), .val (.int lpB), .val (.int pB), .val (.int leB), .val (.int eB), .val (.int laB), .val (.int aB), .val (.ref a1), .val (.ref a46), .val (.ref a91), .val (.ref a128), .val (.int rf), .val (.int ((XT.ushr k3 (16 : Int32)) &&& (3 : Int32))), .val (.null), .unset]) rfl 651 rfl ?_
    refine g_iload X at_651 rfl 653 rfl ?_
    refine g_iconst X (2 : Int32) at_653 (by decide) 654 rfl ?_
    refine g_icmpYes X at_654 (XT.ii_ge_t (by rw [hb629]; decide)) 666 (by decide) (by decide) ?_
    refine g_iconst X (0 : Int32) at_666 (by decide) 667 rfl ?_
    refine g_istore X at_667 (Ls' := #[.val (.int k0), .val (.int k1), .val (.int k2), .val (.int k3), .val (.int k4), .val (.int k5), .val (.int lwA), .val (.int wA1), .val (.int wA2), .val (.int liA), .val (.int iA1), .val (.int iA2), .val (.int lpA), .val (.int pA), .val (.int leA), .val (.int eA), .val (.int laA), .val (.int aA), .val (.int r0), .val (.int r1), .val (.int r2), .val (.int r3), .val (.int r4), .val (.int lwB), .val (.int wB1), .val (.int wB2), .val (.int liB), .val (.int iB1), .val (.int iB2), .val (.int lpB), .val (.int pB), .val (.int leB), .val (.int eB), .val (.int laB), .val (.int aB), .val (.ref a1), .val (.ref a46), .val (.ref a91), .val (.ref a128), .val (.int rf), .val (.int ((XT.ushr k3 (16 : Int32)) &&& (3 : Int32))), .val (.null), .val (.int (0 : Int32))]) rfl 669 rfl ?_
    refine g_aload X at_669 rfl rfl 671 rfl ?_
    refine g_aload X at_671 rfl rfl 673 rfl ?_
    refine g_callVp X (hw _ (List.mem_of_getElem? (i := 141) rfl)) (hw _ (List.mem_of_getElem? (i := 142) rfl)) (hw _ (List.mem_of_getElem? (i := 144) rfl)) (hw _ (List.mem_of_getElem? (i := 143) rfl)) (hw _ (List.mem_of_getElem? (i := 113) rfl)) (hw _ (List.mem_of_getElem? (i := 145) rfl)) (nfSel (hw _ (List.mem_of_getElem? (i := 144) rfl))) (by decide) R179 (c_ke0 l Z a0 G a91 hh) (by simp) (argsL := [.null]) (rest := []) pd_12 rfl rfl rfl rfl 0 (Nat.le_of_eq rfl) (by decide) (by decide) (ck := 96) rfl (cs := 1140) rfl (by decide) (by decide) at_673 676 rfl ?_
    intro w193 T191 X192 hq194
    subst hq194
    refine g_iload X192 at_676 rfl 678 rfl ?_
    refine g_icmpNo X192 at_678 (XT.ii_ne_f (by decide)) 681 rfl ?_
    refine g_aload X192 at_681 rfl rfl 683 rfl ?_
    refine g_aload X192 at_683 rfl rfl 685 rfl ?_
    refine g_callVp X192 (hw _ (List.mem_of_getElem? (i := 141) rfl)) (hw _ (List.mem_of_getElem? (i := 142) rfl)) (hw _ (List.mem_of_getElem? (i := 144) rfl)) (hw _ (List.mem_of_getElem? (i := 143) rfl)) (hw _ (List.mem_of_getElem? (i := 113) rfl)) (hw _ (List.mem_of_getElem? (i := 145) rfl)) (nfSel (hw _ (List.mem_of_getElem? (i := 144) rfl))) (by decide) R185 (c_ke2 l Z a0 G a128 a91 s144 s152 a46 s62 s70 s78 s107 s115 a1 s17 s25 s33 ([]) (mkJ lwB wB1 wB2) (mkJ liB iB1 iB2) (mkJ lpB pB pB) (mkJ leB eB eB) (mkJ laB aB aB) (mkJ lwA wA1 wA2) (mkJ liA iA1 iA2) (mkJ lpA pA pA) (mkJ leA eA eA) (mkJ laA aA aA) hh R185 R186 R187 R188 R189 R190 R172 R173 R174 R175 R176 R177 R178 R179 R180 R181 R182 R183 R184 R165 R166 R167 R168 R169 R170 R171) (by simp) (argsL := [.ref a91]) (rest := []) pd_12 rfl rfl rfl rfl 0 (Nat.le_of_eq rfl) (by decide) (by decide) (ck := 96) rfl (cs := 1140) rfl (by decide) (by decide) at_685 688 rfl ?_
    intro w197 T195 X196 hq198
    subst hq198
    refine g_iload X196 at_688 rfl 690 rfl ?_
    refine g_icmpNo X196 at_690 (XT.ii_ne_f (by rw [hrf]; exact if_iff ⟨fun ⟨a, b, c, d, e⟩ => ⟨a.symm, b.symm, c.symm, d.symm, e.symm⟩, fun ⟨a, b, c, d, e⟩ => ⟨a.symm, b.symm, c.symm, d.symm, e.symm⟩⟩)) 693 rfl ?_
    refine g_aload X196 at_693 rfl rfl 695 rfl ?_
    refine g_aload X196 at_695 rfl rfl 697 rfl ?_
    refine g_callVp X196 (hw _ (List.mem_of_getElem? (i := 141) rfl)) (hw _ (List.mem_of_getElem? (i := 142) rfl)) (hw _ (List.mem_of_getElem? (i := 144) rfl)) (hw _ (List.mem_of_getElem? (i := 143) rfl)) (hw _ (List.mem_of_getElem? (i := 113) rfl)) (hw _ (List.mem_of_getElem? (i := 145) rfl)) (nfSel (hw _ (List.mem_of_getElem? (i := 144) rfl))) (by decide) R179 (c_ke2 l Z a0 G a91 a91 s107 s115 a1 s17 s25 s33 s107 s115 a1 s17 s25 s33 ([]) (mkJ lwA wA1 wA2) (mkJ liA iA1 iA2) (mkJ lpA pA pA) (mkJ leA eA eA) (mkJ laA aA aA) (mkJ lwA wA1 wA2) (mkJ liA iA1 iA2) (mkJ lpA pA pA) (mkJ leA eA eA) (mkJ laA aA aA) hh R179 R180 R181 R182 R183 R184 R165 R166 R167 R168 R169 R170 R171 R179 R180 R181 R182 R183 R184 R165 R166 R167 R168 R169 R170 R171) (by simp) (argsL := [.ref a91]) (rest := []) pd_12 rfl rfl rfl rfl 0 (Nat.le_of_eq rfl) (by decide) (by decide) (ck := 96) rfl (cs := 1140) rfl (by decide) (by decide) at_697 700 rfl ?_
    intro w201 T199 X200 hq202
    subst hq202
    refine g_ifNo X200 at_700 (XT.ii_eq_f (by simp)) 703 rfl ?_
    refine g_iconst X200 (1 : Int32) at_703 (by decide) 704 rfl ?_
    refine g_goto X200 at_704 708 (by decide) (by decide) ?_
    exact g_retN X200 (t := .boolean) rfl (by simp) at_708 _ rfl (by decide) (by decide) rfl
  · refine g_icmpYes X at_629 (XT.ii_ne_t hb629) 636 (by decide) (by decide) ?_
    refine g_iload X at_636 rfl 638 rfl ?_
    refine g_iconst X (3 : Int32) at_638 (by decide) 639 rfl ?_
    by_cases hb639 : ((XT.ushr k3 (16 : Int32)) &&& (3 : Int32)) = (3 : Int32)
    · refine g_icmpNo X at_639 (XT.ii_ne_f hb639) 642 rfl ?_
      refine g_aload X at_642 rfl rfl 644 rfl ?_
      refine g_goto X at_644 649 (by decide) (by decide) ?_
      refine g_astore X at_649 rfl (Ls' := #[.val (.int k0), .val (.int k1), .val (.int k2), .val (.int k3), .val (.int k4), .val (.int k5), .val (.int lwA), .val (.int wA1), .val (.int wA2), .val (.int liA), .val (.int iA1), .val (.int iA2), .val (.int lpA), .val (.int pA), .val (.int leA), .val (.int eA), .val (.int laA), .val (.int aA), .val (.int r0), .val (.int r1), .val (.int r2), .val (.int r3), .val (.int r4), .val (.int lwB), .val (.int wB1), .val (.int wB2), .val (.int liB), .val (.int iB1), .val (.int iB2), .val (.int lpB), .val (.int pB), .val (.int leB), .val (.int eB), .val (.int laB), .val (.int aB), .val (.ref a1), .val (.ref a46), .val (.ref a91), .val (.ref a128), .val (.int rf), .val (.int ((XT.ushr k3 (16 : Int32)) &&& (3 : Int32))), .val (.ref a1), .unset]) rfl 651 rfl ?_
      refine g_iload X at_651 rfl 653 rfl ?_
      refine g_iconst X (2 : Int32) at_653 (by decide) 654 rfl ?_
      refine g_icmpYes X at_654 (XT.ii_ge_t (by rw [hb639]; decide)) 666 (by decide) (by decide) ?_
      refine g_iconst X (0 : Int32) at_666 (by decide) 667 rfl ?_
      refine g_istore X at_667 (Ls' := #[.val (.int k0), .val (.int k1), .val (.int k2), .val (.int k3), .val (.int k4), .val (.int k5), .val (.int lwA), .val (.int wA1), .val (.int wA2), .val (.int liA), .val (.int iA1), .val (.int iA2), .val (.int lpA), .val (.int pA), .val (.int leA), .val (.int eA), .val (.int laA), .val (.int aA), .val (.int r0), .val (.int r1), .val (.int r2), .val (.int r3), .val (.int r4), .val (.int lwB), .val (.int wB1), .val (.int wB2), .val (.int liB), .val (.int iB1), .val (.int iB2), .val (.int lpB), .val (.int pB), .val (.int leB), .val (.int eB), .val (.int laB), .val (.int aB), .val (.ref a1), .val (.ref a46), .val (.ref a91), .val (.ref a128), .val (.int rf), .val (.int ((XT.ushr k3 (16 : Int32)) &&& (3 : Int32))), .val (.ref a1), .val (.int (0 : Int32))]) rfl 669 rfl ?_
      refine g_aload X at_669 rfl rfl 671 rfl ?_
      refine g_aload X at_671 rfl rfl 673 rfl ?_
      refine g_callVp X (hw _ (List.mem_of_getElem? (i := 141) rfl)) (hw _ (List.mem_of_getElem? (i := 142) rfl)) (hw _ (List.mem_of_getElem? (i := 144) rfl)) (hw _ (List.mem_of_getElem? (i := 143) rfl)) (hw _ (List.mem_of_getElem? (i := 113) rfl)) (hw _ (List.mem_of_getElem? (i := 145) rfl)) (nfSel (hw _ (List.mem_of_getElem? (i := 144) rfl))) (by decide) R179 (c_keP l Z a0 G a91 a1 hh R165) (by simp) (argsL := [.ref a1]) (rest := []) pd_12 rfl rfl rfl rfl 0 (Nat.le_of_eq rfl) (by decide) (by decide) (ck := 96) rfl (cs := 1140) rfl (by decide) (by decide) at_673 676 rfl ?_
      intro w205 T203 X204 hq206
      subst hq206
      refine g_iload X204 at_676 rfl 678 rfl ?_
      refine g_icmpNo X204 at_678 (XT.ii_ne_f (by decide)) 681 rfl ?_
      refine g_aload X204 at_681 rfl rfl 683 rfl ?_
      refine g_aload X204 at_683 rfl rfl 685 rfl ?_
      refine g_callVp X204 (hw _ (List.mem_of_getElem? (i := 141) rfl)) (hw _ (List.mem_of_getElem? (i := 142) rfl)) (hw _ (List.mem_of_getElem? (i := 144) rfl)) (hw _ (List.mem_of_getElem? (i := 143) rfl)) (hw _ (List.mem_of_getElem? (i := 113) rfl)) (hw _ (List.mem_of_getElem? (i := 145) rfl)) (nfSel (hw _ (List.mem_of_getElem? (i := 144) rfl))) (by decide) R185 (c_ke2 l Z a0 G a128 a91 s144 s152 a46 s62 s70 s78 s107 s115 a1 s17 s25 s33 ([]) (mkJ lwB wB1 wB2) (mkJ liB iB1 iB2) (mkJ lpB pB pB) (mkJ leB eB eB) (mkJ laB aB aB) (mkJ lwA wA1 wA2) (mkJ liA iA1 iA2) (mkJ lpA pA pA) (mkJ leA eA eA) (mkJ laA aA aA) hh R185 R186 R187 R188 R189 R190 R172 R173 R174 R175 R176 R177 R178 R179 R180 R181 R182 R183 R184 R165 R166 R167 R168 R169 R170 R171) (by simp) (argsL := [.ref a91]) (rest := []) pd_12 rfl rfl rfl rfl 0 (Nat.le_of_eq rfl) (by decide) (by decide) (ck := 96) rfl (cs := 1140) rfl (by decide) (by decide) at_685 688 rfl ?_
      intro w209 T207 X208 hq210
      subst hq210
      refine g_iload X208 at_688 rfl 690 rfl ?_
      refine g_icmpNo X208 at_690 (XT.ii_ne_f (by rw [hrf]; exact if_iff ⟨fun ⟨a, b, c, d, e⟩ => ⟨a.symm, b.symm, c.symm, d.symm, e.symm⟩, fun ⟨a, b, c, d, e⟩ => ⟨a.symm, b.symm, c.symm, d.symm, e.symm⟩⟩)) 693 rfl ?_
      refine g_aload X208 at_693 rfl rfl 695 rfl ?_
      refine g_aload X208 at_695 rfl rfl 697 rfl ?_
      refine g_callVp X208 (hw _ (List.mem_of_getElem? (i := 141) rfl)) (hw _ (List.mem_of_getElem? (i := 142) rfl)) (hw _ (List.mem_of_getElem? (i := 144) rfl)) (hw _ (List.mem_of_getElem? (i := 143) rfl)) (hw _ (List.mem_of_getElem? (i := 113) rfl)) (hw _ (List.mem_of_getElem? (i := 145) rfl)) (nfSel (hw _ (List.mem_of_getElem? (i := 144) rfl))) (by decide) R179 (c_ke2 l Z a0 G a91 a91 s107 s115 a1 s17 s25 s33 s107 s115 a1 s17 s25 s33 ([]) (mkJ lwA wA1 wA2) (mkJ liA iA1 iA2) (mkJ lpA pA pA) (mkJ leA eA eA) (mkJ laA aA aA) (mkJ lwA wA1 wA2) (mkJ liA iA1 iA2) (mkJ lpA pA pA) (mkJ leA eA eA) (mkJ laA aA aA) hh R179 R180 R181 R182 R183 R184 R165 R166 R167 R168 R169 R170 R171 R179 R180 R181 R182 R183 R184 R165 R166 R167 R168 R169 R170 R171) (by simp) (argsL := [.ref a91]) (rest := []) pd_12 rfl rfl rfl rfl 0 (Nat.le_of_eq rfl) (by decide) (by decide) (ck := 96) rfl (cs := 1140) rfl (by decide) (by decide) at_697 700 rfl ?_
      intro w213 T211 X212 hq214
      subst hq214
      refine g_ifNo X212 at_700 (XT.ii_eq_f (by simp)) 703 rfl ?_
      refine g_iconst X212 (1 : Int32) at_703 (by decide) 704 rfl ?_
      refine g_goto X212 at_704 708 (by decide) (by decide) ?_
      exact g_retN X212 (t := .boolean) rfl (by simp) at_708 _ rfl (by decide) (by decide) rfl
    · refine g_icmpYes X at_639 (XT.ii_ne_t hb639) 647 (by decide) (by decide) ?_
      refine g_aload X at_647 rfl rfl 649 rfl ?_
      refine g_astore X at_649 rfl (Ls' := #[.val (.int k0), .val (.int k1), .val (.int k2), .val (.int k3), .val (.int k4), .val (.int k5), .val (.int lwA), .val (.int wA1), .val (.int wA2), .val (.int liA), .val (.int iA1), .val (.int iA2), .val (.int lpA), .val (.int pA), .val (.int leA), .val (.int eA), .val (.int laA), .val (.int aA), .val (.int r0), .val (.int r1), .val (.int r2), .val (.int r3), .val (.int r4), .val (.int lwB), .val (.int wB1), .val (.int wB2), .val (.int liB), .val (.int iB1), .val (.int iB2), .val (.int lpB), .val (.int pB), .val (.int leB), .val (.int eB), .val (.int laB), .val (.int aB), .val (.ref a1), .val (.ref a46), .val (.ref a91), .val (.ref a128), .val (.int rf), .val (.int ((XT.ushr k3 (16 : Int32)) &&& (3 : Int32))), .val (.ref a128), .unset]) rfl 651 rfl ?_
      refine g_iload X at_651 rfl 653 rfl ?_
      refine g_iconst X (2 : Int32) at_653 (by decide) 654 rfl ?_
      refine g_icmpNo X at_654 (XT.ii_ge_f (lt2 _ hb629 hb639)) 657 rfl ?_
      refine g_iload X at_657 rfl 659 rfl ?_
      by_cases hb659 : rf = (0 : Int32)
      · refine g_ifYes X at_659 (XT.ii_eq_t hb659) 666 (by decide) (by decide) ?_
        refine g_iconst X (0 : Int32) at_666 (by decide) 667 rfl ?_
        refine g_istore X at_667 (Ls' := #[.val (.int k0), .val (.int k1), .val (.int k2), .val (.int k3), .val (.int k4), .val (.int k5), .val (.int lwA), .val (.int wA1), .val (.int wA2), .val (.int liA), .val (.int iA1), .val (.int iA2), .val (.int lpA), .val (.int pA), .val (.int leA), .val (.int eA), .val (.int laA), .val (.int aA), .val (.int r0), .val (.int r1), .val (.int r2), .val (.int r3), .val (.int r4), .val (.int lwB), .val (.int wB1), .val (.int wB2), .val (.int liB), .val (.int iB1), .val (.int iB2), .val (.int lpB), .val (.int pB), .val (.int leB), .val (.int eB), .val (.int laB), .val (.int aB), .val (.ref a1), .val (.ref a46), .val (.ref a91), .val (.ref a128), .val (.int rf), .val (.int ((XT.ushr k3 (16 : Int32)) &&& (3 : Int32))), .val (.ref a128), .val (.int (0 : Int32))]) rfl 669 rfl ?_
        refine g_aload X at_669 rfl rfl 671 rfl ?_
        refine g_aload X at_671 rfl rfl 673 rfl ?_
        refine g_callVp X (hw _ (List.mem_of_getElem? (i := 141) rfl)) (hw _ (List.mem_of_getElem? (i := 142) rfl)) (hw _ (List.mem_of_getElem? (i := 144) rfl)) (hw _ (List.mem_of_getElem? (i := 143) rfl)) (hw _ (List.mem_of_getElem? (i := 113) rfl)) (hw _ (List.mem_of_getElem? (i := 145) rfl)) (nfSel (hw _ (List.mem_of_getElem? (i := 144) rfl))) (by decide) R179 (c_ke2 l Z a0 G a91 a128 s107 s115 a1 s17 s25 s33 s144 s152 a46 s62 s70 s78 ([]) (mkJ lwA wA1 wA2) (mkJ liA iA1 iA2) (mkJ lpA pA pA) (mkJ leA eA eA) (mkJ laA aA aA) (mkJ lwB wB1 wB2) (mkJ liB iB1 iB2) (mkJ lpB pB pB) (mkJ leB eB eB) (mkJ laB aB aB) hh R179 R180 R181 R182 R183 R184 R165 R166 R167 R168 R169 R170 R171 R185 R186 R187 R188 R189 R190 R172 R173 R174 R175 R176 R177 R178) (by simp) (argsL := [.ref a128]) (rest := []) pd_12 rfl rfl rfl rfl 0 (Nat.le_of_eq rfl) (by decide) (by decide) (ck := 96) rfl (cs := 1140) rfl (by decide) (by decide) at_673 676 rfl ?_
        intro w217 T215 X216 hq218
        subst hq218
        refine g_iload X216 at_676 rfl 678 rfl ?_
        refine g_icmpNo X216 at_678 (XT.ii_ne_f (hrf.symm.trans hb659)) 681 rfl ?_
        refine g_aload X216 at_681 rfl rfl 683 rfl ?_
        refine g_aload X216 at_683 rfl rfl 685 rfl ?_
        refine g_callVp X216 (hw _ (List.mem_of_getElem? (i := 141) rfl)) (hw _ (List.mem_of_getElem? (i := 142) rfl)) (hw _ (List.mem_of_getElem? (i := 144) rfl)) (hw _ (List.mem_of_getElem? (i := 143) rfl)) (hw _ (List.mem_of_getElem? (i := 113) rfl)) (hw _ (List.mem_of_getElem? (i := 145) rfl)) (nfSel (hw _ (List.mem_of_getElem? (i := 144) rfl))) (by decide) R185 (c_ke2 l Z a0 G a128 a91 s144 s152 a46 s62 s70 s78 s107 s115 a1 s17 s25 s33 ([]) (mkJ lwB wB1 wB2) (mkJ liB iB1 iB2) (mkJ lpB pB pB) (mkJ leB eB eB) (mkJ laB aB aB) (mkJ lwA wA1 wA2) (mkJ liA iA1 iA2) (mkJ lpA pA pA) (mkJ leA eA eA) (mkJ laA aA aA) hh R185 R186 R187 R188 R189 R190 R172 R173 R174 R175 R176 R177 R178 R179 R180 R181 R182 R183 R184 R165 R166 R167 R168 R169 R170 R171) (by simp) (argsL := [.ref a91]) (rest := []) pd_12 rfl rfl rfl rfl 0 (Nat.le_of_eq rfl) (by decide) (by decide) (ck := 96) rfl (cs := 1140) rfl (by decide) (by decide) at_685 688 rfl ?_
        intro w221 T219 X220 hq222
        subst hq222
        refine g_iload X220 at_688 rfl 690 rfl ?_
        refine g_icmpNo X220 at_690 (XT.ii_ne_f (by rw [hrf]; exact if_iff ⟨fun ⟨a, b, c, d, e⟩ => ⟨a.symm, b.symm, c.symm, d.symm, e.symm⟩, fun ⟨a, b, c, d, e⟩ => ⟨a.symm, b.symm, c.symm, d.symm, e.symm⟩⟩)) 693 rfl ?_
        refine g_aload X220 at_693 rfl rfl 695 rfl ?_
        refine g_aload X220 at_695 rfl rfl 697 rfl ?_
        refine g_callVp X220 (hw _ (List.mem_of_getElem? (i := 141) rfl)) (hw _ (List.mem_of_getElem? (i := 142) rfl)) (hw _ (List.mem_of_getElem? (i := 144) rfl)) (hw _ (List.mem_of_getElem? (i := 143) rfl)) (hw _ (List.mem_of_getElem? (i := 113) rfl)) (hw _ (List.mem_of_getElem? (i := 145) rfl)) (nfSel (hw _ (List.mem_of_getElem? (i := 144) rfl))) (by decide) R179 (c_ke2 l Z a0 G a91 a91 s107 s115 a1 s17 s25 s33 s107 s115 a1 s17 s25 s33 ([]) (mkJ lwA wA1 wA2) (mkJ liA iA1 iA2) (mkJ lpA pA pA) (mkJ leA eA eA) (mkJ laA aA aA) (mkJ lwA wA1 wA2) (mkJ liA iA1 iA2) (mkJ lpA pA pA) (mkJ leA eA eA) (mkJ laA aA aA) hh R179 R180 R181 R182 R183 R184 R165 R166 R167 R168 R169 R170 R171 R179 R180 R181 R182 R183 R184 R165 R166 R167 R168 R169 R170 R171) (by simp) (argsL := [.ref a91]) (rest := []) pd_12 rfl rfl rfl rfl 0 (Nat.le_of_eq rfl) (by decide) (by decide) (ck := 96) rfl (cs := 1140) rfl (by decide) (by decide) at_697 700 rfl ?_
        intro w225 T223 X224 hq226
        subst hq226
        refine g_ifNo X224 at_700 (XT.ii_eq_f (by simp)) 703 rfl ?_
        refine g_iconst X224 (1 : Int32) at_703 (by decide) 704 rfl ?_
        refine g_goto X224 at_704 708 (by decide) (by decide) ?_
        exact g_retN X224 (t := .boolean) rfl (by simp) at_708 _ rfl (by decide) (by decide) rfl
      · refine g_ifNo X at_659 (XT.ii_eq_f hb659) 662 rfl ?_
        refine g_iconst X (1 : Int32) at_662 (by decide) 663 rfl ?_
        refine g_goto X at_663 667 (by decide) (by decide) ?_
        refine g_istore X at_667 (Ls' := #[.val (.int k0), .val (.int k1), .val (.int k2), .val (.int k3), .val (.int k4), .val (.int k5), .val (.int lwA), .val (.int wA1), .val (.int wA2), .val (.int liA), .val (.int iA1), .val (.int iA2), .val (.int lpA), .val (.int pA), .val (.int leA), .val (.int eA), .val (.int laA), .val (.int aA), .val (.int r0), .val (.int r1), .val (.int r2), .val (.int r3), .val (.int r4), .val (.int lwB), .val (.int wB1), .val (.int wB2), .val (.int liB), .val (.int iB1), .val (.int iB2), .val (.int lpB), .val (.int pB), .val (.int leB), .val (.int eB), .val (.int laB), .val (.int aB), .val (.ref a1), .val (.ref a46), .val (.ref a91), .val (.ref a128), .val (.int rf), .val (.int ((XT.ushr k3 (16 : Int32)) &&& (3 : Int32))), .val (.ref a128), .val (.int (1 : Int32))]) rfl 669 rfl ?_
        refine g_aload X at_669 rfl rfl 671 rfl ?_
        refine g_aload X at_671 rfl rfl 673 rfl ?_
        refine g_callVp X (hw _ (List.mem_of_getElem? (i := 141) rfl)) (hw _ (List.mem_of_getElem? (i := 142) rfl)) (hw _ (List.mem_of_getElem? (i := 144) rfl)) (hw _ (List.mem_of_getElem? (i := 143) rfl)) (hw _ (List.mem_of_getElem? (i := 113) rfl)) (hw _ (List.mem_of_getElem? (i := 145) rfl)) (nfSel (hw _ (List.mem_of_getElem? (i := 144) rfl))) (by decide) R179 (c_ke2 l Z a0 G a91 a128 s107 s115 a1 s17 s25 s33 s144 s152 a46 s62 s70 s78 ([]) (mkJ lwA wA1 wA2) (mkJ liA iA1 iA2) (mkJ lpA pA pA) (mkJ leA eA eA) (mkJ laA aA aA) (mkJ lwB wB1 wB2) (mkJ liB iB1 iB2) (mkJ lpB pB pB) (mkJ leB eB eB) (mkJ laB aB aB) hh R179 R180 R181 R182 R183 R184 R165 R166 R167 R168 R169 R170 R171 R185 R186 R187 R188 R189 R190 R172 R173 R174 R175 R176 R177 R178) (by simp) (argsL := [.ref a128]) (rest := []) pd_12 rfl rfl rfl rfl 0 (Nat.le_of_eq rfl) (by decide) (by decide) (ck := 96) rfl (cs := 1140) rfl (by decide) (by decide) at_673 676 rfl ?_
        intro w229 T227 X228 hq230
        subst hq230
        refine g_iload X228 at_676 rfl 678 rfl ?_
        refine g_icmpNo X228 at_678 (XT.ii_ne_f (if1 (fun e => hb659 (hrf.trans e)))) 681 rfl ?_
        refine g_aload X228 at_681 rfl rfl 683 rfl ?_
        refine g_aload X228 at_683 rfl rfl 685 rfl ?_
        refine g_callVp X228 (hw _ (List.mem_of_getElem? (i := 141) rfl)) (hw _ (List.mem_of_getElem? (i := 142) rfl)) (hw _ (List.mem_of_getElem? (i := 144) rfl)) (hw _ (List.mem_of_getElem? (i := 143) rfl)) (hw _ (List.mem_of_getElem? (i := 113) rfl)) (hw _ (List.mem_of_getElem? (i := 145) rfl)) (nfSel (hw _ (List.mem_of_getElem? (i := 144) rfl))) (by decide) R185 (c_ke2 l Z a0 G a128 a91 s144 s152 a46 s62 s70 s78 s107 s115 a1 s17 s25 s33 ([]) (mkJ lwB wB1 wB2) (mkJ liB iB1 iB2) (mkJ lpB pB pB) (mkJ leB eB eB) (mkJ laB aB aB) (mkJ lwA wA1 wA2) (mkJ liA iA1 iA2) (mkJ lpA pA pA) (mkJ leA eA eA) (mkJ laA aA aA) hh R185 R186 R187 R188 R189 R190 R172 R173 R174 R175 R176 R177 R178 R179 R180 R181 R182 R183 R184 R165 R166 R167 R168 R169 R170 R171) (by simp) (argsL := [.ref a91]) (rest := []) pd_12 rfl rfl rfl rfl 0 (Nat.le_of_eq rfl) (by decide) (by decide) (ck := 96) rfl (cs := 1140) rfl (by decide) (by decide) at_685 688 rfl ?_
        intro w233 T231 X232 hq234
        subst hq234
        refine g_iload X232 at_688 rfl 690 rfl ?_
        refine g_icmpNo X232 at_690 (XT.ii_ne_f (by rw [hrf]; exact if_iff ⟨fun ⟨a, b, c, d, e⟩ => ⟨a.symm, b.symm, c.symm, d.symm, e.symm⟩, fun ⟨a, b, c, d, e⟩ => ⟨a.symm, b.symm, c.symm, d.symm, e.symm⟩⟩)) 693 rfl ?_
        refine g_aload X232 at_693 rfl rfl 695 rfl ?_
        refine g_aload X232 at_695 rfl rfl 697 rfl ?_
        refine g_callVp X232 (hw _ (List.mem_of_getElem? (i := 141) rfl)) (hw _ (List.mem_of_getElem? (i := 142) rfl)) (hw _ (List.mem_of_getElem? (i := 144) rfl)) (hw _ (List.mem_of_getElem? (i := 143) rfl)) (hw _ (List.mem_of_getElem? (i := 113) rfl)) (hw _ (List.mem_of_getElem? (i := 145) rfl)) (nfSel (hw _ (List.mem_of_getElem? (i := 144) rfl))) (by decide) R179 (c_ke2 l Z a0 G a91 a91 s107 s115 a1 s17 s25 s33 s107 s115 a1 s17 s25 s33 ([]) (mkJ lwA wA1 wA2) (mkJ liA iA1 iA2) (mkJ lpA pA pA) (mkJ leA eA eA) (mkJ laA aA aA) (mkJ lwA wA1 wA2) (mkJ liA iA1 iA2) (mkJ lpA pA pA) (mkJ leA eA eA) (mkJ laA aA aA) hh R179 R180 R181 R182 R183 R184 R165 R166 R167 R168 R169 R170 R171 R179 R180 R181 R182 R183 R184 R165 R166 R167 R168 R169 R170 R171) (by simp) (argsL := [.ref a91]) (rest := []) pd_12 rfl rfl rfl rfl 0 (Nat.le_of_eq rfl) (by decide) (by decide) (ck := 96) rfl (cs := 1140) rfl (by decide) (by decide) at_697 700 rfl ?_
        intro w237 T235 X236 hq238
        subst hq238
        refine g_ifNo X236 at_700 (XT.ii_eq_f (by simp)) 703 rfl ?_
        refine g_iconst X236 (1 : Int32) at_703 (by decide) 704 rfl ?_
        refine g_goto X236 at_704 708 (by decide) (by decide) ?_
        exact g_retN X236 (t := .boolean) rfl (by simp) at_708 _ rfl (by decide) (by decide) rfl
set_option maxRecDepth 65536 in
set_option maxHeartbeats 40000000 in
theorem J391 (l : Launch) (Z : State) (a0 : Array Value) (G : Gl Z a0) (k0 k1 k2 k3 k4 k5 : Int32) (h : Heap) (p : Program) (e : Env) (s : State) (m : MethodId) (below : List Frame) (meth : Method) (c : Code) (lwA : Int32) (wA1 : Int32) (wA2 : Int32) (liA : Int32) (iA1 : Int32) (iA2 : Int32) (lpA : Int32) (pA : Int32) (leA : Int32) (eA : Int32) (laA : Int32) (aA : Int32) (olwA : len012 lwA) (owA1 : okC wA1) (owA2 : okC wA2) (oliA : len012 liA) (oiA1 : okC iA1) (oiA2 : okC iA2) (olpA : len012 lpA) (opA : okC pA) (oleA : len012 leA) (oeA : okS eA) (olaA : len012 laA) (oaA : okS aA) (r0 : Int32) (r1 : Int32) (r2 : Int32) (r3 : Int32) (r4 : Int32) (lwB : Int32) (wB1 : Int32) (wB2 : Int32) (liB : Int32) (iB1 : Int32) (iB2 : Int32) (lpB : Int32) (pB : Int32) (leB : Int32) (eB : Int32) (laB : Int32) (aB : Int32) (olwB : len012 lwB) (owB1 : okC wB1) (owB2 : okC wB2) (oliB : len012 liB) (oiB1 : okC iB1) (oiB2 : okC iB2) (olpB : len012 lpB) (opB : okC pB) (oleB : len012 leB) (oeB : okS eB) (olaB : len012 laB) (oaB : okS aB) (T : State) (X : St p l e room_1 s m #[.int k0, .int k1, .int k2, .int k3, .int k4, .int k5] below meth c "com/example/pegwright/pegwright/KeyEqualsPinLaw" code maxLocals ret "law" Z EL nw [] [] T h 0 0) :
    OwnKit.Goes p e below s Z EL nw (fun v _ => v = some (.int 1)) (room_1).cells (room_1).slots (T.setTop (mkF m 391 #[.val (.int k0), .val (.int k1), .val (.int k2), .val (.int k3), .val (.int k4), .val (.int k5), .val (.int lwA), .val (.int wA1), .val (.int wA2), .val (.int liA), .val (.int iA1), .val (.int iA2), .val (.int lpA), .val (.int pA), .val (.int leA), .val (.int eA), .val (.int laA), .val (.int aA), .val (.int r0), .val (.int r1), .val (.int r2), .val (.int r3), .val (.int r4), .val (.int lwB), .val (.int wB1), .val (.int wB2), .val (.int liB), .val (.int iB1), .val (.int iB2), .val (.int lpB), .val (.int pB), .val (.int leB), .val (.int eB), .val (.int laB), .val (.int aB), .unset, .unset, .unset, .unset, .unset, .unset, .unset, .unset] [])) := by
  obtain ⟨hw, hEL, hSA, ⟨zc, SC, hz⟩, ⟨fm, SF, hfm⟩⟩ := id G
  refine g_new X (hw _ (List.mem_of_getElem? (i := 7) rfl)) (hw _ (List.mem_of_getElem? (i := 8) rfl)) (hw _ (List.mem_of_getElem? (i := 9) rfl)) at_391 (ck := 1) rfl (cs := 3) rfl (by decide) (by decide) 394 rfl ?_
  intro a1 T2 h3 ea4 X5 E6 A7 D8
  have F9 : Fld Z h3 a1 "com/example/pegwright/pegwright/Peg" "project" "Ljava/lang/String;" (.null) := D8 (Or.inr (hw _ (List.mem_of_getElem? (i := 106) rfl))) (ty := (.object "java/lang/String")) (by decide +kernel)
  have F10 : Fld Z h3 a1 "com/example/pegwright/pegwright/Peg" "element" "Ljava/lang/String;" (.null) := D8 (Or.inr (hw _ (List.mem_of_getElem? (i := 108) rfl))) (ty := (.object "java/lang/String")) (by decide +kernel)
  have F11 : Fld Z h3 a1 "com/example/pegwright/pegwright/Peg" "activity" "Ljava/lang/String;" (.null) := D8 (Or.inr (hw _ (List.mem_of_getElem? (i := 110) rfl))) (ty := (.object "java/lang/String")) (by decide +kernel)
  refine g_dup X5 at_394 rfl 395 rfl ?_
  refine g_iload X5 at_395 rfl 397 rfl ?_
  refine g_iload X5 at_397 rfl 399 rfl ?_
  refine g_iload X5 at_399 rfl 401 rfl ?_
  refine g_callSv X5 (hw _ (List.mem_of_getElem? (i := 10) rfl)) (hw _ (List.mem_of_getElem? (i := 11) rfl)) (hw _ (List.mem_of_getElem? (i := 2) rfl)) (hw _ (List.mem_of_getElem? (i := 12) rfl)) (by decide) (c_mk l Z a0 G lpA pA pA ([a1]) h3 opA.1 opA.1) (fun _ q => q) (argsL := [.int lpA, .int pA, .int pA]) (rest := [.ref a1, .ref a1]) pd_1 rfl rfl rfl rfl 2 (Nat.le_of_eq rfl) (by decide) (by decide) (ck := 5) rfl (cs := 11) rfl (by decide) (by decide) at_401 404 rfl ?_
  intro w14 T12 h16 X13 hq15
  obtain ⟨s17, rfl, E18, S19⟩ := hq15
  refine g_iload X13 at_404 rfl 406 rfl ?_
  refine g_iload X13 at_406 rfl 408 rfl ?_
  refine g_iload X13 at_408 rfl 410 rfl ?_
  refine g_callSv X13 (hw _ (List.mem_of_getElem? (i := 10) rfl)) (hw _ (List.mem_of_getElem? (i := 11) rfl)) (hw _ (List.mem_of_getElem? (i := 2) rfl)) (hw _ (List.mem_of_getElem? (i := 12) rfl)) (by decide) (c_mk l Z a0 G leA eA eA ([a1]) h16 oeA.1.1 oeA.1.1) (fun _ q => q) (argsL := [.int leA, .int eA, .int eA]) (rest := [.ref s17, .ref a1, .ref a1]) pd_1 rfl rfl rfl rfl 3 (Nat.le_of_eq rfl) (by decide) (by decide) (ck := 9) rfl (cs := 19) rfl (by decide) (by decide) at_410 413 rfl ?_
  intro w22 T20 h24 X21 hq23
  obtain ⟨s25, rfl, E26, S27⟩ := hq23
  refine g_iload X21 at_413 rfl 415 rfl ?_
  refine g_iload X21 at_415 rfl 417 rfl ?_
  refine g_iload X21 at_417 rfl 419 rfl ?_
  refine g_callSv X21 (hw _ (List.mem_of_getElem? (i := 10) rfl)) (hw _ (List.mem_of_getElem? (i := 11) rfl)) (hw _ (List.mem_of_getElem? (i := 2) rfl)) (hw _ (List.mem_of_getElem? (i := 12) rfl)) (by decide) (c_mk l Z a0 G laA aA aA ([a1]) h24 oaA.1.1 oaA.1.1) (fun _ q => q) (argsL := [.int laA, .int aA, .int aA]) (rest := [.ref s25, .ref s17, .ref a1, .ref a1]) pd_1 rfl rfl rfl rfl 4 (Nat.le_of_eq rfl) (by decide) (by decide) (ck := 13) rfl (cs := 27) rfl (by decide) (by decide) at_419 422 rfl ?_
  intro w30 T28 h32 X29 hq31
  obtain ⟨s33, rfl, E34, S35⟩ := hq31
  refine g_callIn X29 rfl (hw _ (List.mem_of_getElem? (i := 35) rfl)) (hw _ (List.mem_of_getElem? (i := 36) rfl)) (hw _ (List.mem_of_getElem? (i := 9) rfl)) (hw _ (List.mem_of_getElem? (i := 37) rfl)) (by decide) (c_pinit l Z a0 G a1 s17 s25 s33 [] (mkJ lpA pA pA) (mkJ leA eA eA) (mkJ laA aA aA) h32 (((A7.ext E18).ext E26).ext E34) (((F9.ext E18).ext E26).ext E34) (((F10.ext E18).ext E26).ext E34) (((F11.ext E18).ext E26).ext E34) ((S19.ext E26).ext E34) (S27.ext E34) S35 (mkJ_iso opA.2 opA.2) (mkJ_iso oeA.1.2 oeA.1.2) (mkJ_iso oaA.1.2 oaA.1.2) (mkJ_len _ _ _) (mkJ_ns oeA.2 oeA.2) (mkJ_len _ _ _) (mkJ_ns oaA.2 oaA.2)) (by simp) (argsL := [.ref s17, .ref s25, .ref s33]) (rest := [.ref a1]) pd_11 rfl rfl rfl rfl 1 (Nat.le_of_eq rfl) (by decide) (by decide) (ck := 29) rfl (cs := 339) rfl (by decide) (by decide) at_422 425 rfl ?_
  intro T36 h39 X37 hq38
  obtain ⟨K40, E41, F42, F43, F44⟩ := hq38
  have X45 := X37.sub (us' := []) (by simp)
  refine g_astore X45 at_425 rfl (Ls' := #[.val (.int k0), .val (.int k1), .val (.int k2), .val (.int k3), .val (.int k4), .val (.int k5), .val (.int lwA), .val (.int wA1), .val (.int wA2), .val (.int liA), .val (.int iA1), .val (.int iA2), .val (.int lpA), .val (.int pA), .val (.int leA), .val (.int eA), .val (.int laA), .val (.int aA), .val (.int r0), .val (.int r1), .val (.int r2), .val (.int r3), .val (.int r4), .val (.int lwB), .val (.int wB1), .val (.int wB2), .val (.int liB), .val (.int iB1), .val (.int iB2), .val (.int lpB), .val (.int pB), .val (.int leB), .val (.int eB), .val (.int laB), .val (.int aB), .val (.ref a1), .unset, .unset, .unset, .unset, .unset, .unset, .unset]) rfl 427 rfl ?_
  refine g_new X45 (hw _ (List.mem_of_getElem? (i := 7) rfl)) (hw _ (List.mem_of_getElem? (i := 8) rfl)) (hw _ (List.mem_of_getElem? (i := 9) rfl)) at_427 (ck := 30) rfl (cs := 342) rfl (by decide) (by decide) 430 rfl ?_
  intro a46 T47 h48 ea49 X50 E51 A52 D53
  have ne_a1_a46 : a1 ≠ a46 := by rw [ea49]; exact Nat.ne_of_lt E41.lt
  have ne_s17_a46 : s17 ≠ a46 := by rw [ea49]; exact Nat.ne_of_lt ((((S19.ext E26).ext E34).keep K40 (by simp)).sub (us' := []) (by simp)).lt
  have ne_s25_a46 : s25 ≠ a46 := by rw [ea49]; exact Nat.ne_of_lt (((S27.ext E34).keep K40 (by simp)).sub (us' := []) (by simp)).lt
  have ne_s33_a46 : s33 ≠ a46 := by rw [ea49]; exact Nat.ne_of_lt ((S35.keep K40 (by simp)).sub (us' := []) (by simp)).lt
  have F54 : Fld Z h48 a46 "com/example/pegwright/pegwright/Peg" "project" "Ljava/lang/String;" (.null) := D53 (Or.inr (hw _ (List.mem_of_getElem? (i := 106) rfl))) (ty := (.object "java/lang/String")) (by decide +kernel)
  have F55 : Fld Z h48 a46 "com/example/pegwright/pegwright/Peg" "element" "Ljava/lang/String;" (.null) := D53 (Or.inr (hw _ (List.mem_of_getElem? (i := 108) rfl))) (ty := (.object "java/lang/String")) (by decide +kernel)
  have F56 : Fld Z h48 a46 "com/example/pegwright/pegwright/Peg" "activity" "Ljava/lang/String;" (.null) := D53 (Or.inr (hw _ (List.mem_of_getElem? (i := 110) rfl))) (ty := (.object "java/lang/String")) (by decide +kernel)
  refine g_dup X50 at_430 rfl 431 rfl ?_
  refine g_iload X50 at_431 rfl 433 rfl ?_
  refine g_iload X50 at_433 rfl 435 rfl ?_
  refine g_iload X50 at_435 rfl 437 rfl ?_
  refine g_callSv X50 (hw _ (List.mem_of_getElem? (i := 10) rfl)) (hw _ (List.mem_of_getElem? (i := 11) rfl)) (hw _ (List.mem_of_getElem? (i := 2) rfl)) (hw _ (List.mem_of_getElem? (i := 12) rfl)) (by decide) (c_mk l Z a0 G lpB pB pB ([a46]) h48 opB.1 opB.1) (fun _ q => q) (argsL := [.int lpB, .int pB, .int pB]) (rest := [.ref a46, .ref a46]) pd_1 rfl rfl rfl rfl 2 (Nat.le_of_eq rfl) (by decide) (by decide) (ck := 34) rfl (cs := 350) rfl (by decide) (by decide) at_437 440 rfl ?_
  intro w59 T57 h61 X58 hq60
  obtain ⟨s62, rfl, E63, S64⟩ := hq60
  refine g_iload X58 at_440 rfl 442 rfl ?_
  refine g_iload X58 at_442 rfl 444 rfl ?_
  refine g_iload X58 at_444 rfl 446 rfl ?_
  refine g_callSv X58 (hw _ (List.mem_of_getElem? (i := 10) rfl)) (hw _ (List.mem_of_getElem? (i := 11) rfl)) (hw _ (List.mem_of_getElem? (i := 2) rfl)) (hw _ (List.mem_of_getElem? (i := 12) rfl)) (by decide) (c_mk l Z a0 G leB eB eB ([a46]) h61 oeB.1.1 oeB.1.1) (fun _ q => q) (argsL := [.int leB, .int eB, .int eB]) (rest := [.ref s62, .ref a46, .ref a46]) pd_1 rfl rfl rfl rfl 3 (Nat.le_of_eq rfl) (by decide) (by decide) (ck := 38) rfl (cs := 358) rfl (by decide) (by decide) at_446 449 rfl ?_
  intro w67 T65 h69 X66 hq68
  obtain ⟨s70, rfl, E71, S72⟩ := hq68
  refine g_iload X66 at_449 rfl 451 rfl ?_
  refine g_iload X66 at_451 rfl 453 rfl ?_
  refine g_iload X66 at_453 rfl 455 rfl ?_
  refine g_callSv X66 (hw _ (List.mem_of_getElem? (i := 10) rfl)) (hw _ (List.mem_of_getElem? (i := 11) rfl)) (hw _ (List.mem_of_getElem? (i := 2) rfl)) (hw _ (List.mem_of_getElem? (i := 12) rfl)) (by decide) (c_mk l Z a0 G laB aB aB ([a46]) h69 oaB.1.1 oaB.1.1) (fun _ q => q) (argsL := [.int laB, .int aB, .int aB]) (rest := [.ref s70, .ref s62, .ref a46, .ref a46]) pd_1 rfl rfl rfl rfl 4 (Nat.le_of_eq rfl) (by decide) (by decide) (ck := 42) rfl (cs := 366) rfl (by decide) (by decide) at_455 458 rfl ?_
  intro w75 T73 h77 X74 hq76
  obtain ⟨s78, rfl, E79, S80⟩ := hq76
  refine g_callIn X74 rfl (hw _ (List.mem_of_getElem? (i := 35) rfl)) (hw _ (List.mem_of_getElem? (i := 36) rfl)) (hw _ (List.mem_of_getElem? (i := 9) rfl)) (hw _ (List.mem_of_getElem? (i := 37) rfl)) (by decide) (c_pinit l Z a0 G a46 s62 s70 s78 [] (mkJ lpB pB pB) (mkJ leB eB eB) (mkJ laB aB aB) h77 (((A52.ext E63).ext E71).ext E79) (((F54.ext E63).ext E71).ext E79) (((F55.ext E63).ext E71).ext E79) (((F56.ext E63).ext E71).ext E79) ((S64.ext E71).ext E79) (S72.ext E79) S80 (mkJ_iso opB.2 opB.2) (mkJ_iso oeB.1.2 oeB.1.2) (mkJ_iso oaB.1.2 oaB.1.2) (mkJ_len _ _ _) (mkJ_ns oeB.2 oeB.2) (mkJ_len _ _ _) (mkJ_ns oaB.2 oaB.2)) (by simp) (argsL := [.ref s62, .ref s70, .ref s78]) (rest := [.ref a46]) pd_11 rfl rfl rfl rfl 1 (Nat.le_of_eq rfl) (by decide) (by decide) (ck := 58) rfl (cs := 678) rfl (by decide) (by decide) at_458 461 rfl ?_
  intro T81 h84 X82 hq83
  obtain ⟨K85, E86, F87, F88, F89⟩ := hq83
  have X90 := X82.sub (us' := []) (by simp)
  refine g_astore X90 at_461 rfl (Ls' := #[.val (.int k0), .val (.int k1), .val (.int k2), .val (.int k3), .val (.int k4), .val (.int k5), .val (.int lwA), .val (.int wA1), .val (.int wA2), .val (.int liA), .val (.int iA1), .val (.int iA2), .val (.int lpA), .val (.int pA), .val (.int leA), .val (.int eA), .val (.int laA), .val (.int aA), .val (.int r0), .val (.int r1), .val (.int r2), .val (.int r3), .val (.int r4), .val (.int lwB), .val (.int wB1), .val (.int wB2), .val (.int liB), .val (.int iB1), .val (.int iB2), .val (.int lpB), .val (.int pB), .val (.int leB), .val (.int eB), .val (.int laB), .val (.int aB), .val (.ref a1), .val (.ref a46), .unset, .unset, .unset, .unset, .unset, .unset]) rfl 463 rfl ?_
  refine g_new X90 (hw _ (List.mem_of_getElem? (i := 111) rfl)) (hw _ (List.mem_of_getElem? (i := 112) rfl)) (hw _ (List.mem_of_getElem? (i := 113) rfl)) at_463 (ck := 59) rfl (cs := 681) rfl (by decide) (by decide) 466 rfl ?_
  intro a91 T92 h93 ea94 X95 E96 A97 D98
  have ne_a1_a91 : a1 ≠ a91 := by rw [ea94]; exact Nat.ne_of_lt (((((E41.ext E51).ext E63).ext E71).ext E79).keep K85).lt
  have ne_s17_a91 : s17 ≠ a91 := by rw [ea94]; exact Nat.ne_of_lt ((((((((((S19.ext E26).ext E34).keep K40 (by simp)).sub (us' := []) (by simp)).grow E51 ea49).ext E63).ext E71).ext E79).keep K85 (by simp)).sub (us' := []) (by simp)).lt
  have ne_s25_a91 : s25 ≠ a91 := by rw [ea94]; exact Nat.ne_of_lt (((((((((S27.ext E34).keep K40 (by simp)).sub (us' := []) (by simp)).grow E51 ea49).ext E63).ext E71).ext E79).keep K85 (by simp)).sub (us' := []) (by simp)).lt
  have ne_s33_a91 : s33 ≠ a91 := by rw [ea94]; exact Nat.ne_of_lt ((((((((S35.keep K40 (by simp)).sub (us' := []) (by simp)).grow E51 ea49).ext E63).ext E71).ext E79).keep K85 (by simp)).sub (us' := []) (by simp)).lt
  have ne_a46_a91 : a46 ≠ a91 := by rw [ea94]; exact Nat.ne_of_lt E86.lt
  have ne_s62_a91 : s62 ≠ a91 := by rw [ea94]; exact Nat.ne_of_lt ((((S64.ext E71).ext E79).keep K85 (by simp)).sub (us' := []) (by simp)).lt
  have ne_s70_a91 : s70 ≠ a91 := by rw [ea94]; exact Nat.ne_of_lt (((S72.ext E79).keep K85 (by simp)).sub (us' := []) (by simp)).lt
  have ne_s78_a91 : s78 ≠ a91 := by rw [ea94]; exact Nat.ne_of_lt ((S80.keep K85 (by simp)).sub (us' := []) (by simp)).lt
  have F99 : Fld Z h93 a91 "com/example/pegwright/pegwright/PeggedStock$Key" "warehouse" "Ljava/lang/String;" (.null) := D98 (Or.inr (hw _ (List.mem_of_getElem? (i := 133) rfl))) (ty := (.object "java/lang/String")) (by decide +kernel)
  have F100 : Fld Z h93 a91 "com/example/pegwright/pegwright/PeggedStock$Key" "item" "Ljava/lang/String;" (.null) := D98 (Or.inr (hw _ (List.mem_of_getElem? (i := 135) rfl))) (ty := (.object "java/lang/String")) (by decide +kernel)
  have F101 : Fld Z h93 a91 "com/example/pegwright/pegwright/PeggedStock$Key" "peg" "Lcom/example/pegwright/pegwright/Peg;" (.null) := D98 (Or.inr (hw _ (List.mem_of_getElem? (i := 137) rfl))) (ty := (.object "com/example/pegwright/pegwright/Peg")) (by decide +kernel)
  refine g_dup X95 at_466 rfl 467 rfl ?_
  refine g_iload X95 at_467 rfl 469 rfl ?_
  refine g_iload X95 at_469 rfl 471 rfl ?_
  refine g_iload X95 at_471 rfl 473 rfl ?_
  refine g_callSv X95 (hw _ (List.mem_of_getElem? (i := 10) rfl)) (hw _ (List.mem_of_getElem? (i := 11) rfl)) (hw _ (List.mem_of_getElem? (i := 2) rfl)) (hw _ (List.mem_of_getElem? (i := 12) rfl)) (by decide) (c_mk l Z a0 G lwA wA1 wA2 ([a91]) h93 owA1.1 owA2.1) (fun _ q => q) (argsL := [.int lwA, .int wA1, .int wA2]) (rest := [.ref a91, .ref a91]) pd_1 rfl rfl rfl rfl 2 (Nat.le_of_eq rfl) (by decide) (by decide) (ck := 63) rfl (cs := 689) rfl (by decide) (by decide) at_473 476 rfl ?_
  intro w104 T102 h106 X103 hq105
  obtain ⟨s107, rfl, E108, S109⟩ := hq105
  refine g_iload X103 at_476 rfl 478 rfl ?_
  refine g_iload X103 at_478 rfl 480 rfl ?_
  refine g_iload X103 at_480 rfl 482 rfl ?_
  refine g_callSv X103 (hw _ (List.mem_of_getElem? (i := 10) rfl)) (hw _ (List.mem_of_getElem? (i := 11) rfl)) (hw _ (List.mem_of_getElem? (i := 2) rfl)) (hw _ (List.mem_of_getElem? (i := 12) rfl)) (by decide) (c_mk l Z a0 G liA iA1 iA2 ([a91]) h106 oiA1.1 oiA2.1) (fun _ q => q) (argsL := [.int liA, .int iA1, .int iA2]) (rest := [.ref s107, .ref a91, .ref a91]) pd_1 rfl rfl rfl rfl 3 (Nat.le_of_eq rfl) (by decide) (by decide) (ck := 67) rfl (cs := 697) rfl (by decide) (by decide) at_482 485 rfl ?_
  intro w112 T110 h114 X111 hq113
  obtain ⟨s115, rfl, E116, S117⟩ := hq113
  refine g_aload X111 at_485 rfl rfl 487 rfl ?_
  refine g_callIn X111 rfl (hw _ (List.mem_of_getElem? (i := 114) rfl)) (hw _ (List.mem_of_getElem? (i := 115) rfl)) (hw _ (List.mem_of_getElem? (i := 113) rfl)) (hw _ (List.mem_of_getElem? (i := 116) rfl)) (by decide) (c_kinit l Z a0 G a91 s107 s115 a1 [] (mkJ lwA wA1 wA2) (mkJ liA iA1 iA2) h114 ((A97.ext E108).ext E116) ((F99.ext E108).ext E116) ((F100.ext E108).ext E116) ((F101.ext E108).ext E116) (S109.ext E116) S117 (mkJ_iso owA1.2 owA2.2) (mkJ_iso oiA1.2 oiA2.2)) (by simp) (argsL := [.ref s107, .ref s115, .ref a1]) (rest := [.ref a91]) pd_4 rfl rfl rfl rfl 1 (Nat.le_of_eq rfl) (by decide) (by decide) (ck := 77) rfl (cs := 909) rfl (by decide) (by decide) at_487 490 rfl ?_
  intro T118 h121 X119 hq120
  obtain ⟨K122, E123, F124, F125, F126⟩ := hq120
  have X127 := X119.sub (us' := []) (by simp)
  refine g_astore X127 at_490 rfl (Ls' := #[.val (.int k0), .val (.int k1), .val (.int k2), .val (.int k3), .val (.int k4), .val (.int k5), .val (.int lwA), .val (.int wA1), .val (.int wA2), .val (.int liA), .val (.int iA1), .val (.int iA2), .val (.int lpA), .val (.int pA), .val (.int leA), .val (.int eA), .val (.int laA), .val (.int aA), .val (.int r0), .val (.int r1), .val (.int r2), .val (.int r3), .val (.int r4), .val (.int lwB), .val (.int wB1), .val (.int wB2), .val (.int liB), .val (.int iB1), .val (.int iB2), .val (.int lpB), .val (.int pB), .val (.int leB), .val (.int eB), .val (.int laB), .val (.int aB), .val (.ref a1), .val (.ref a46), .val (.ref a91), .unset, .unset, .unset, .unset, .unset]) rfl 492 rfl ?_
  refine g_new X127 (hw _ (List.mem_of_getElem? (i := 111) rfl)) (hw _ (List.mem_of_getElem? (i := 112) rfl)) (hw _ (List.mem_of_getElem? (i := 113) rfl)) at_492 (ck := 78) rfl (cs := 912) rfl (by decide) (by decide) 495 rfl ?_
  intro a128 T129 h130 ea131 X132 E133 A134 D135
  have ne_a1_a128 : a1 ≠ a128 := by rw [ea131]; exact Nat.ne_of_lt (((((((((E41.ext E51).ext E63).ext E71).ext E79).keep K85).ext E96).ext E108).ext E116).keep K122).lt
  have ne_s17_a128 : s17 ≠ a128 := by rw [ea131]; exact Nat.ne_of_lt (((((((((((((((S19.ext E26).ext E34).keep K40 (by simp)).sub (us' := []) (by simp)).grow E51 ea49).ext E63).ext E71).ext E79).keep K85 (by simp)).sub (us' := []) (by simp)).grow E96 ea94).ext E108).ext E116).keep K122 (by simp)).sub (us' := []) (by simp)).lt
  have ne_s25_a128 : s25 ≠ a128 := by rw [ea131]; exact Nat.ne_of_lt ((((((((((((((S27.ext E34).keep K40 (by simp)).sub (us' := []) (by simp)).grow E51 ea49).ext E63).ext E71).ext E79).keep K85 (by simp)).sub (us' := []) (by simp)).grow E96 ea94).ext E108).ext E116).keep K122 (by simp)).sub (us' := []) (by simp)).lt
  have ne_s33_a128 : s33 ≠ a128 := by rw [ea131]; exact Nat.ne_of_lt (((((((((((((S35.keep K40 (by simp)).sub (us' := []) (by simp)).grow E51 ea49).ext E63).ext E71).ext E79).keep K85 (by simp)).sub (us' := []) (by simp)).grow E96 ea94).ext E108).ext E116).keep K122 (by simp)).sub (us' := []) (by simp)).lt
  have ne_a46_a128 : a46 ≠ a128 := by rw [ea131]; exact Nat.ne_of_lt ((((E86.ext E96).ext E108).ext E116).keep K122).lt
  have ne_s62_a128 : s62 ≠ a128 := by rw [ea131]; exact Nat.ne_of_lt (((((((((S64.ext E71).ext E79).keep K85 (by simp)).sub (us' := []) (by simp)).grow E96 ea94).ext E108).ext E116).keep K122 (by simp)).sub (us' := []) (by simp)).lt
  have ne_s70_a128 : s70 ≠ a128 := by rw [ea131]; exact Nat.ne_of_lt ((((((((S72.ext E79).keep K85 (by simp)).sub (us' := []) (by simp)).grow E96 ea94).ext E108).ext E116).keep K122 (by simp)).sub (us' := []) (by simp)).lt
  have ne_s78_a128 : s78 ≠ a128 := by rw [ea131]; exact Nat.ne_of_lt (((((((S80.keep K85 (by simp)).sub (us' := []) (by simp)).grow E96 ea94).ext E108).ext E116).keep K122 (by simp)).sub (us' := []) (by simp)).lt
  have ne_a91_a128 : a91 ≠ a128 := by rw [ea131]; exact Nat.ne_of_lt E123.lt
  have ne_s107_a128 : s107 ≠ a128 := by rw [ea131]; exact Nat.ne_of_lt (((S109.ext E116).keep K122 (by simp)).sub (us' := []) (by simp)).lt
  have ne_s115_a128 : s115 ≠ a128 := by rw [ea131]; exact Nat.ne_of_lt ((S117.keep K122 (by simp)).sub (us' := []) (by simp)).lt
  have F136 : Fld Z h130 a128 "com/example/pegwright/pegwright/PeggedStock$Key" "warehouse" "Ljava/lang/String;" (.null) := D135 (Or.inr (hw _ (List.mem_of_getElem? (i := 133) rfl))) (ty := (.object "java/lang/String")) (by decide +kernel)
  have F137 : Fld Z h130 a128 "com/example/pegwright/pegwright/PeggedStock$Key" "item" "Ljava/lang/String;" (.null) := D135 (Or.inr (hw _ (List.mem_of_getElem? (i := 135) rfl))) (ty := (.object "java/lang/String")) (by decide +kernel)
  have F138 : Fld Z h130 a128 "com/example/pegwright/pegwright/PeggedStock$Key" "peg" "Lcom/example/pegwright/pegwright/Peg;" (.null) := D135 (Or.inr (hw _ (List.mem_of_getElem? (i := 137) rfl))) (ty := (.object "com/example/pegwright/pegwright/Peg")) (by decide +kernel)
  refine g_dup X132 at_495 rfl 496 rfl ?_
  refine g_iload X132 at_496 rfl 498 rfl ?_
  refine g_iload X132 at_498 rfl 500 rfl ?_
  refine g_iload X132 at_500 rfl 502 rfl ?_
  refine g_callSv X132 (hw _ (List.mem_of_getElem? (i := 10) rfl)) (hw _ (List.mem_of_getElem? (i := 11) rfl)) (hw _ (List.mem_of_getElem? (i := 2) rfl)) (hw _ (List.mem_of_getElem? (i := 12) rfl)) (by decide) (c_mk l Z a0 G lwB wB1 wB2 ([a128]) h130 owB1.1 owB2.1) (fun _ q => q) (argsL := [.int lwB, .int wB1, .int wB2]) (rest := [.ref a128, .ref a128]) pd_1 rfl rfl rfl rfl 2 (Nat.le_of_eq rfl) (by decide) (by decide) (ck := 82) rfl (cs := 920) rfl (by decide) (by decide) at_502 505 rfl ?_
  intro w141 T139 h143 X140 hq142
  obtain ⟨s144, rfl, E145, S146⟩ := hq142
  refine g_iload X140 at_505 rfl 507 rfl ?_
  refine g_iload X140 at_507 rfl 509 rfl ?_
  refine g_iload X140 at_509 rfl 511 rfl ?_
  refine g_callSv X140 (hw _ (List.mem_of_getElem? (i := 10) rfl)) (hw _ (List.mem_of_getElem? (i := 11) rfl)) (hw _ (List.mem_of_getElem? (i := 2) rfl)) (hw _ (List.mem_of_getElem? (i := 12) rfl)) (by decide) (c_mk l Z a0 G liB iB1 iB2 ([a128]) h143 oiB1.1 oiB2.1) (fun _ q => q) (argsL := [.int liB, .int iB1, .int iB2]) (rest := [.ref s144, .ref a128, .ref a128]) pd_1 rfl rfl rfl rfl 3 (Nat.le_of_eq rfl) (by decide) (by decide) (ck := 86) rfl (cs := 928) rfl (by decide) (by decide) at_511 514 rfl ?_
  intro w149 T147 h151 X148 hq150
  obtain ⟨s152, rfl, E153, S154⟩ := hq150
  refine g_aload X148 at_514 rfl rfl 516 rfl ?_
  refine g_callIn X148 rfl (hw _ (List.mem_of_getElem? (i := 114) rfl)) (hw _ (List.mem_of_getElem? (i := 115) rfl)) (hw _ (List.mem_of_getElem? (i := 113) rfl)) (hw _ (List.mem_of_getElem? (i := 116) rfl)) (by decide) (c_kinit l Z a0 G a128 s144 s152 a46 [] (mkJ lwB wB1 wB2) (mkJ liB iB1 iB2) h151 ((A134.ext E145).ext E153) ((F136.ext E145).ext E153) ((F137.ext E145).ext E153) ((F138.ext E145).ext E153) (S146.ext E153) S154 (mkJ_iso owB1.2 owB2.2) (mkJ_iso oiB1.2 oiB2.2)) (by simp) (argsL := [.ref s144, .ref s152, .ref a46]) (rest := [.ref a128]) pd_4 rfl rfl rfl rfl 1 (Nat.le_of_eq rfl) (by decide) (by decide) (ck := 96) rfl (cs := 1140) rfl (by decide) (by decide) at_516 519 rfl ?_
  intro T155 h158 X156 hq157
  obtain ⟨K159, E160, F161, F162, F163⟩ := hq157
  have X164 := X156.sub (us' := []) (by simp)
  refine g_astore X164 at_519 rfl (Ls' := #[.val (.int k0), .val (.int k1), .val (.int k2), .val (.int k3), .val (.int k4), .val (.int k5), .val (.int lwA), .val (.int wA1), .val (.int wA2), .val (.int liA), .val (.int iA1), .val (.int iA2), .val (.int lpA), .val (.int pA), .val (.int leA), .val (.int eA), .val (.int laA), .val (.int aA), .val (.int r0), .val (.int r1), .val (.int r2), .val (.int r3), .val (.int r4), .val (.int lwB), .val (.int wB1), .val (.int wB2), .val (.int liB), .val (.int iB1), .val (.int iB2), .val (.int lpB), .val (.int pB), .val (.int leB), .val (.int eB), .val (.int laB), .val (.int aB), .val (.ref a1), .val (.ref a46), .val (.ref a91), .val (.ref a128), .unset, .unset, .unset, .unset]) rfl 521 rfl ?_
  have R165 := (((((((((((((E41.ext E51).ext E63).ext E71).ext E79).keep K85).ext E96).ext E108).ext E116).keep K122).ext E133).ext E145).ext E153).keep K159)
  have R166 := (((((((((((((F42.ext E51).ext E63).ext E71).ext E79).keep K85 (ninS ne_a1_a46 nin0)).ext E96).ext E108).ext E116).keep K122 (ninS ne_a1_a91 nin0)).ext E133).ext E145).ext E153).keep K159 (ninS ne_a1_a128 nin0))
  have R167 := (((((((((((((F43.ext E51).ext E63).ext E71).ext E79).keep K85 (ninS ne_a1_a46 nin0)).ext E96).ext E108).ext E116).keep K122 (ninS ne_a1_a91 nin0)).ext E133).ext E145).ext E153).keep K159 (ninS ne_a1_a128 nin0))
  have R168 := (((((((((((((F44.ext E51).ext E63).ext E71).ext E79).keep K85 (ninS ne_a1_a46 nin0)).ext E96).ext E108).ext E116).keep K122 (ninS ne_a1_a91 nin0)).ext E133).ext E145).ext E153).keep K159 (ninS ne_a1_a128 nin0))
  have R169 := ((((((((((((((((((((S19.ext E26).ext E34).keep K40 (by simp)).sub (us' := []) (by simp)).grow E51 ea49).ext E63).ext E71).ext E79).keep K85 (by simp)).sub (us' := []) (by simp)).grow E96 ea94).ext E108).ext E116).keep K122 (by simp)).sub (us' := []) (by simp)).grow E133 ea131).ext E145).ext E153).keep K159 (by simp)).sub (us' := []) (by simp))
  have R170 := (((((((((((((((((((S27.ext E34).keep K40 (by simp)).sub (us' := []) (by simp)).grow E51 ea49).ext E63).ext E71).ext E79).keep K85 (by simp)).sub (us' := []) (by simp)).grow E96 ea94).ext E108).ext E116).keep K122 (by simp)).sub (us' := []) (by simp)).grow E133 ea131).ext E145).ext E153).keep K159 (by simp)).sub (us' := []) (by simp))
  have R171 := ((((((((((((((((((S35.keep K40 (by simp)).sub (us' := []) (by simp)).grow E51 ea49).ext E63).ext E71).ext E79).keep K85 (by simp)).sub (us' := []) (by simp)).grow E96 ea94).ext E108).ext E116).keep K122 (by simp)).sub (us' := []) (by simp)).grow E133 ea131).ext E145).ext E153).keep K159 (by simp)).sub (us' := []) (by simp))
  have R172 := ((((((((E86.ext E96).ext E108).ext E116).keep K122).ext E133).ext E145).ext E153).keep K159)
  have R173 := ((((((((F87.ext E96).ext E108).ext E116).keep K122 (ninS ne_a46_a91 nin0)).ext E133).ext E145).ext E153).keep K159 (ninS ne_a46_a128 nin0))
  have R174 := ((((((((F88.ext E96).ext E108).ext E116).keep K122 (ninS ne_a46_a91 nin0)).ext E133).ext E145).ext E153).keep K159 (ninS ne_a46_a128 nin0))
  have R175 := ((((((((F89.ext E96).ext E108).ext E116).keep K122 (ninS ne_a46_a91 nin0)).ext E133).ext E145).ext E153).keep K159 (ninS ne_a46_a128 nin0))
  have R176 := ((((((((((((((S64.ext E71).ext E79).keep K85 (by simp)).sub (us' := []) (by simp)).grow E96 ea94).ext E108).ext E116).keep K122 (by simp)).sub (us' := []) (by simp)).grow E133 ea131).ext E145).ext E153).keep K159 (by simp)).sub (us' := []) (by simp))
  have R177 := (((((((((((((S72.ext E79).keep K85 (by simp)).sub (us' := []) (by simp)).grow E96 ea94).ext E108).ext E116).keep K122 (by simp)).sub (us' := []) (by simp)).grow E133 ea131).ext E145).ext E153).keep K159 (by simp)).sub (us' := []) (by simp))
  have R178 := ((((((((((((S80.keep K85 (by simp)).sub (us' := []) (by simp)).grow E96 ea94).ext E108).ext E116).keep K122 (by simp)).sub (us' := []) (by simp)).grow E133 ea131).ext E145).ext E153).keep K159 (by simp)).sub (us' := []) (by simp))
  have R179 := ((((E123.ext E133).ext E145).ext E153).keep K159)
  have R180 := ((((F124.ext E133).ext E145).ext E153).keep K159 (ninS ne_a91_a128 nin0))
  have R181 := ((((F125.ext E133).ext E145).ext E153).keep K159 (ninS ne_a91_a128 nin0))
  have R182 := ((((F126.ext E133).ext E145).ext E153).keep K159 (ninS ne_a91_a128 nin0))
  have R183 := ((((((((S109.ext E116).keep K122 (by simp)).sub (us' := []) (by simp)).grow E133 ea131).ext E145).ext E153).keep K159 (by simp)).sub (us' := []) (by simp))
  have R184 := (((((((S117.keep K122 (by simp)).sub (us' := []) (by simp)).grow E133 ea131).ext E145).ext E153).keep K159 (by simp)).sub (us' := []) (by simp))
  have R185 := E160
  have R186 := F161
  have R187 := F162
  have R188 := F163
  have R189 := (((S146.ext E153).keep K159 (by simp)).sub (us' := []) (by simp))
  have R190 := ((S154.keep K159 (by simp)).sub (us' := []) (by simp))
  refine g_iload X164 at_521 rfl 523 rfl ?_
  refine g_iload X164 at_523 rfl 525 rfl ?_
  refine g_iload X164 at_525 rfl 527 rfl ?_
  refine g_iload X164 at_527 rfl 529 rfl ?_
  refine g_iload X164 at_529 rfl 531 rfl ?_
  refine g_iload X164 at_531 rfl 533 rfl ?_
  refine g_callSp X164 (hw _ (List.mem_of_getElem? (i := 138) rfl)) (hw _ (List.mem_of_getElem? (i := 139) rfl)) (hw _ (List.mem_of_getElem? (i := 2) rfl)) (hw _ (List.mem_of_getElem? (i := 140) rfl)) (by decide) (c_same l Z a0 G lwA wA1 wA2 lwB wB1 wB2 h158 olwA olwB) (by simp) (argsL := [.int lwA, .int wA1, .int wA2, .int lwB, .int wB1, .int wB2]) (rest := []) pd_2 rfl rfl rfl rfl 0 (Nat.le_of_eq rfl) (by decide) (by decide) (ck := 96) rfl (cs := 1140) rfl (by decide) (by decide) at_533 536 rfl ?_
  intro w241 T239 X240 hq242
  subst hq242
  by_cases hb536 : (if mkJ lwA wA1 wA2 = mkJ lwB wB1 wB2 then (1 : Int32) else 0) = (0 : Int32)
  · refine g_ifYes X240 at_536 (XT.ii_eq_t hb536) 615 (by decide) (by decide) ?_
    refine g_iconst X240 (0 : Int32) at_615 (by decide) 616 rfl ?_
    refine g_istore X240 at_616 (Ls' := #[.val (.int k0), .val (.int k1), .val (.int k2), .val (.int k3), .val (.int k4), .val (.int k5), .val (.int lwA), .val (.int wA1), .val (.int wA2), .val (.int liA), .val (.int iA1), .val (.int iA2), .val (.int lpA), .val (.int pA), .val (.int leA), .val (.int eA), .val (.int laA), .val (.int aA), .val (.int r0), .val (.int r1), .val (.int r2), .val (.int r3), .val (.int r4), .val (.int lwB), .val (.int wB1), .val (.int wB2), .val (.int liB), .val (.int iB1), .val (.int iB2), .val (.int lpB), .val (.int pB), .val (.int leB), .val (.int eB), .val (.int laB), .val (.int aB), .val (.ref a1), .val (.ref a46), .val (.ref a91), .val (.ref a128), .val (.int (0 : Int32)), .unset, .unset, .unset]) rfl 618 rfl ?_
    exact J618 l Z a0 G k0 k1 k2 k3 k4 k5 h p e s m below meth c lwA wA1 wA2 liA iA1 iA2 lpA pA leA eA laA aA olwA owA1 owA2 oliA oiA1 oiA2 olpA opA oleA oeA olaA oaA r0 r1 r2 r3 r4 lwB wB1 wB2 liB iB1 iB2 lpB pB leB eB laB aB olwB owB1 owB2 oliB oiB1 oiB2 olpB opB oleB oeB olaB oaB a1 s17 s25 s33 a46 s62 s70 s78 a91 s107 s115 a128 s144 s152 h158 R165 R166 R167 R168 R169 R170 R171 R172 R173 R174 R175 R176 R177 R178 R179 R180 R181 R182 R183 R184 R185 R186 R187 R188 R189 R190 _ ((if_neg (fun q => if0 hb536 q.1)).symm) T239 X240
  · refine g_ifNo X240 at_536 (XT.ii_eq_f hb536) 539 rfl ?_
    refine g_iload X240 at_539 rfl 541 rfl ?_
    refine g_iload X240 at_541 rfl 543 rfl ?_
    refine g_iload X240 at_543 rfl 545 rfl ?_
    refine g_iload X240 at_545 rfl 547 rfl ?_
    refine g_iload X240 at_547 rfl 549 rfl ?_
    refine g_iload X240 at_549 rfl 551 rfl ?_
    refine g_callSp X240 (hw _ (List.mem_of_getElem? (i := 138) rfl)) (hw _ (List.mem_of_getElem? (i := 139) rfl)) (hw _ (List.mem_of_getElem? (i := 2) rfl)) (hw _ (List.mem_of_getElem? (i := 140) rfl)) (by decide) (c_same l Z a0 G liA iA1 iA2 liB iB1 iB2 h158 oliA oliB) (by simp) (argsL := [.int liA, .int iA1, .int iA2, .int liB, .int iB1, .int iB2]) (rest := []) pd_2 rfl rfl rfl rfl 0 (Nat.le_of_eq rfl) (by decide) (by decide) (ck := 96) rfl (cs := 1140) rfl (by decide) (by decide) at_551 554 rfl ?_
    intro w245 T243 X244 hq246
    subst hq246
    by_cases hb554 : (if mkJ liA iA1 iA2 = mkJ liB iB1 iB2 then (1 : Int32) else 0) = (0 : Int32)
    · refine g_ifYes X244 at_554 (XT.ii_eq_t hb554) 615 (by decide) (by decide) ?_
      refine g_iconst X244 (0 : Int32) at_615 (by decide) 616 rfl ?_
      refine g_istore X244 at_616 (Ls' := #[.val (.int k0), .val (.int k1), .val (.int k2), .val (.int k3), .val (.int k4), .val (.int k5), .val (.int lwA), .val (.int wA1), .val (.int wA2), .val (.int liA), .val (.int iA1), .val (.int iA2), .val (.int lpA), .val (.int pA), .val (.int leA), .val (.int eA), .val (.int laA), .val (.int aA), .val (.int r0), .val (.int r1), .val (.int r2), .val (.int r3), .val (.int r4), .val (.int lwB), .val (.int wB1), .val (.int wB2), .val (.int liB), .val (.int iB1), .val (.int iB2), .val (.int lpB), .val (.int pB), .val (.int leB), .val (.int eB), .val (.int laB), .val (.int aB), .val (.ref a1), .val (.ref a46), .val (.ref a91), .val (.ref a128), .val (.int (0 : Int32)), .unset, .unset, .unset]) rfl 618 rfl ?_
      exact J618 l Z a0 G k0 k1 k2 k3 k4 k5 h p e s m below meth c lwA wA1 wA2 liA iA1 iA2 lpA pA leA eA laA aA olwA owA1 owA2 oliA oiA1 oiA2 olpA opA oleA oeA olaA oaA r0 r1 r2 r3 r4 lwB wB1 wB2 liB iB1 iB2 lpB pB leB eB laB aB olwB owB1 owB2 oliB oiB1 oiB2 olpB opB oleB oeB olaB oaB a1 s17 s25 s33 a46 s62 s70 s78 a91 s107 s115 a128 s144 s152 h158 R165 R166 R167 R168 R169 R170 R171 R172 R173 R174 R175 R176 R177 R178 R179 R180 R181 R182 R183 R184 R185 R186 R187 R188 R189 R190 _ ((if_neg (fun q => if0 hb554 q.2.1)).symm) T243 X244
    · refine g_ifNo X244 at_554 (XT.ii_eq_f hb554) 557 rfl ?_
      refine g_iload X244 at_557 rfl 559 rfl ?_
      refine g_iload X244 at_559 rfl 561 rfl ?_
      refine g_iload X244 at_561 rfl 563 rfl ?_
      refine g_iload X244 at_563 rfl 565 rfl ?_
      refine g_iload X244 at_565 rfl 567 rfl ?_
      refine g_iload X244 at_567 rfl 569 rfl ?_
      refine g_callSp X244 (hw _ (List.mem_of_getElem? (i := 138) rfl)) (hw _ (List.mem_of_getElem? (i := 139) rfl)) (hw _ (List.mem_of_getElem? (i := 2) rfl)) (hw _ (List.mem_of_getElem? (i := 140) rfl)) (by decide) (c_same l Z a0 G lpA pA pA lpB pB pB h158 olpA olpB) (by simp) (argsL := [.int lpA, .int pA, .int pA, .int lpB, .int pB, .int pB]) (rest := []) pd_2 rfl rfl rfl rfl 0 (Nat.le_of_eq rfl) (by decide) (by decide) (ck := 96) rfl (cs := 1140) rfl (by decide) (by decide) at_569 572 rfl ?_
      intro w249 T247 X248 hq250
      subst hq250
      by_cases hb572 : (if mkJ lpA pA pA = mkJ lpB pB pB then (1 : Int32) else 0) = (0 : Int32)
      · refine g_ifYes X248 at_572 (XT.ii_eq_t hb572) 615 (by decide) (by decide) ?_
        refine g_iconst X248 (0 : Int32) at_615 (by decide) 616 rfl ?_
        refine g_istore X248 at_616 (Ls' := #[.val (.int k0), .val (.int k1), .val (.int k2), .val (.int k3), .val (.int k4), .val (.int k5), .val (.int lwA), .val (.int wA1), .val (.int wA2), .val (.int liA), .val (.int iA1), .val (.int iA2), .val (.int lpA), .val (.int pA), .val (.int leA), .val (.int eA), .val (.int laA), .val (.int aA), .val (.int r0), .val (.int r1), .val (.int r2), .val (.int r3), .val (.int r4), .val (.int lwB), .val (.int wB1), .val (.int wB2), .val (.int liB), .val (.int iB1), .val (.int iB2), .val (.int lpB), .val (.int pB), .val (.int leB), .val (.int eB), .val (.int laB), .val (.int aB), .val (.ref a1), .val (.ref a46), .val (.ref a91), .val (.ref a128), .val (.int (0 : Int32)), .unset, .unset, .unset]) rfl 618 rfl ?_
        exact J618 l Z a0 G k0 k1 k2 k3 k4 k5 h p e s m below meth c lwA wA1 wA2 liA iA1 iA2 lpA pA leA eA laA aA olwA owA1 owA2 oliA oiA1 oiA2 olpA opA oleA oeA olaA oaA r0 r1 r2 r3 r4 lwB wB1 wB2 liB iB1 iB2 lpB pB leB eB laB aB olwB owB1 owB2 oliB oiB1 oiB2 olpB opB oleB oeB olaB oaB a1 s17 s25 s33 a46 s62 s70 s78 a91 s107 s115 a128 s144 s152 h158 R165 R166 R167 R168 R169 R170 R171 R172 R173 R174 R175 R176 R177 R178 R179 R180 R181 R182 R183 R184 R185 R186 R187 R188 R189 R190 _ ((if_neg (fun q => if0 hb572 q.2.2.1)).symm) T247 X248
      · refine g_ifNo X248 at_572 (XT.ii_eq_f hb572) 575 rfl ?_
        refine g_iload X248 at_575 rfl 577 rfl ?_
        refine g_iload X248 at_577 rfl 579 rfl ?_
        refine g_iload X248 at_579 rfl 581 rfl ?_
        refine g_iload X248 at_581 rfl 583 rfl ?_
        refine g_iload X248 at_583 rfl 585 rfl ?_
        refine g_iload X248 at_585 rfl 587 rfl ?_
        refine g_callSp X248 (hw _ (List.mem_of_getElem? (i := 138) rfl)) (hw _ (List.mem_of_getElem? (i := 139) rfl)) (hw _ (List.mem_of_getElem? (i := 2) rfl)) (hw _ (List.mem_of_getElem? (i := 140) rfl)) (by decide) (c_same l Z a0 G leA eA eA leB eB eB h158 oleA oleB) (by simp) (argsL := [.int leA, .int eA, .int eA, .int leB, .int eB, .int eB]) (rest := []) pd_2 rfl rfl rfl rfl 0 (Nat.le_of_eq rfl) (by decide) (by decide) (ck := 96) rfl (cs := 1140) rfl (by decide) (by decide) at_587 590 rfl ?_
        intro w253 T251 X252 hq254
        subst hq254
        by_cases hb590 : (if mkJ leA eA eA = mkJ leB eB eB then (1 : Int32) else 0) = (0 : Int32)
        · refine g_ifYes X252 at_590 (XT.ii_eq_t hb590) 615 (by decide) (by decide) ?_
          refine g_iconst X252 (0 : Int32) at_615 (by decide) 616 rfl ?_
          refine g_istore X252 at_616 (Ls' := #[.val (.int k0), .val (.int k1), .val (.int k2), .val (.int k3), .val (.int k4), .val (.int k5), .val (.int lwA), .val (.int wA1), .val (.int wA2), .val (.int liA), .val (.int iA1), .val (.int iA2), .val (.int lpA), .val (.int pA), .val (.int leA), .val (.int eA), .val (.int laA), .val (.int aA), .val (.int r0), .val (.int r1), .val (.int r2), .val (.int r3), .val (.int r4), .val (.int lwB), .val (.int wB1), .val (.int wB2), .val (.int liB), .val (.int iB1), .val (.int iB2), .val (.int lpB), .val (.int pB), .val (.int leB), .val (.int eB), .val (.int laB), .val (.int aB), .val (.ref a1), .val (.ref a46), .val (.ref a91), .val (.ref a128), .val (.int (0 : Int32)), .unset, .unset, .unset]) rfl 618 rfl ?_
          exact J618 l Z a0 G k0 k1 k2 k3 k4 k5 h p e s m below meth c lwA wA1 wA2 liA iA1 iA2 lpA pA leA eA laA aA olwA owA1 owA2 oliA oiA1 oiA2 olpA opA oleA oeA olaA oaA r0 r1 r2 r3 r4 lwB wB1 wB2 liB iB1 iB2 lpB pB leB eB laB aB olwB owB1 owB2 oliB oiB1 oiB2 olpB opB oleB oeB olaB oaB a1 s17 s25 s33 a46 s62 s70 s78 a91 s107 s115 a128 s144 s152 h158 R165 R166 R167 R168 R169 R170 R171 R172 R173 R174 R175 R176 R177 R178 R179 R180 R181 R182 R183 R184 R185 R186 R187 R188 R189 R190 _ ((if_neg (fun q => if0 hb590 q.2.2.2.1)).symm) T251 X252
        · refine g_ifNo X252 at_590 (XT.ii_eq_f hb590) 593 rfl ?_
          refine g_iload X252 at_593 rfl 595 rfl ?_
          refine g_iload X252 at_595 rfl 597 rfl ?_
          refine g_iload X252 at_597 rfl 599 rfl ?_
          refine g_iload X252 at_599 rfl 601 rfl ?_
          refine g_iload X252 at_601 rfl 603 rfl ?_
          refine g_iload X252 at_603 rfl 605 rfl ?_
          refine g_callSp X252 (hw _ (List.mem_of_getElem? (i := 138) rfl)) (hw _ (List.mem_of_getElem? (i := 139) rfl)) (hw _ (List.mem_of_getElem? (i := 2) rfl)) (hw _ (List.mem_of_getElem? (i := 140) rfl)) (by decide) (c_same l Z a0 G laA aA aA laB aB aB h158 olaA olaB) (by simp) (argsL := [.int laA, .int aA, .int aA, .int laB, .int aB, .int aB]) (rest := []) pd_2 rfl rfl rfl rfl 0 (Nat.le_of_eq rfl) (by decide) (by decide) (ck := 96) rfl (cs := 1140) rfl (by decide) (by decide) at_605 608 rfl ?_
          intro w257 T255 X256 hq258
          subst hq258
          by_cases hb608 : (if mkJ laA aA aA = mkJ laB aB aB then (1 : Int32) else 0) = (0 : Int32)
          · refine g_ifYes X256 at_608 (XT.ii_eq_t hb608) 615 (by decide) (by decide) ?_
            refine g_iconst X256 (0 : Int32) at_615 (by decide) 616 rfl ?_
            refine g_istore X256 at_616 (Ls' := #[.val (.int k0), .val (.int k1), .val (.int k2), .val (.int k3), .val (.int k4), .val (.int k5), .val (.int lwA), .val (.int wA1), .val (.int wA2), .val (.int liA), .val (.int iA1), .val (.int iA2), .val (.int lpA), .val (.int pA), .val (.int leA), .val (.int eA), .val (.int laA), .val (.int aA), .val (.int r0), .val (.int r1), .val (.int r2), .val (.int r3), .val (.int r4), .val (.int lwB), .val (.int wB1), .val (.int wB2), .val (.int liB), .val (.int iB1), .val (.int iB2), .val (.int lpB), .val (.int pB), .val (.int leB), .val (.int eB), .val (.int laB), .val (.int aB), .val (.ref a1), .val (.ref a46), .val (.ref a91), .val (.ref a128), .val (.int (0 : Int32)), .unset, .unset, .unset]) rfl 618 rfl ?_
            exact J618 l Z a0 G k0 k1 k2 k3 k4 k5 h p e s m below meth c lwA wA1 wA2 liA iA1 iA2 lpA pA leA eA laA aA olwA owA1 owA2 oliA oiA1 oiA2 olpA opA oleA oeA olaA oaA r0 r1 r2 r3 r4 lwB wB1 wB2 liB iB1 iB2 lpB pB leB eB laB aB olwB owB1 owB2 oliB oiB1 oiB2 olpB opB oleB oeB olaB oaB a1 s17 s25 s33 a46 s62 s70 s78 a91 s107 s115 a128 s144 s152 h158 R165 R166 R167 R168 R169 R170 R171 R172 R173 R174 R175 R176 R177 R178 R179 R180 R181 R182 R183 R184 R185 R186 R187 R188 R189 R190 _ ((if_neg (fun q => if0 hb608 q.2.2.2.2)).symm) T255 X256
          · refine g_ifNo X256 at_608 (XT.ii_eq_f hb608) 611 rfl ?_
            refine g_iconst X256 (1 : Int32) at_611 (by decide) 612 rfl ?_
            refine g_goto X256 at_612 616 (by decide) (by decide) ?_
            refine g_istore X256 at_616 (Ls' := #[.val (.int k0), .val (.int k1), .val (.int k2), .val (.int k3), .val (.int k4), .val (.int k5), .val (.int lwA), .val (.int wA1), .val (.int wA2), .val (.int liA), .val (.int iA1), .val (.int iA2), .val (.int lpA), .val (.int pA), .val (.int leA), .val (.int eA), .val (.int laA), .val (.int aA), .val (.int r0), .val (.int r1), .val (.int r2), .val (.int r3), .val (.int r4), .val (.int lwB), .val (.int wB1), .val (.int wB2), .val (.int liB), .val (.int iB1), .val (.int iB2), .val (.int lpB), .val (.int pB), .val (.int leB), .val (.int eB), .val (.int laB), .val (.int aB), .val (.ref a1), .val (.ref a46), .val (.ref a91), .val (.ref a128), .val (.int (1 : Int32)), .unset, .unset, .unset]) rfl 618 rfl ?_
            exact J618 l Z a0 G k0 k1 k2 k3 k4 k5 h p e s m below meth c lwA wA1 wA2 liA iA1 iA2 lpA pA leA eA laA aA olwA owA1 owA2 oliA oiA1 oiA2 olpA opA oleA oeA olaA oaA r0 r1 r2 r3 r4 lwB wB1 wB2 liB iB1 iB2 lpB pB leB eB laB aB olwB owB1 owB2 oliB oiB1 oiB2 olpB opB oleB oeB olaB oaB a1 s17 s25 s33 a46 s62 s70 s78 a91 s107 s115 a128 s144 s152 h158 R165 R166 R167 R168 R169 R170 R171 R172 R173 R174 R175 R176 R177 R178 R179 R180 R181 R182 R183 R184 R185 R186 R187 R188 R189 R190 _ ((if_pos ⟨ifn hb536, ifn hb554, ifn hb572, ifn hb590, ifn hb608⟩).symm) T255 X256
set_option maxRecDepth 65536 in
set_option maxHeartbeats 40000000 in
theorem J371 (l : Launch) (Z : State) (a0 : Array Value) (G : Gl Z a0) (k0 k1 k2 k3 k4 k5 : Int32) (h : Heap) (p : Program) (e : Env) (s : State) (m : MethodId) (below : List Frame) (meth : Method) (c : Code) (lwA : Int32) (wA1 : Int32) (wA2 : Int32) (liA : Int32) (iA1 : Int32) (iA2 : Int32) (lpA : Int32) (pA : Int32) (leA : Int32) (eA : Int32) (laA : Int32) (aA : Int32) (olwA : len012 lwA) (owA1 : okC wA1) (owA2 : okC wA2) (oliA : len012 liA) (oiA1 : okC iA1) (oiA2 : okC iA2) (olpA : len012 lpA) (opA : okC pA) (oleA : len012 leA) (oeA : okS eA) (olaA : len012 laA) (oaA : okS aA) (r0 : Int32) (r1 : Int32) (r2 : Int32) (r3 : Int32) (r4 : Int32) (lwB : Int32) (wB1 : Int32) (wB2 : Int32) (liB : Int32) (iB1 : Int32) (iB2 : Int32) (lpB : Int32) (pB : Int32) (leB : Int32) (eB : Int32) (laB : Int32) (olwB : len012 lwB) (owB1 : okC wB1) (owB2 : okC wB2) (oliB : len012 liB) (oiB1 : okC iB1) (oiB2 : okC iB2) (olpB : len012 lpB) (opB : okC pB) (oleB : len012 leB) (oeB : okS eB) (olaB : len012 laB) (T : State) (X : St p l e room_1 s m #[.int k0, .int k1, .int k2, .int k3, .int k4, .int k5] below meth c "com/example/pegwright/pegwright/KeyEqualsPinLaw" code maxLocals ret "law" Z EL nw [] [] T h 0 0) :
    OwnKit.Goes p e below s Z EL nw (fun v _ => v = some (.int 1)) (room_1).cells (room_1).slots (T.setTop (mkF m 371 #[.val (.int k0), .val (.int k1), .val (.int k2), .val (.int k3), .val (.int k4), .val (.int k5), .val (.int lwA), .val (.int wA1), .val (.int wA2), .val (.int liA), .val (.int iA1), .val (.int iA2), .val (.int lpA), .val (.int pA), .val (.int leA), .val (.int eA), .val (.int laA), .val (.int aA), .val (.int r0), .val (.int r1), .val (.int r2), .val (.int r3), .val (.int r4), .val (.int lwB), .val (.int wB1), .val (.int wB2), .val (.int liB), .val (.int iB1), .val (.int iB2), .val (.int lpB), .val (.int pB), .val (.int leB), .val (.int eB), .val (.int laB), .unset, .unset, .unset, .unset, .unset, .unset, .unset, .unset, .unset] [])) := by
  obtain ⟨hw, hEL, hSA, ⟨zc, SC, hz⟩, ⟨fm, SF, hfm⟩⟩ := id G
  refine g_iload X at_371 rfl 373 rfl ?_
  by_cases hb373 : r4 = (0 : Int32)
  · refine g_ifYes X at_373 (XT.ii_eq_t hb373) 387 (by decide) (by decide) ?_
    refine g_iload X at_387 rfl 389 rfl ?_
    refine g_istore X at_389 (Ls' := #[.val (.int k0), .val (.int k1), .val (.int k2), .val (.int k3), .val (.int k4), .val (.int k5), .val (.int lwA), .val (.int wA1), .val (.int wA2), .val (.int liA), .val (.int iA1), .val (.int iA2), .val (.int lpA), .val (.int pA), .val (.int leA), .val (.int eA), .val (.int laA), .val (.int aA), .val (.int r0), .val (.int r1), .val (.int r2), .val (.int r3), .val (.int r4), .val (.int lwB), .val (.int wB1), .val (.int wB2), .val (.int liB), .val (.int iB1), .val (.int iB2), .val (.int lpB), .val (.int pB), .val (.int leB), .val (.int eB), .val (.int laB), .val (.int aA), .unset, .unset, .unset, .unset, .unset, .unset, .unset, .unset]) rfl 391 rfl ?_
    exact J391 l Z a0 G k0 k1 k2 k3 k4 k5 h p e s m below meth c lwA wA1 wA2 liA iA1 iA2 lpA pA leA eA laA aA olwA owA1 owA2 oliA oiA1 oiA2 olpA opA oleA oeA olaA oaA r0 r1 r2 r3 r4 lwB wB1 wB2 liB iB1 iB2 lpB pB leB eB laB aA olwB owB1 owB2 oliB oiB1 oiB2 olpB opB oleB oeB olaB oaA T X
  · refine g_ifNo X at_373 (XT.ii_eq_f hb373) 376 rfl ?_
    refine g_iload X at_376 rfl 378 rfl ?_
    refine g_bipush X (24 : Int32) at_378 (by decide) 380 rfl ?_
    refine g_iushr X at_380 _ rfl 381 rfl ?_
    refine g_callSp X (hw _ (List.mem_of_getElem? (i := 4) rfl)) (hw _ (List.mem_of_getElem? (i := 5) rfl)) (hw _ (List.mem_of_getElem? (i := 2) rfl)) (hw _ (List.mem_of_getElem? (i := 6) rfl)) (by decide) (c_pc l Z a0 G (XT.ushr k5 (24 : Int32)) h) (by simp) (argsL := [.int (XT.ushr k5 (24 : Int32))]) (rest := []) pd_0 rfl rfl rfl rfl 0 (Nat.le_of_eq rfl) (by decide) (by decide) (ck := 0) rfl (cs := 0) rfl (by decide) (by decide) at_381 384 rfl ?_
    intro w261 T259 X260 hq262
    subst hq262
    refine g_goto X260 at_384 389 (by decide) (by decide) ?_
    refine g_istore X260 at_389 (Ls' := #[.val (.int k0), .val (.int k1), .val (.int k2), .val (.int k3), .val (.int k4), .val (.int k5), .val (.int lwA), .val (.int wA1), .val (.int wA2), .val (.int liA), .val (.int iA1), .val (.int iA2), .val (.int lpA), .val (.int pA), .val (.int leA), .val (.int eA), .val (.int laA), .val (.int aA), .val (.int r0), .val (.int r1), .val (.int r2), .val (.int r3), .val (.int r4), .val (.int lwB), .val (.int wB1), .val (.int wB2), .val (.int liB), .val (.int iB1), .val (.int iB2), .val (.int lpB), .val (.int pB), .val (.int leB), .val (.int eB), .val (.int laB), .val (.int (pcJ (XT.ushr k5 (24 : Int32)))), .unset, .unset, .unset, .unset, .unset, .unset, .unset, .unset]) rfl 391 rfl ?_
    exact J391 l Z a0 G k0 k1 k2 k3 k4 k5 h p e s m below meth c lwA wA1 wA2 liA iA1 iA2 lpA pA leA eA laA aA olwA owA1 owA2 oliA oiA1 oiA2 olpA opA oleA oeA olaA oaA r0 r1 r2 r3 r4 lwB wB1 wB2 liB iB1 iB2 lpB pB leB eB laB (pcJ (XT.ushr k5 (24 : Int32))) olwB owB1 owB2 oliB oiB1 oiB2 olpB opB oleB oeB olaB (pcJ_ok _) T259 X260
set_option maxRecDepth 65536 in
set_option maxHeartbeats 40000000 in
theorem J352 (l : Launch) (Z : State) (a0 : Array Value) (G : Gl Z a0) (k0 k1 k2 k3 k4 k5 : Int32) (h : Heap) (p : Program) (e : Env) (s : State) (m : MethodId) (below : List Frame) (meth : Method) (c : Code) (lwA : Int32) (wA1 : Int32) (wA2 : Int32) (liA : Int32) (iA1 : Int32) (iA2 : Int32) (lpA : Int32) (pA : Int32) (leA : Int32) (eA : Int32) (laA : Int32) (aA : Int32) (olwA : len012 lwA) (owA1 : okC wA1) (owA2 : okC wA2) (oliA : len012 liA) (oiA1 : okC iA1) (oiA2 : okC iA2) (olpA : len012 lpA) (opA : okC pA) (oleA : len012 leA) (oeA : okS eA) (olaA : len012 laA) (oaA : okS aA) (r0 : Int32) (r1 : Int32) (r2 : Int32) (r3 : Int32) (r4 : Int32) (lwB : Int32) (wB1 : Int32) (wB2 : Int32) (liB : Int32) (iB1 : Int32) (iB2 : Int32) (lpB : Int32) (pB : Int32) (leB : Int32) (eB : Int32) (olwB : len012 lwB) (owB1 : okC wB1) (owB2 : okC wB2) (oliB : len012 liB) (oiB1 : okC iB1) (oiB2 : okC iB2) (olpB : len012 lpB) (opB : okC pB) (oleB : len012 leB) (oeB : okS eB) (T : State) (X : St p l e room_1 s m #[.int k0, .int k1, .int k2, .int k3, .int k4, .int k5] below meth c "com/example/pegwright/pegwright/KeyEqualsPinLaw" code maxLocals ret "law" Z EL nw [] [] T h 0 0) :
    OwnKit.Goes p e below s Z EL nw (fun v _ => v = some (.int 1)) (room_1).cells (room_1).slots (T.setTop (mkF m 352 #[.val (.int k0), .val (.int k1), .val (.int k2), .val (.int k3), .val (.int k4), .val (.int k5), .val (.int lwA), .val (.int wA1), .val (.int wA2), .val (.int liA), .val (.int iA1), .val (.int iA2), .val (.int lpA), .val (.int pA), .val (.int leA), .val (.int eA), .val (.int laA), .val (.int aA), .val (.int r0), .val (.int r1), .val (.int r2), .val (.int r3), .val (.int r4), .val (.int lwB), .val (.int wB1), .val (.int wB2), .val (.int liB), .val (.int iB1), .val (.int iB2), .val (.int lpB), .val (.int pB), .val (.int leB), .val (.int eB), .unset, .unset, .unset, .unset, .unset, .unset, .unset, .unset, .unset, .unset] [])) := by
  obtain ⟨hw, hEL, hSA, ⟨zc, SC, hz⟩, ⟨fm, SF, hfm⟩⟩ := id G
  refine g_iload X at_352 rfl 354 rfl ?_
  by_cases hb354 : r4 = (0 : Int32)
  · refine g_ifYes X at_354 (XT.ii_eq_t hb354) 367 (by decide) (by decide) ?_
    refine g_iload X at_367 rfl 369 rfl ?_
    refine g_istore X at_369 (Ls' := #[.val (.int k0), .val (.int k1), .val (.int k2), .val (.int k3), .val (.int k4), .val (.int k5), .val (.int lwA), .val (.int wA1), .val (.int wA2), .val (.int liA), .val (.int iA1), .val (.int iA2), .val (.int lpA), .val (.int pA), .val (.int leA), .val (.int eA), .val (.int laA), .val (.int aA), .val (.int r0), .val (.int r1), .val (.int r2), .val (.int r3), .val (.int r4), .val (.int lwB), .val (.int wB1), .val (.int wB2), .val (.int liB), .val (.int iB1), .val (.int iB2), .val (.int lpB), .val (.int pB), .val (.int leB), .val (.int eB), .val (.int laA), .unset, .unset, .unset, .unset, .unset, .unset, .unset, .unset, .unset]) rfl 371 rfl ?_
    exact J371 l Z a0 G k0 k1 k2 k3 k4 k5 h p e s m below meth c lwA wA1 wA2 liA iA1 iA2 lpA pA leA eA laA aA olwA owA1 owA2 oliA oiA1 oiA2 olpA opA oleA oeA olaA oaA r0 r1 r2 r3 r4 lwB wB1 wB2 liB iB1 iB2 lpB pB leB eB laA olwB owB1 owB2 oliB oiB1 oiB2 olpB opB oleB oeB olaA T X
  · refine g_ifNo X at_354 (XT.ii_eq_f hb354) 357 rfl ?_
    refine g_iload X at_357 rfl 359 rfl ?_
    refine g_bipush X (7 : Int32) at_359 (by decide) 361 rfl ?_
    refine g_iushr X at_361 _ rfl 362 rfl ?_
    refine g_iconst X (1 : Int32) at_362 (by decide) 363 rfl ?_
    refine g_iand X at_363 _ rfl 364 rfl ?_
    refine g_goto X at_364 369 (by decide) (by decide) ?_
    refine g_istore X at_369 (Ls' := #[.val (.int k0), .val (.int k1), .val (.int k2), .val (.int k3), .val (.int k4), .val (.int k5), .val (.int lwA), .val (.int wA1), .val (.int wA2), .val (.int liA), .val (.int iA1), .val (.int iA2), .val (.int lpA), .val (.int pA), .val (.int leA), .val (.int eA), .val (.int laA), .val (.int aA), .val (.int r0), .val (.int r1), .val (.int r2), .val (.int r3), .val (.int r4), .val (.int lwB), .val (.int wB1), .val (.int wB2), .val (.int liB), .val (.int iB1), .val (.int iB2), .val (.int lpB), .val (.int pB), .val (.int leB), .val (.int eB), .val (.int ((XT.ushr k5 (7 : Int32)) &&& (1 : Int32))), .unset, .unset, .unset, .unset, .unset, .unset, .unset, .unset, .unset]) rfl 371 rfl ?_
    exact J371 l Z a0 G k0 k1 k2 k3 k4 k5 h p e s m below meth c lwA wA1 wA2 liA iA1 iA2 lpA pA leA eA laA aA olwA owA1 owA2 oliA oiA1 oiA2 olpA opA oleA oeA olaA oaA r0 r1 r2 r3 r4 lwB wB1 wB2 liB iB1 iB2 lpB pB leB eB ((XT.ushr k5 (7 : Int32)) &&& (1 : Int32)) olwB owB1 owB2 oliB oiB1 oiB2 olpB opB oleB oeB (l1 _) T X
set_option maxRecDepth 65536 in
set_option maxHeartbeats 40000000 in
theorem J332 (l : Launch) (Z : State) (a0 : Array Value) (G : Gl Z a0) (k0 k1 k2 k3 k4 k5 : Int32) (h : Heap) (p : Program) (e : Env) (s : State) (m : MethodId) (below : List Frame) (meth : Method) (c : Code) (lwA : Int32) (wA1 : Int32) (wA2 : Int32) (liA : Int32) (iA1 : Int32) (iA2 : Int32) (lpA : Int32) (pA : Int32) (leA : Int32) (eA : Int32) (laA : Int32) (aA : Int32) (olwA : len012 lwA) (owA1 : okC wA1) (owA2 : okC wA2) (oliA : len012 liA) (oiA1 : okC iA1) (oiA2 : okC iA2) (olpA : len012 lpA) (opA : okC pA) (oleA : len012 leA) (oeA : okS eA) (olaA : len012 laA) (oaA : okS aA) (r0 : Int32) (r1 : Int32) (r2 : Int32) (r3 : Int32) (r4 : Int32) (lwB : Int32) (wB1 : Int32) (wB2 : Int32) (liB : Int32) (iB1 : Int32) (iB2 : Int32) (lpB : Int32) (pB : Int32) (leB : Int32) (olwB : len012 lwB) (owB1 : okC wB1) (owB2 : okC wB2) (oliB : len012 liB) (oiB1 : okC iB1) (oiB2 : okC iB2) (olpB : len012 lpB) (opB : okC pB) (oleB : len012 leB) (T : State) (X : St p l e room_1 s m #[.int k0, .int k1, .int k2, .int k3, .int k4, .int k5] below meth c "com/example/pegwright/pegwright/KeyEqualsPinLaw" code maxLocals ret "law" Z EL nw [] [] T h 0 0) :
    OwnKit.Goes p e below s Z EL nw (fun v _ => v = some (.int 1)) (room_1).cells (room_1).slots (T.setTop (mkF m 332 #[.val (.int k0), .val (.int k1), .val (.int k2), .val (.int k3), .val (.int k4), .val (.int k5), .val (.int lwA), .val (.int wA1), .val (.int wA2), .val (.int liA), .val (.int iA1), .val (.int iA2), .val (.int lpA), .val (.int pA), .val (.int leA), .val (.int eA), .val (.int laA), .val (.int aA), .val (.int r0), .val (.int r1), .val (.int r2), .val (.int r3), .val (.int r4), .val (.int lwB), .val (.int wB1), .val (.int wB2), .val (.int liB), .val (.int iB1), .val (.int iB2), .val (.int lpB), .val (.int pB), .val (.int leB), .unset, .unset, .unset, .unset, .unset, .unset, .unset, .unset, .unset, .unset, .unset] [])) := by
  obtain ⟨hw, hEL, hSA, ⟨zc, SC, hz⟩, ⟨fm, SF, hfm⟩⟩ := id G
  refine g_iload X at_332 rfl 334 rfl ?_
  by_cases hb334 : r3 = (0 : Int32)
  · refine g_ifYes X at_334 (XT.ii_eq_t hb334) 348 (by decide) (by decide) ?_
    refine g_iload X at_348 rfl 350 rfl ?_
    refine g_istore X at_350 (Ls' := #[.val (.int k0), .val (.int k1), .val (.int k2), .val (.int k3), .val (.int k4), .val (.int k5), .val (.int lwA), .val (.int wA1), .val (.int wA2), .val (.int liA), .val (.int iA1), .val (.int iA2), .val (.int lpA), .val (.int pA), .val (.int leA), .val (.int eA), .val (.int laA), .val (.int aA), .val (.int r0), .val (.int r1), .val (.int r2), .val (.int r3), .val (.int r4), .val (.int lwB), .val (.int wB1), .val (.int wB2), .val (.int liB), .val (.int iB1), .val (.int iB2), .val (.int lpB), .val (.int pB), .val (.int leB), .val (.int eA), .unset, .unset, .unset, .unset, .unset, .unset, .unset, .unset, .unset, .unset]) rfl 352 rfl ?_
    exact J352 l Z a0 G k0 k1 k2 k3 k4 k5 h p e s m below meth c lwA wA1 wA2 liA iA1 iA2 lpA pA leA eA laA aA olwA owA1 owA2 oliA oiA1 oiA2 olpA opA oleA oeA olaA oaA r0 r1 r2 r3 r4 lwB wB1 wB2 liB iB1 iB2 lpB pB leB eA olwB owB1 owB2 oliB oiB1 oiB2 olpB opB oleB oeA T X
  · refine g_ifNo X at_334 (XT.ii_eq_f hb334) 337 rfl ?_
    refine g_iload X at_337 rfl 339 rfl ?_
    refine g_bipush X (16 : Int32) at_339 (by decide) 341 rfl ?_
    refine g_iushr X at_341 _ rfl 342 rfl ?_
    refine g_callSp X (hw _ (List.mem_of_getElem? (i := 4) rfl)) (hw _ (List.mem_of_getElem? (i := 5) rfl)) (hw _ (List.mem_of_getElem? (i := 2) rfl)) (hw _ (List.mem_of_getElem? (i := 6) rfl)) (by decide) (c_pc l Z a0 G (XT.ushr k5 (16 : Int32)) h) (by simp) (argsL := [.int (XT.ushr k5 (16 : Int32))]) (rest := []) pd_0 rfl rfl rfl rfl 0 (Nat.le_of_eq rfl) (by decide) (by decide) (ck := 0) rfl (cs := 0) rfl (by decide) (by decide) at_342 345 rfl ?_
    intro w265 T263 X264 hq266
    subst hq266
    refine g_goto X264 at_345 350 (by decide) (by decide) ?_
    refine g_istore X264 at_350 (Ls' := #[.val (.int k0), .val (.int k1), .val (.int k2), .val (.int k3), .val (.int k4), .val (.int k5), .val (.int lwA), .val (.int wA1), .val (.int wA2), .val (.int liA), .val (.int iA1), .val (.int iA2), .val (.int lpA), .val (.int pA), .val (.int leA), .val (.int eA), .val (.int laA), .val (.int aA), .val (.int r0), .val (.int r1), .val (.int r2), .val (.int r3), .val (.int r4), .val (.int lwB), .val (.int wB1), .val (.int wB2), .val (.int liB), .val (.int iB1), .val (.int iB2), .val (.int lpB), .val (.int pB), .val (.int leB), .val (.int (pcJ (XT.ushr k5 (16 : Int32)))), .unset, .unset, .unset, .unset, .unset, .unset, .unset, .unset, .unset, .unset]) rfl 352 rfl ?_
    exact J352 l Z a0 G k0 k1 k2 k3 k4 k5 h p e s m below meth c lwA wA1 wA2 liA iA1 iA2 lpA pA leA eA laA aA olwA owA1 owA2 oliA oiA1 oiA2 olpA opA oleA oeA olaA oaA r0 r1 r2 r3 r4 lwB wB1 wB2 liB iB1 iB2 lpB pB leB (pcJ (XT.ushr k5 (16 : Int32))) olwB owB1 owB2 oliB oiB1 oiB2 olpB opB oleB (pcJ_ok _) T263 X264
set_option maxRecDepth 65536 in
set_option maxHeartbeats 40000000 in
theorem J313 (l : Launch) (Z : State) (a0 : Array Value) (G : Gl Z a0) (k0 k1 k2 k3 k4 k5 : Int32) (h : Heap) (p : Program) (e : Env) (s : State) (m : MethodId) (below : List Frame) (meth : Method) (c : Code) (lwA : Int32) (wA1 : Int32) (wA2 : Int32) (liA : Int32) (iA1 : Int32) (iA2 : Int32) (lpA : Int32) (pA : Int32) (leA : Int32) (eA : Int32) (laA : Int32) (aA : Int32) (olwA : len012 lwA) (owA1 : okC wA1) (owA2 : okC wA2) (oliA : len012 liA) (oiA1 : okC iA1) (oiA2 : okC iA2) (olpA : len012 lpA) (opA : okC pA) (oleA : len012 leA) (oeA : okS eA) (olaA : len012 laA) (oaA : okS aA) (r0 : Int32) (r1 : Int32) (r2 : Int32) (r3 : Int32) (r4 : Int32) (lwB : Int32) (wB1 : Int32) (wB2 : Int32) (liB : Int32) (iB1 : Int32) (iB2 : Int32) (lpB : Int32) (pB : Int32) (olwB : len012 lwB) (owB1 : okC wB1) (owB2 : okC wB2) (oliB : len012 liB) (oiB1 : okC iB1) (oiB2 : okC iB2) (olpB : len012 lpB) (opB : okC pB) (T : State) (X : St p l e room_1 s m #[.int k0, .int k1, .int k2, .int k3, .int k4, .int k5] below meth c "com/example/pegwright/pegwright/KeyEqualsPinLaw" code maxLocals ret "law" Z EL nw [] [] T h 0 0) :
    OwnKit.Goes p e below s Z EL nw (fun v _ => v = some (.int 1)) (room_1).cells (room_1).slots (T.setTop (mkF m 313 #[.val (.int k0), .val (.int k1), .val (.int k2), .val (.int k3), .val (.int k4), .val (.int k5), .val (.int lwA), .val (.int wA1), .val (.int wA2), .val (.int liA), .val (.int iA1), .val (.int iA2), .val (.int lpA), .val (.int pA), .val (.int leA), .val (.int eA), .val (.int laA), .val (.int aA), .val (.int r0), .val (.int r1), .val (.int r2), .val (.int r3), .val (.int r4), .val (.int lwB), .val (.int wB1), .val (.int wB2), .val (.int liB), .val (.int iB1), .val (.int iB2), .val (.int lpB), .val (.int pB), .unset, .unset, .unset, .unset, .unset, .unset, .unset, .unset, .unset, .unset, .unset, .unset] [])) := by
  obtain ⟨hw, hEL, hSA, ⟨zc, SC, hz⟩, ⟨fm, SF, hfm⟩⟩ := id G
  refine g_iload X at_313 rfl 315 rfl ?_
  by_cases hb315 : r3 = (0 : Int32)
  · refine g_ifYes X at_315 (XT.ii_eq_t hb315) 328 (by decide) (by decide) ?_
    refine g_iload X at_328 rfl 330 rfl ?_
    refine g_istore X at_330 (Ls' := #[.val (.int k0), .val (.int k1), .val (.int k2), .val (.int k3), .val (.int k4), .val (.int k5), .val (.int lwA), .val (.int wA1), .val (.int wA2), .val (.int liA), .val (.int iA1), .val (.int iA2), .val (.int lpA), .val (.int pA), .val (.int leA), .val (.int eA), .val (.int laA), .val (.int aA), .val (.int r0), .val (.int r1), .val (.int r2), .val (.int r3), .val (.int r4), .val (.int lwB), .val (.int wB1), .val (.int wB2), .val (.int liB), .val (.int iB1), .val (.int iB2), .val (.int lpB), .val (.int pB), .val (.int leA), .unset, .unset, .unset, .unset, .unset, .unset, .unset, .unset, .unset, .unset, .unset]) rfl 332 rfl ?_
    exact J332 l Z a0 G k0 k1 k2 k3 k4 k5 h p e s m below meth c lwA wA1 wA2 liA iA1 iA2 lpA pA leA eA laA aA olwA owA1 owA2 oliA oiA1 oiA2 olpA opA oleA oeA olaA oaA r0 r1 r2 r3 r4 lwB wB1 wB2 liB iB1 iB2 lpB pB leA olwB owB1 owB2 oliB oiB1 oiB2 olpB opB oleA T X
  · refine g_ifNo X at_315 (XT.ii_eq_f hb315) 318 rfl ?_
    refine g_iload X at_318 rfl 320 rfl ?_
    refine g_bipush X (6 : Int32) at_320 (by decide) 322 rfl ?_
    refine g_iushr X at_322 _ rfl 323 rfl ?_
    refine g_iconst X (1 : Int32) at_323 (by decide) 324 rfl ?_
    refine g_iand X at_324 _ rfl 325 rfl ?_
    refine g_goto X at_325 330 (by decide) (by decide) ?_
    refine g_istore X at_330 (Ls' := #[.val (.int k0), .val (.int k1), .val (.int k2), .val (.int k3), .val (.int k4), .val (.int k5), .val (.int lwA), .val (.int wA1), .val (.int wA2), .val (.int liA), .val (.int iA1), .val (.int iA2), .val (.int lpA), .val (.int pA), .val (.int leA), .val (.int eA), .val (.int laA), .val (.int aA), .val (.int r0), .val (.int r1), .val (.int r2), .val (.int r3), .val (.int r4), .val (.int lwB), .val (.int wB1), .val (.int wB2), .val (.int liB), .val (.int iB1), .val (.int iB2), .val (.int lpB), .val (.int pB), .val (.int ((XT.ushr k5 (6 : Int32)) &&& (1 : Int32))), .unset, .unset, .unset, .unset, .unset, .unset, .unset, .unset, .unset, .unset, .unset]) rfl 332 rfl ?_
    exact J332 l Z a0 G k0 k1 k2 k3 k4 k5 h p e s m below meth c lwA wA1 wA2 liA iA1 iA2 lpA pA leA eA laA aA olwA owA1 owA2 oliA oiA1 oiA2 olpA opA oleA oeA olaA oaA r0 r1 r2 r3 r4 lwB wB1 wB2 liB iB1 iB2 lpB pB ((XT.ushr k5 (6 : Int32)) &&& (1 : Int32)) olwB owB1 owB2 oliB oiB1 oiB2 olpB opB (l1 _) T X
set_option maxRecDepth 65536 in
set_option maxHeartbeats 40000000 in
theorem J293 (l : Launch) (Z : State) (a0 : Array Value) (G : Gl Z a0) (k0 k1 k2 k3 k4 k5 : Int32) (h : Heap) (p : Program) (e : Env) (s : State) (m : MethodId) (below : List Frame) (meth : Method) (c : Code) (lwA : Int32) (wA1 : Int32) (wA2 : Int32) (liA : Int32) (iA1 : Int32) (iA2 : Int32) (lpA : Int32) (pA : Int32) (leA : Int32) (eA : Int32) (laA : Int32) (aA : Int32) (olwA : len012 lwA) (owA1 : okC wA1) (owA2 : okC wA2) (oliA : len012 liA) (oiA1 : okC iA1) (oiA2 : okC iA2) (olpA : len012 lpA) (opA : okC pA) (oleA : len012 leA) (oeA : okS eA) (olaA : len012 laA) (oaA : okS aA) (r0 : Int32) (r1 : Int32) (r2 : Int32) (r3 : Int32) (r4 : Int32) (lwB : Int32) (wB1 : Int32) (wB2 : Int32) (liB : Int32) (iB1 : Int32) (iB2 : Int32) (lpB : Int32) (olwB : len012 lwB) (owB1 : okC wB1) (owB2 : okC wB2) (oliB : len012 liB) (oiB1 : okC iB1) (oiB2 : okC iB2) (olpB : len012 lpB) (T : State) (X : St p l e room_1 s m #[.int k0, .int k1, .int k2, .int k3, .int k4, .int k5] below meth c "com/example/pegwright/pegwright/KeyEqualsPinLaw" code maxLocals ret "law" Z EL nw [] [] T h 0 0) :
    OwnKit.Goes p e below s Z EL nw (fun v _ => v = some (.int 1)) (room_1).cells (room_1).slots (T.setTop (mkF m 293 #[.val (.int k0), .val (.int k1), .val (.int k2), .val (.int k3), .val (.int k4), .val (.int k5), .val (.int lwA), .val (.int wA1), .val (.int wA2), .val (.int liA), .val (.int iA1), .val (.int iA2), .val (.int lpA), .val (.int pA), .val (.int leA), .val (.int eA), .val (.int laA), .val (.int aA), .val (.int r0), .val (.int r1), .val (.int r2), .val (.int r3), .val (.int r4), .val (.int lwB), .val (.int wB1), .val (.int wB2), .val (.int liB), .val (.int iB1), .val (.int iB2), .val (.int lpB), .unset, .unset, .unset, .unset, .unset, .unset, .unset, .unset, .unset, .unset, .unset, .unset, .unset] [])) := by
  obtain ⟨hw, hEL, hSA, ⟨zc, SC, hz⟩, ⟨fm, SF, hfm⟩⟩ := id G
  refine g_iload X at_293 rfl 295 rfl ?_
  by_cases hb295 : r2 = (0 : Int32)
  · refine g_ifYes X at_295 (XT.ii_eq_t hb295) 309 (by decide) (by decide) ?_
    refine g_iload X at_309 rfl 311 rfl ?_
    refine g_istore X at_311 (Ls' := #[.val (.int k0), .val (.int k1), .val (.int k2), .val (.int k3), .val (.int k4), .val (.int k5), .val (.int lwA), .val (.int wA1), .val (.int wA2), .val (.int liA), .val (.int iA1), .val (.int iA2), .val (.int lpA), .val (.int pA), .val (.int leA), .val (.int eA), .val (.int laA), .val (.int aA), .val (.int r0), .val (.int r1), .val (.int r2), .val (.int r3), .val (.int r4), .val (.int lwB), .val (.int wB1), .val (.int wB2), .val (.int liB), .val (.int iB1), .val (.int iB2), .val (.int lpB), .val (.int pA), .unset, .unset, .unset, .unset, .unset, .unset, .unset, .unset, .unset, .unset, .unset, .unset]) rfl 313 rfl ?_
    exact J313 l Z a0 G k0 k1 k2 k3 k4 k5 h p e s m below meth c lwA wA1 wA2 liA iA1 iA2 lpA pA leA eA laA aA olwA owA1 owA2 oliA oiA1 oiA2 olpA opA oleA oeA olaA oaA r0 r1 r2 r3 r4 lwB wB1 wB2 liB iB1 iB2 lpB pA olwB owB1 owB2 oliB oiB1 oiB2 olpB opA T X
  · refine g_ifNo X at_295 (XT.ii_eq_f hb295) 298 rfl ?_
    refine g_iload X at_298 rfl 300 rfl ?_
    refine g_bipush X (8 : Int32) at_300 (by decide) 302 rfl ?_
    refine g_iushr X at_302 _ rfl 303 rfl ?_
    refine g_callSp X (hw _ (List.mem_of_getElem? (i := 0) rfl)) (hw _ (List.mem_of_getElem? (i := 1) rfl)) (hw _ (List.mem_of_getElem? (i := 2) rfl)) (hw _ (List.mem_of_getElem? (i := 3) rfl)) (by decide) (c_ch l Z a0 G (XT.ushr k5 (8 : Int32)) h) (by simp) (argsL := [.int (XT.ushr k5 (8 : Int32))]) (rest := []) pd_0 rfl rfl rfl rfl 0 (Nat.le_of_eq rfl) (by decide) (by decide) (ck := 0) rfl (cs := 0) rfl (by decide) (by decide) at_303 306 rfl ?_
    intro w269 T267 X268 hq270
    subst hq270
    refine g_goto X268 at_306 311 (by decide) (by decide) ?_
    refine g_istore X268 at_311 (Ls' := #[.val (.int k0), .val (.int k1), .val (.int k2), .val (.int k3), .val (.int k4), .val (.int k5), .val (.int lwA), .val (.int wA1), .val (.int wA2), .val (.int liA), .val (.int iA1), .val (.int iA2), .val (.int lpA), .val (.int pA), .val (.int leA), .val (.int eA), .val (.int laA), .val (.int aA), .val (.int r0), .val (.int r1), .val (.int r2), .val (.int r3), .val (.int r4), .val (.int lwB), .val (.int wB1), .val (.int wB2), .val (.int liB), .val (.int iB1), .val (.int iB2), .val (.int lpB), .val (.int (chJ (XT.ushr k5 (8 : Int32)))), .unset, .unset, .unset, .unset, .unset, .unset, .unset, .unset, .unset, .unset, .unset, .unset]) rfl 313 rfl ?_
    exact J313 l Z a0 G k0 k1 k2 k3 k4 k5 h p e s m below meth c lwA wA1 wA2 liA iA1 iA2 lpA pA leA eA laA aA olwA owA1 owA2 oliA oiA1 oiA2 olpA opA oleA oeA olaA oaA r0 r1 r2 r3 r4 lwB wB1 wB2 liB iB1 iB2 lpB (chJ (XT.ushr k5 (8 : Int32))) olwB owB1 owB2 oliB oiB1 oiB2 olpB (chJ_ok _) T267 X268
set_option maxRecDepth 65536 in
set_option maxHeartbeats 40000000 in
theorem J275 (l : Launch) (Z : State) (a0 : Array Value) (G : Gl Z a0) (k0 k1 k2 k3 k4 k5 : Int32) (h : Heap) (p : Program) (e : Env) (s : State) (m : MethodId) (below : List Frame) (meth : Method) (c : Code) (lwA : Int32) (wA1 : Int32) (wA2 : Int32) (liA : Int32) (iA1 : Int32) (iA2 : Int32) (lpA : Int32) (pA : Int32) (leA : Int32) (eA : Int32) (laA : Int32) (aA : Int32) (olwA : len012 lwA) (owA1 : okC wA1) (owA2 : okC wA2) (oliA : len012 liA) (oiA1 : okC iA1) (oiA2 : okC iA2) (olpA : len012 lpA) (opA : okC pA) (oleA : len012 leA) (oeA : okS eA) (olaA : len012 laA) (oaA : okS aA) (r0 : Int32) (r1 : Int32) (r2 : Int32) (r3 : Int32) (r4 : Int32) (lwB : Int32) (wB1 : Int32) (wB2 : Int32) (liB : Int32) (iB1 : Int32) (iB2 : Int32) (olwB : len012 lwB) (owB1 : okC wB1) (owB2 : okC wB2) (oliB : len012 liB) (oiB1 : okC iB1) (oiB2 : okC iB2) (T : State) (X : St p l e room_1 s m #[.int k0, .int k1, .int k2, .int k3, .int k4, .int k5] below meth c "com/example/pegwright/pegwright/KeyEqualsPinLaw" code maxLocals ret "law" Z EL nw [] [] T h 0 0) :
    OwnKit.Goes p e below s Z EL nw (fun v _ => v = some (.int 1)) (room_1).cells (room_1).slots (T.setTop (mkF m 275 #[.val (.int k0), .val (.int k1), .val (.int k2), .val (.int k3), .val (.int k4), .val (.int k5), .val (.int lwA), .val (.int wA1), .val (.int wA2), .val (.int liA), .val (.int iA1), .val (.int iA2), .val (.int lpA), .val (.int pA), .val (.int leA), .val (.int eA), .val (.int laA), .val (.int aA), .val (.int r0), .val (.int r1), .val (.int r2), .val (.int r3), .val (.int r4), .val (.int lwB), .val (.int wB1), .val (.int wB2), .val (.int liB), .val (.int iB1), .val (.int iB2), .unset, .unset, .unset, .unset, .unset, .unset, .unset, .unset, .unset, .unset, .unset, .unset, .unset, .unset] [])) := by
  obtain ⟨hw, hEL, hSA, ⟨zc, SC, hz⟩, ⟨fm, SF, hfm⟩⟩ := id G
  refine g_iload X at_275 rfl 277 rfl ?_
  by_cases hb277 : r2 = (0 : Int32)
  · refine g_ifYes X at_277 (XT.ii_eq_t hb277) 289 (by decide) (by decide) ?_
    refine g_iload X at_289 rfl 291 rfl ?_
    refine g_istore X at_291 (Ls' := #[.val (.int k0), .val (.int k1), .val (.int k2), .val (.int k3), .val (.int k4), .val (.int k5), .val (.int lwA), .val (.int wA1), .val (.int wA2), .val (.int liA), .val (.int iA1), .val (.int iA2), .val (.int lpA), .val (.int pA), .val (.int leA), .val (.int eA), .val (.int laA), .val (.int aA), .val (.int r0), .val (.int r1), .val (.int r2), .val (.int r3), .val (.int r4), .val (.int lwB), .val (.int wB1), .val (.int wB2), .val (.int liB), .val (.int iB1), .val (.int iB2), .val (.int lpA), .unset, .unset, .unset, .unset, .unset, .unset, .unset, .unset, .unset, .unset, .unset, .unset, .unset]) rfl 293 rfl ?_
    exact J293 l Z a0 G k0 k1 k2 k3 k4 k5 h p e s m below meth c lwA wA1 wA2 liA iA1 iA2 lpA pA leA eA laA aA olwA owA1 owA2 oliA oiA1 oiA2 olpA opA oleA oeA olaA oaA r0 r1 r2 r3 r4 lwB wB1 wB2 liB iB1 iB2 lpA olwB owB1 owB2 oliB oiB1 oiB2 olpA T X
  · refine g_ifNo X at_277 (XT.ii_eq_f hb277) 280 rfl ?_
    refine g_iload X at_280 rfl 282 rfl ?_
    refine g_iconst X (5 : Int32) at_282 (by decide) 283 rfl ?_
    refine g_iushr X at_283 _ rfl 284 rfl ?_
    refine g_iconst X (1 : Int32) at_284 (by decide) 285 rfl ?_
    refine g_iand X at_285 _ rfl 286 rfl ?_
    refine g_goto X at_286 291 (by decide) (by decide) ?_
    refine g_istore X at_291 (Ls' := #[.val (.int k0), .val (.int k1), .val (.int k2), .val (.int k3), .val (.int k4), .val (.int k5), .val (.int lwA), .val (.int wA1), .val (.int wA2), .val (.int liA), .val (.int iA1), .val (.int iA2), .val (.int lpA), .val (.int pA), .val (.int leA), .val (.int eA), .val (.int laA), .val (.int aA), .val (.int r0), .val (.int r1), .val (.int r2), .val (.int r3), .val (.int r4), .val (.int lwB), .val (.int wB1), .val (.int wB2), .val (.int liB), .val (.int iB1), .val (.int iB2), .val (.int ((XT.ushr k5 (5 : Int32)) &&& (1 : Int32))), .unset, .unset, .unset, .unset, .unset, .unset, .unset, .unset, .unset, .unset, .unset, .unset, .unset]) rfl 293 rfl ?_
    exact J293 l Z a0 G k0 k1 k2 k3 k4 k5 h p e s m below meth c lwA wA1 wA2 liA iA1 iA2 lpA pA leA eA laA aA olwA owA1 owA2 oliA oiA1 oiA2 olpA opA oleA oeA olaA oaA r0 r1 r2 r3 r4 lwB wB1 wB2 liB iB1 iB2 ((XT.ushr k5 (5 : Int32)) &&& (1 : Int32)) olwB owB1 owB2 oliB oiB1 oiB2 (l1 _) T X
set_option maxRecDepth 65536 in
set_option maxHeartbeats 40000000 in
theorem J255 (l : Launch) (Z : State) (a0 : Array Value) (G : Gl Z a0) (k0 k1 k2 k3 k4 k5 : Int32) (h : Heap) (p : Program) (e : Env) (s : State) (m : MethodId) (below : List Frame) (meth : Method) (c : Code) (lwA : Int32) (wA1 : Int32) (wA2 : Int32) (liA : Int32) (iA1 : Int32) (iA2 : Int32) (lpA : Int32) (pA : Int32) (leA : Int32) (eA : Int32) (laA : Int32) (aA : Int32) (olwA : len012 lwA) (owA1 : okC wA1) (owA2 : okC wA2) (oliA : len012 liA) (oiA1 : okC iA1) (oiA2 : okC iA2) (olpA : len012 lpA) (opA : okC pA) (oleA : len012 leA) (oeA : okS eA) (olaA : len012 laA) (oaA : okS aA) (r0 : Int32) (r1 : Int32) (r2 : Int32) (r3 : Int32) (r4 : Int32) (lwB : Int32) (wB1 : Int32) (wB2 : Int32) (liB : Int32) (iB1 : Int32) (olwB : len012 lwB) (owB1 : okC wB1) (owB2 : okC wB2) (oliB : len012 liB) (oiB1 : okC iB1) (T : State) (X : St p l e room_1 s m #[.int k0, .int k1, .int k2, .int k3, .int k4, .int k5] below meth c "com/example/pegwright/pegwright/KeyEqualsPinLaw" code maxLocals ret "law" Z EL nw [] [] T h 0 0) :
    OwnKit.Goes p e below s Z EL nw (fun v _ => v = some (.int 1)) (room_1).cells (room_1).slots (T.setTop (mkF m 255 #[.val (.int k0), .val (.int k1), .val (.int k2), .val (.int k3), .val (.int k4), .val (.int k5), .val (.int lwA), .val (.int wA1), .val (.int wA2), .val (.int liA), .val (.int iA1), .val (.int iA2), .val (.int lpA), .val (.int pA), .val (.int leA), .val (.int eA), .val (.int laA), .val (.int aA), .val (.int r0), .val (.int r1), .val (.int r2), .val (.int r3), .val (.int r4), .val (.int lwB), .val (.int wB1), .val (.int wB2), .val (.int liB), .val (.int iB1), .unset, .unset, .unset, .unset, .unset, .unset, .unset, .unset, .unset, .unset, .unset, .unset, .unset, .unset, .unset] [])) := by
  obtain ⟨hw, hEL, hSA, ⟨zc, SC, hz⟩, ⟨fm, SF, hfm⟩⟩ := id G
  refine g_iload X at_255 rfl 257 rfl ?_
  by_cases hb257 : r1 = (0 : Int32)
  · refine g_ifYes X at_257 (XT.ii_eq_t hb257) 271 (by decide) (by decide) ?_
    refine g_iload X at_271 rfl 273 rfl ?_
    refine g_istore X at_273 (Ls' := #[.val (.int k0), .val (.int k1), .val (.int k2), .val (.int k3), .val (.int k4), .val (.int k5), .val (.int lwA), .val (.int wA1), .val (.int wA2), .val (.int liA), .val (.int iA1), .val (.int iA2), .val (.int lpA), .val (.int pA), .val (.int leA), .val (.int eA), .val (.int laA), .val (.int aA), .val (.int r0), .val (.int r1), .val (.int r2), .val (.int r3), .val (.int r4), .val (.int lwB), .val (.int wB1), .val (.int wB2), .val (.int liB), .val (.int iB1), .val (.int iA2), .unset, .unset, .unset, .unset, .unset, .unset, .unset, .unset, .unset, .unset, .unset, .unset, .unset, .unset]) rfl 275 rfl ?_
    exact J275 l Z a0 G k0 k1 k2 k3 k4 k5 h p e s m below meth c lwA wA1 wA2 liA iA1 iA2 lpA pA leA eA laA aA olwA owA1 owA2 oliA oiA1 oiA2 olpA opA oleA oeA olaA oaA r0 r1 r2 r3 r4 lwB wB1 wB2 liB iB1 iA2 olwB owB1 owB2 oliB oiB1 oiA2 T X
  · refine g_ifNo X at_257 (XT.ii_eq_f hb257) 260 rfl ?_
    refine g_iload X at_260 rfl 262 rfl ?_
    refine g_bipush X (8 : Int32) at_262 (by decide) 264 rfl ?_
    refine g_iushr X at_264 _ rfl 265 rfl ?_
    refine g_callSp X (hw _ (List.mem_of_getElem? (i := 0) rfl)) (hw _ (List.mem_of_getElem? (i := 1) rfl)) (hw _ (List.mem_of_getElem? (i := 2) rfl)) (hw _ (List.mem_of_getElem? (i := 3) rfl)) (by decide) (c_ch l Z a0 G (XT.ushr k4 (8 : Int32)) h) (by simp) (argsL := [.int (XT.ushr k4 (8 : Int32))]) (rest := []) pd_0 rfl rfl rfl rfl 0 (Nat.le_of_eq rfl) (by decide) (by decide) (ck := 0) rfl (cs := 0) rfl (by decide) (by decide) at_265 268 rfl ?_
    intro w273 T271 X272 hq274
    subst hq274
    refine g_goto X272 at_268 273 (by decide) (by decide) ?_
    refine g_istore X272 at_273 (Ls' := #[.val (.int k0), .val (.int k1), .val (.int k2), .val (.int k3), .val (.int k4), .val (.int k5), .val (.int lwA), .val (.int wA1), .val (.int wA2), .val (.int liA), .val (.int iA1), .val (.int iA2), .val (.int lpA), .val (.int pA), .val (.int leA), .val (.int eA), .val (.int laA), .val (.int aA), .val (.int r0), .val (.int r1), .val (.int r2), .val (.int r3), .val (.int r4), .val (.int lwB), .val (.int wB1), .val (.int wB2), .val (.int liB), .val (.int iB1), .val (.int (chJ (XT.ushr k4 (8 : Int32)))), .unset, .unset, .unset, .unset, .unset, .unset, .unset, .unset, .unset, .unset, .unset, .unset, .unset, .unset]) rfl 275 rfl ?_
    exact J275 l Z a0 G k0 k1 k2 k3 k4 k5 h p e s m below meth c lwA wA1 wA2 liA iA1 iA2 lpA pA leA eA laA aA olwA owA1 owA2 oliA oiA1 oiA2 olpA opA oleA oeA olaA oaA r0 r1 r2 r3 r4 lwB wB1 wB2 liB iB1 (chJ (XT.ushr k4 (8 : Int32))) olwB owB1 owB2 oliB oiB1 (chJ_ok _) T271 X272
set_option maxRecDepth 65536 in
set_option maxHeartbeats 40000000 in
theorem J238 (l : Launch) (Z : State) (a0 : Array Value) (G : Gl Z a0) (k0 k1 k2 k3 k4 k5 : Int32) (h : Heap) (p : Program) (e : Env) (s : State) (m : MethodId) (below : List Frame) (meth : Method) (c : Code) (lwA : Int32) (wA1 : Int32) (wA2 : Int32) (liA : Int32) (iA1 : Int32) (iA2 : Int32) (lpA : Int32) (pA : Int32) (leA : Int32) (eA : Int32) (laA : Int32) (aA : Int32) (olwA : len012 lwA) (owA1 : okC wA1) (owA2 : okC wA2) (oliA : len012 liA) (oiA1 : okC iA1) (oiA2 : okC iA2) (olpA : len012 lpA) (opA : okC pA) (oleA : len012 leA) (oeA : okS eA) (olaA : len012 laA) (oaA : okS aA) (r0 : Int32) (r1 : Int32) (r2 : Int32) (r3 : Int32) (r4 : Int32) (lwB : Int32) (wB1 : Int32) (wB2 : Int32) (liB : Int32) (olwB : len012 lwB) (owB1 : okC wB1) (owB2 : okC wB2) (oliB : len012 liB) (T : State) (X : St p l e room_1 s m #[.int k0, .int k1, .int k2, .int k3, .int k4, .int k5] below meth c "com/example/pegwright/pegwright/KeyEqualsPinLaw" code maxLocals ret "law" Z EL nw [] [] T h 0 0) :
    OwnKit.Goes p e below s Z EL nw (fun v _ => v = some (.int 1)) (room_1).cells (room_1).slots (T.setTop (mkF m 238 #[.val (.int k0), .val (.int k1), .val (.int k2), .val (.int k3), .val (.int k4), .val (.int k5), .val (.int lwA), .val (.int wA1), .val (.int wA2), .val (.int liA), .val (.int iA1), .val (.int iA2), .val (.int lpA), .val (.int pA), .val (.int leA), .val (.int eA), .val (.int laA), .val (.int aA), .val (.int r0), .val (.int r1), .val (.int r2), .val (.int r3), .val (.int r4), .val (.int lwB), .val (.int wB1), .val (.int wB2), .val (.int liB), .unset, .unset, .unset, .unset, .unset, .unset, .unset, .unset, .unset, .unset, .unset, .unset, .unset, .unset, .unset, .unset] [])) := by
  obtain ⟨hw, hEL, hSA, ⟨zc, SC, hz⟩, ⟨fm, SF, hfm⟩⟩ := id G
  refine g_iload X at_238 rfl 240 rfl ?_
  by_cases hb240 : r1 = (0 : Int32)
  · refine g_ifYes X at_240 (XT.ii_eq_t hb240) 251 (by decide) (by decide) ?_
    refine g_iload X at_251 rfl 253 rfl ?_
    refine g_istore X at_253 (Ls' := #[.val (.int k0), .val (.int k1), .val (.int k2), .val (.int k3), .val (.int k4), .val (.int k5), .val (.int lwA), .val (.int wA1), .val (.int wA2), .val (.int liA), .val (.int iA1), .val (.int iA2), .val (.int lpA), .val (.int pA), .val (.int leA), .val (.int eA), .val (.int laA), .val (.int aA), .val (.int r0), .val (.int r1), .val (.int r2), .val (.int r3), .val (.int r4), .val (.int lwB), .val (.int wB1), .val (.int wB2), .val (.int liB), .val (.int iA1), .unset, .unset, .unset, .unset, .unset, .unset, .unset, .unset, .unset, .unset, .unset, .unset, .unset, .unset, .unset]) rfl 255 rfl ?_
    exact J255 l Z a0 G k0 k1 k2 k3 k4 k5 h p e s m below meth c lwA wA1 wA2 liA iA1 iA2 lpA pA leA eA laA aA olwA owA1 owA2 oliA oiA1 oiA2 olpA opA oleA oeA olaA oaA r0 r1 r2 r3 r4 lwB wB1 wB2 liB iA1 olwB owB1 owB2 oliB oiA1 T X
  · refine g_ifNo X at_240 (XT.ii_eq_f hb240) 243 rfl ?_
    refine g_iload X at_243 rfl 245 rfl ?_
    refine g_callSp X (hw _ (List.mem_of_getElem? (i := 0) rfl)) (hw _ (List.mem_of_getElem? (i := 1) rfl)) (hw _ (List.mem_of_getElem? (i := 2) rfl)) (hw _ (List.mem_of_getElem? (i := 3) rfl)) (by decide) (c_ch l Z a0 G k4 h) (by simp) (argsL := [.int k4]) (rest := []) pd_0 rfl rfl rfl rfl 0 (Nat.le_of_eq rfl) (by decide) (by decide) (ck := 0) rfl (cs := 0) rfl (by decide) (by decide) at_245 248 rfl ?_
    intro w277 T275 X276 hq278
    subst hq278
    refine g_goto X276 at_248 253 (by decide) (by decide) ?_
    refine g_istore X276 at_253 (Ls' := #[.val (.int k0), .val (.int k1), .val (.int k2), .val (.int k3), .val (.int k4), .val (.int k5), .val (.int lwA), .val (.int wA1), .val (.int wA2), .val (.int liA), .val (.int iA1), .val (.int iA2), .val (.int lpA), .val (.int pA), .val (.int leA), .val (.int eA), .val (.int laA), .val (.int aA), .val (.int r0), .val (.int r1), .val (.int r2), .val (.int r3), .val (.int r4), .val (.int lwB), .val (.int wB1), .val (.int wB2), .val (.int liB), .val (.int (chJ k4)), .unset, .unset, .unset, .unset, .unset, .unset, .unset, .unset, .unset, .unset, .unset, .unset, .unset, .unset, .unset]) rfl 255 rfl ?_
    exact J255 l Z a0 G k0 k1 k2 k3 k4 k5 h p e s m below meth c lwA wA1 wA2 liA iA1 iA2 lpA pA leA eA laA aA olwA owA1 owA2 oliA oiA1 oiA2 olpA opA oleA oeA olaA oaA r0 r1 r2 r3 r4 lwB wB1 wB2 liB (chJ k4) olwB owB1 owB2 oliB (chJ_ok _) T275 X276
set_option maxRecDepth 65536 in
set_option maxHeartbeats 40000000 in
theorem J219 (l : Launch) (Z : State) (a0 : Array Value) (G : Gl Z a0) (k0 k1 k2 k3 k4 k5 : Int32) (h : Heap) (p : Program) (e : Env) (s : State) (m : MethodId) (below : List Frame) (meth : Method) (c : Code) (lwA : Int32) (wA1 : Int32) (wA2 : Int32) (liA : Int32) (iA1 : Int32) (iA2 : Int32) (lpA : Int32) (pA : Int32) (leA : Int32) (eA : Int32) (laA : Int32) (aA : Int32) (olwA : len012 lwA) (owA1 : okC wA1) (owA2 : okC wA2) (oliA : len012 liA) (oiA1 : okC iA1) (oiA2 : okC iA2) (olpA : len012 lpA) (opA : okC pA) (oleA : len012 leA) (oeA : okS eA) (olaA : len012 laA) (oaA : okS aA) (r0 : Int32) (r1 : Int32) (r2 : Int32) (r3 : Int32) (r4 : Int32) (lwB : Int32) (wB1 : Int32) (wB2 : Int32) (olwB : len012 lwB) (owB1 : okC wB1) (owB2 : okC wB2) (T : State) (X : St p l e room_1 s m #[.int k0, .int k1, .int k2, .int k3, .int k4, .int k5] below meth c "com/example/pegwright/pegwright/KeyEqualsPinLaw" code maxLocals ret "law" Z EL nw [] [] T h 0 0) :
    OwnKit.Goes p e below s Z EL nw (fun v _ => v = some (.int 1)) (room_1).cells (room_1).slots (T.setTop (mkF m 219 #[.val (.int k0), .val (.int k1), .val (.int k2), .val (.int k3), .val (.int k4), .val (.int k5), .val (.int lwA), .val (.int wA1), .val (.int wA2), .val (.int liA), .val (.int iA1), .val (.int iA2), .val (.int lpA), .val (.int pA), .val (.int leA), .val (.int eA), .val (.int laA), .val (.int aA), .val (.int r0), .val (.int r1), .val (.int r2), .val (.int r3), .val (.int r4), .val (.int lwB), .val (.int wB1), .val (.int wB2), .unset, .unset, .unset, .unset, .unset, .unset, .unset, .unset, .unset, .unset, .unset, .unset, .unset, .unset, .unset, .unset, .unset] [])) := by
  obtain ⟨hw, hEL, hSA, ⟨zc, SC, hz⟩, ⟨fm, SF, hfm⟩⟩ := id G
  refine g_iload X at_219 rfl 221 rfl ?_
  by_cases hb221 : r1 = (0 : Int32)
  · refine g_ifYes X at_221 (XT.ii_eq_t hb221) 234 (by decide) (by decide) ?_
    refine g_iload X at_234 rfl 236 rfl ?_
    refine g_istore X at_236 (Ls' := #[.val (.int k0), .val (.int k1), .val (.int k2), .val (.int k3), .val (.int k4), .val (.int k5), .val (.int lwA), .val (.int wA1), .val (.int wA2), .val (.int liA), .val (.int iA1), .val (.int iA2), .val (.int lpA), .val (.int pA), .val (.int leA), .val (.int eA), .val (.int laA), .val (.int aA), .val (.int r0), .val (.int r1), .val (.int r2), .val (.int r3), .val (.int r4), .val (.int lwB), .val (.int wB1), .val (.int wB2), .val (.int liA), .unset, .unset, .unset, .unset, .unset, .unset, .unset, .unset, .unset, .unset, .unset, .unset, .unset, .unset, .unset, .unset]) rfl 238 rfl ?_
    exact J238 l Z a0 G k0 k1 k2 k3 k4 k5 h p e s m below meth c lwA wA1 wA2 liA iA1 iA2 lpA pA leA eA laA aA olwA owA1 owA2 oliA oiA1 oiA2 olpA opA oleA oeA olaA oaA r0 r1 r2 r3 r4 lwB wB1 wB2 liA olwB owB1 owB2 oliA T X
  · refine g_ifNo X at_221 (XT.ii_eq_f hb221) 224 rfl ?_
    refine g_iload X at_224 rfl 226 rfl ?_
    refine g_bipush X (24 : Int32) at_226 (by decide) 228 rfl ?_
    refine g_iushr X at_228 _ rfl 229 rfl ?_
    refine g_iconst X (3 : Int32) at_229 (by decide) 230 rfl ?_
    refine g_irem X at_230 (by decide) _ rfl 231 rfl ?_
    refine g_goto X at_231 236 (by decide) (by decide) ?_
    refine g_istore X at_236 (Ls' := #[.val (.int k0), .val (.int k1), .val (.int k2), .val (.int k3), .val (.int k4), .val (.int k5), .val (.int lwA), .val (.int wA1), .val (.int wA2), .val (.int liA), .val (.int iA1), .val (.int iA2), .val (.int lpA), .val (.int pA), .val (.int leA), .val (.int eA), .val (.int laA), .val (.int aA), .val (.int r0), .val (.int r1), .val (.int r2), .val (.int r3), .val (.int r4), .val (.int lwB), .val (.int wB1), .val (.int wB2), .val (.int ((XT.ushr k4 (24 : Int32)) % (3 : Int32))), .unset, .unset, .unset, .unset, .unset, .unset, .unset, .unset, .unset, .unset, .unset, .unset, .unset, .unset, .unset, .unset]) rfl 238 rfl ?_
    exact J238 l Z a0 G k0 k1 k2 k3 k4 k5 h p e s m below meth c lwA wA1 wA2 liA iA1 iA2 lpA pA leA eA laA aA olwA owA1 owA2 oliA oiA1 oiA2 olpA opA oleA oeA olaA oaA r0 r1 r2 r3 r4 lwB wB1 wB2 ((XT.ushr k4 (24 : Int32)) % (3 : Int32)) olwB owB1 owB2 (l3 _) T X
set_option maxRecDepth 65536 in
set_option maxHeartbeats 40000000 in
theorem J200 (l : Launch) (Z : State) (a0 : Array Value) (G : Gl Z a0) (k0 k1 k2 k3 k4 k5 : Int32) (h : Heap) (p : Program) (e : Env) (s : State) (m : MethodId) (below : List Frame) (meth : Method) (c : Code) (lwA : Int32) (wA1 : Int32) (wA2 : Int32) (liA : Int32) (iA1 : Int32) (iA2 : Int32) (lpA : Int32) (pA : Int32) (leA : Int32) (eA : Int32) (laA : Int32) (aA : Int32) (olwA : len012 lwA) (owA1 : okC wA1) (owA2 : okC wA2) (oliA : len012 liA) (oiA1 : okC iA1) (oiA2 : okC iA2) (olpA : len012 lpA) (opA : okC pA) (oleA : len012 leA) (oeA : okS eA) (olaA : len012 laA) (oaA : okS aA) (r0 : Int32) (r1 : Int32) (r2 : Int32) (r3 : Int32) (r4 : Int32) (lwB : Int32) (wB1 : Int32) (olwB : len012 lwB) (owB1 : okC wB1) (T : State) (X : St p l e room_1 s m #[.int k0, .int k1, .int k2, .int k3, .int k4, .int k5] below meth c "com/example/pegwright/pegwright/KeyEqualsPinLaw" code maxLocals ret "law" Z EL nw [] [] T h 0 0) :
    OwnKit.Goes p e below s Z EL nw (fun v _ => v = some (.int 1)) (room_1).cells (room_1).slots (T.setTop (mkF m 200 #[.val (.int k0), .val (.int k1), .val (.int k2), .val (.int k3), .val (.int k4), .val (.int k5), .val (.int lwA), .val (.int wA1), .val (.int wA2), .val (.int liA), .val (.int iA1), .val (.int iA2), .val (.int lpA), .val (.int pA), .val (.int leA), .val (.int eA), .val (.int laA), .val (.int aA), .val (.int r0), .val (.int r1), .val (.int r2), .val (.int r3), .val (.int r4), .val (.int lwB), .val (.int wB1), .unset, .unset, .unset, .unset, .unset, .unset, .unset, .unset, .unset, .unset, .unset, .unset, .unset, .unset, .unset, .unset, .unset, .unset] [])) := by
  obtain ⟨hw, hEL, hSA, ⟨zc, SC, hz⟩, ⟨fm, SF, hfm⟩⟩ := id G
  refine g_iload X at_200 rfl 202 rfl ?_
  by_cases hb202 : r0 = (0 : Int32)
  · refine g_ifYes X at_202 (XT.ii_eq_t hb202) 215 (by decide) (by decide) ?_
    refine g_iload X at_215 rfl 217 rfl ?_
    refine g_istore X at_217 (Ls' := #[.val (.int k0), .val (.int k1), .val (.int k2), .val (.int k3), .val (.int k4), .val (.int k5), .val (.int lwA), .val (.int wA1), .val (.int wA2), .val (.int liA), .val (.int iA1), .val (.int iA2), .val (.int lpA), .val (.int pA), .val (.int leA), .val (.int eA), .val (.int laA), .val (.int aA), .val (.int r0), .val (.int r1), .val (.int r2), .val (.int r3), .val (.int r4), .val (.int lwB), .val (.int wB1), .val (.int wA2), .unset, .unset, .unset, .unset, .unset, .unset, .unset, .unset, .unset, .unset, .unset, .unset, .unset, .unset, .unset, .unset, .unset]) rfl 219 rfl ?_
    exact J219 l Z a0 G k0 k1 k2 k3 k4 k5 h p e s m below meth c lwA wA1 wA2 liA iA1 iA2 lpA pA leA eA laA aA olwA owA1 owA2 oliA oiA1 oiA2 olpA opA oleA oeA olaA oaA r0 r1 r2 r3 r4 lwB wB1 wA2 olwB owB1 owA2 T X
  · refine g_ifNo X at_202 (XT.ii_eq_f hb202) 205 rfl ?_
    refine g_iloadN X at_205 rfl 206 rfl ?_
    refine g_bipush X (8 : Int32) at_206 (by decide) 208 rfl ?_
    refine g_iushr X at_208 _ rfl 209 rfl ?_
    refine g_callSp X (hw _ (List.mem_of_getElem? (i := 0) rfl)) (hw _ (List.mem_of_getElem? (i := 1) rfl)) (hw _ (List.mem_of_getElem? (i := 2) rfl)) (hw _ (List.mem_of_getElem? (i := 3) rfl)) (by decide) (c_ch l Z a0 G (XT.ushr k3 (8 : Int32)) h) (by simp) (argsL := [.int (XT.ushr k3 (8 : Int32))]) (rest := []) pd_0 rfl rfl rfl rfl 0 (Nat.le_of_eq rfl) (by decide) (by decide) (ck := 0) rfl (cs := 0) rfl (by decide) (by decide) at_209 212 rfl ?_
    intro w281 T279 X280 hq282
    subst hq282
    refine g_goto X280 at_212 217 (by decide) (by decide) ?_
    refine g_istore X280 at_217 (Ls' := #[.val (.int k0), .val (.int k1), .val (.int k2), .val (.int k3), .val (.int k4), .val (.int k5), .val (.int lwA), .val (.int wA1), .val (.int wA2), .val (.int liA), .val (.int iA1), .val (.int iA2), .val (.int lpA), .val (.int pA), .val (.int leA), .val (.int eA), .val (.int laA), .val (.int aA), .val (.int r0), .val (.int r1), .val (.int r2), .val (.int r3), .val (.int r4), .val (.int lwB), .val (.int wB1), .val (.int (chJ (XT.ushr k3 (8 : Int32)))), .unset, .unset, .unset, .unset, .unset, .unset, .unset, .unset, .unset, .unset, .unset, .unset, .unset, .unset, .unset, .unset, .unset]) rfl 219 rfl ?_
    exact J219 l Z a0 G k0 k1 k2 k3 k4 k5 h p e s m below meth c lwA wA1 wA2 liA iA1 iA2 lpA pA leA eA laA aA olwA owA1 owA2 oliA oiA1 oiA2 olpA opA oleA oeA olaA oaA r0 r1 r2 r3 r4 lwB wB1 (chJ (XT.ushr k3 (8 : Int32))) olwB owB1 (chJ_ok _) T279 X280
set_option maxRecDepth 65536 in
set_option maxHeartbeats 40000000 in
theorem J184 (l : Launch) (Z : State) (a0 : Array Value) (G : Gl Z a0) (k0 k1 k2 k3 k4 k5 : Int32) (h : Heap) (p : Program) (e : Env) (s : State) (m : MethodId) (below : List Frame) (meth : Method) (c : Code) (lwA : Int32) (wA1 : Int32) (wA2 : Int32) (liA : Int32) (iA1 : Int32) (iA2 : Int32) (lpA : Int32) (pA : Int32) (leA : Int32) (eA : Int32) (laA : Int32) (aA : Int32) (olwA : len012 lwA) (owA1 : okC wA1) (owA2 : okC wA2) (oliA : len012 liA) (oiA1 : okC iA1) (oiA2 : okC iA2) (olpA : len012 lpA) (opA : okC pA) (oleA : len012 leA) (oeA : okS eA) (olaA : len012 laA) (oaA : okS aA) (r0 : Int32) (r1 : Int32) (r2 : Int32) (r3 : Int32) (r4 : Int32) (lwB : Int32) (olwB : len012 lwB) (T : State) (X : St p l e room_1 s m #[.int k0, .int k1, .int k2, .int k3, .int k4, .int k5] below meth c "com/example/pegwright/pegwright/KeyEqualsPinLaw" code maxLocals ret "law" Z EL nw [] [] T h 0 0) :
    OwnKit.Goes p e below s Z EL nw (fun v _ => v = some (.int 1)) (room_1).cells (room_1).slots (T.setTop (mkF m 184 #[.val (.int k0), .val (.int k1), .val (.int k2), .val (.int k3), .val (.int k4), .val (.int k5), .val (.int lwA), .val (.int wA1), .val (.int wA2), .val (.int liA), .val (.int iA1), .val (.int iA2), .val (.int lpA), .val (.int pA), .val (.int leA), .val (.int eA), .val (.int laA), .val (.int aA), .val (.int r0), .val (.int r1), .val (.int r2), .val (.int r3), .val (.int r4), .val (.int lwB), .unset, .unset, .unset, .unset, .unset, .unset, .unset, .unset, .unset, .unset, .unset, .unset, .unset, .unset, .unset, .unset, .unset, .unset, .unset] [])) := by
  obtain ⟨hw, hEL, hSA, ⟨zc, SC, hz⟩, ⟨fm, SF, hfm⟩⟩ := id G
  refine g_iload X at_184 rfl 186 rfl ?_
  by_cases hb186 : r0 = (0 : Int32)
  · refine g_ifYes X at_186 (XT.ii_eq_t hb186) 196 (by decide) (by decide) ?_
    refine g_iload X at_196 rfl 198 rfl ?_
    refine g_istore X at_198 (Ls' := #[.val (.int k0), .val (.int k1), .val (.int k2), .val (.int k3), .val (.int k4), .val (.int k5), .val (.int lwA), .val (.int wA1), .val (.int wA2), .val (.int liA), .val (.int iA1), .val (.int iA2), .val (.int lpA), .val (.int pA), .val (.int leA), .val (.int eA), .val (.int laA), .val (.int aA), .val (.int r0), .val (.int r1), .val (.int r2), .val (.int r3), .val (.int r4), .val (.int lwB), .val (.int wA1), .unset, .unset, .unset, .unset, .unset, .unset, .unset, .unset, .unset, .unset, .unset, .unset, .unset, .unset, .unset, .unset, .unset, .unset]) rfl 200 rfl ?_
    exact J200 l Z a0 G k0 k1 k2 k3 k4 k5 h p e s m below meth c lwA wA1 wA2 liA iA1 iA2 lpA pA leA eA laA aA olwA owA1 owA2 oliA oiA1 oiA2 olpA opA oleA oeA olaA oaA r0 r1 r2 r3 r4 lwB wA1 olwB owA1 T X
  · refine g_ifNo X at_186 (XT.ii_eq_f hb186) 189 rfl ?_
    refine g_iloadN X at_189 rfl 190 rfl ?_
    refine g_callSp X (hw _ (List.mem_of_getElem? (i := 0) rfl)) (hw _ (List.mem_of_getElem? (i := 1) rfl)) (hw _ (List.mem_of_getElem? (i := 2) rfl)) (hw _ (List.mem_of_getElem? (i := 3) rfl)) (by decide) (c_ch l Z a0 G k3 h) (by simp) (argsL := [.int k3]) (rest := []) pd_0 rfl rfl rfl rfl 0 (Nat.le_of_eq rfl) (by decide) (by decide) (ck := 0) rfl (cs := 0) rfl (by decide) (by decide) at_190 193 rfl ?_
    intro w285 T283 X284 hq286
    subst hq286
    refine g_goto X284 at_193 198 (by decide) (by decide) ?_
    refine g_istore X284 at_198 (Ls' := #[.val (.int k0), .val (.int k1), .val (.int k2), .val (.int k3), .val (.int k4), .val (.int k5), .val (.int lwA), .val (.int wA1), .val (.int wA2), .val (.int liA), .val (.int iA1), .val (.int iA2), .val (.int lpA), .val (.int pA), .val (.int leA), .val (.int eA), .val (.int laA), .val (.int aA), .val (.int r0), .val (.int r1), .val (.int r2), .val (.int r3), .val (.int r4), .val (.int lwB), .val (.int (chJ k3)), .unset, .unset, .unset, .unset, .unset, .unset, .unset, .unset, .unset, .unset, .unset, .unset, .unset, .unset, .unset, .unset, .unset, .unset]) rfl 200 rfl ?_
    exact J200 l Z a0 G k0 k1 k2 k3 k4 k5 h p e s m below meth c lwA wA1 wA2 liA iA1 iA2 lpA pA leA eA laA aA olwA owA1 owA2 oliA oiA1 oiA2 olpA opA oleA oeA olaA oaA r0 r1 r2 r3 r4 lwB (chJ k3) olwB (chJ_ok _) T283 X284
set_option maxRecDepth 65536 in
set_option maxHeartbeats 40000000 in
theorem J166 (l : Launch) (Z : State) (a0 : Array Value) (G : Gl Z a0) (k0 k1 k2 k3 k4 k5 : Int32) (h : Heap) (p : Program) (e : Env) (s : State) (m : MethodId) (below : List Frame) (meth : Method) (c : Code) (lwA : Int32) (wA1 : Int32) (wA2 : Int32) (liA : Int32) (iA1 : Int32) (iA2 : Int32) (lpA : Int32) (pA : Int32) (leA : Int32) (eA : Int32) (laA : Int32) (aA : Int32) (olwA : len012 lwA) (owA1 : okC wA1) (owA2 : okC wA2) (oliA : len012 liA) (oiA1 : okC iA1) (oiA2 : okC iA2) (olpA : len012 lpA) (opA : okC pA) (oleA : len012 leA) (oeA : okS eA) (olaA : len012 laA) (oaA : okS aA) (r0 : Int32) (r1 : Int32) (r2 : Int32) (r3 : Int32) (r4 : Int32)  (T : State) (X : St p l e room_1 s m #[.int k0, .int k1, .int k2, .int k3, .int k4, .int k5] below meth c "com/example/pegwright/pegwright/KeyEqualsPinLaw" code maxLocals ret "law" Z EL nw [] [] T h 0 0) :
    OwnKit.Goes p e below s Z EL nw (fun v _ => v = some (.int 1)) (room_1).cells (room_1).slots (T.setTop (mkF m 166 #[.val (.int k0), .val (.int k1), .val (.int k2), .val (.int k3), .val (.int k4), .val (.int k5), .val (.int lwA), .val (.int wA1), .val (.int wA2), .val (.int liA), .val (.int iA1), .val (.int iA2), .val (.int lpA), .val (.int pA), .val (.int leA), .val (.int eA), .val (.int laA), .val (.int aA), .val (.int r0), .val (.int r1), .val (.int r2), .val (.int r3), .val (.int r4), .unset, .unset, .unset, .unset, .unset, .unset, .unset, .unset, .unset, .unset, .unset, .unset, .unset, .unset, .unset, .unset, .unset, .unset, .unset, .unset] [])) := by
  obtain ⟨hw, hEL, hSA, ⟨zc, SC, hz⟩, ⟨fm, SF, hfm⟩⟩ := id G
  refine g_iload X at_166 rfl 168 rfl ?_
  by_cases hb168 : r0 = (0 : Int32)
  · refine g_ifYes X at_168 (XT.ii_eq_t hb168) 180 (by decide) (by decide) ?_
    refine g_iload X at_180 rfl 182 rfl ?_
    refine g_istore X at_182 (Ls' := #[.val (.int k0), .val (.int k1), .val (.int k2), .val (.int k3), .val (.int k4), .val (.int k5), .val (.int lwA), .val (.int wA1), .val (.int wA2), .val (.int liA), .val (.int iA1), .val (.int iA2), .val (.int lpA), .val (.int pA), .val (.int leA), .val (.int eA), .val (.int laA), .val (.int aA), .val (.int r0), .val (.int r1), .val (.int r2), .val (.int r3), .val (.int r4), .val (.int lwA), .unset, .unset, .unset, .unset, .unset, .unset, .unset, .unset, .unset, .unset, .unset, .unset, .unset, .unset, .unset, .unset, .unset, .unset, .unset]) rfl 184 rfl ?_
    exact J184 l Z a0 G k0 k1 k2 k3 k4 k5 h p e s m below meth c lwA wA1 wA2 liA iA1 iA2 lpA pA leA eA laA aA olwA owA1 owA2 oliA oiA1 oiA2 olpA opA oleA oeA olaA oaA r0 r1 r2 r3 r4 lwA olwA T X
  · refine g_ifNo X at_168 (XT.ii_eq_f hb168) 171 rfl ?_
    refine g_iloadN X at_171 rfl 172 rfl ?_
    refine g_bipush X (24 : Int32) at_172 (by decide) 174 rfl ?_
    refine g_iushr X at_174 _ rfl 175 rfl ?_
    refine g_iconst X (3 : Int32) at_175 (by decide) 176 rfl ?_
    refine g_irem X at_176 (by decide) _ rfl 177 rfl ?_
    refine g_goto X at_177 182 (by decide) (by decide) ?_
    refine g_istore X at_182 (Ls' := #[.val (.int k0), .val (.int k1), .val (.int k2), .val (.int k3), .val (.int k4), .val (.int k5), .val (.int lwA), .val (.int wA1), .val (.int wA2), .val (.int liA), .val (.int iA1), .val (.int iA2), .val (.int lpA), .val (.int pA), .val (.int leA), .val (.int eA), .val (.int laA), .val (.int aA), .val (.int r0), .val (.int r1), .val (.int r2), .val (.int r3), .val (.int r4), .val (.int ((XT.ushr k3 (24 : Int32)) % (3 : Int32))), .unset, .unset, .unset, .unset, .unset, .unset, .unset, .unset, .unset, .unset, .unset, .unset, .unset, .unset, .unset, .unset, .unset, .unset, .unset]) rfl 184 rfl ?_
    exact J184 l Z a0 G k0 k1 k2 k3 k4 k5 h p e s m below meth c lwA wA1 wA2 liA iA1 iA2 lpA pA leA eA laA aA olwA owA1 owA2 oliA oiA1 oiA2 olpA opA oleA oeA olaA oaA r0 r1 r2 r3 r4 ((XT.ushr k3 (24 : Int32)) % (3 : Int32)) (l3 _) T X
set_option maxRecDepth 65536 in
set_option maxHeartbeats 40000000 in
theorem J151 (l : Launch) (Z : State) (a0 : Array Value) (G : Gl Z a0) (k0 k1 k2 k3 k4 k5 : Int32) (h : Heap) (p : Program) (e : Env) (s : State) (m : MethodId) (below : List Frame) (meth : Method) (c : Code) (lwA : Int32) (wA1 : Int32) (wA2 : Int32) (liA : Int32) (iA1 : Int32) (iA2 : Int32) (lpA : Int32) (pA : Int32) (leA : Int32) (eA : Int32) (laA : Int32) (aA : Int32) (olwA : len012 lwA) (owA1 : okC wA1) (owA2 : okC wA2) (oliA : len012 liA) (oiA1 : okC iA1) (oiA2 : okC iA2) (olpA : len012 lpA) (opA : okC pA) (oleA : len012 leA) (oeA : okS eA) (olaA : len012 laA) (oaA : okS aA) (r0 : Int32) (r1 : Int32) (r2 : Int32) (r3 : Int32) (T : State) (X : St p l e room_1 s m #[.int k0, .int k1, .int k2, .int k3, .int k4, .int k5] below meth c "com/example/pegwright/pegwright/KeyEqualsPinLaw" code maxLocals ret "law" Z EL nw [] [] T h 0 0) :
    OwnKit.Goes p e below s Z EL nw (fun v _ => v = some (.int 1)) (room_1).cells (room_1).slots (T.setTop (mkF m 151 #[.val (.int k0), .val (.int k1), .val (.int k2), .val (.int k3), .val (.int k4), .val (.int k5), .val (.int lwA), .val (.int wA1), .val (.int wA2), .val (.int liA), .val (.int iA1), .val (.int iA2), .val (.int lpA), .val (.int pA), .val (.int leA), .val (.int eA), .val (.int laA), .val (.int aA), .val (.int r0), .val (.int r1), .val (.int r2), .val (.int r3), .unset, .unset, .unset, .unset, .unset, .unset, .unset, .unset, .unset, .unset, .unset, .unset, .unset, .unset, .unset, .unset, .unset, .unset, .unset, .unset, .unset] [])) := by
  obtain ⟨hw, hEL, hSA, ⟨zc, SC, hz⟩, ⟨fm, SF, hfm⟩⟩ := id G
  refine g_iload X at_151 rfl 153 rfl ?_
  refine g_bipush X (16 : Int32) at_153 (by decide) 155 rfl ?_
  refine g_iand X at_155 _ rfl 156 rfl ?_
  by_cases hb156 : (k5 &&& (16 : Int32)) = (0 : Int32)
  · refine g_ifYes X at_156 (XT.ii_eq_t hb156) 163 (by decide) (by decide) ?_
    refine g_iconst X (0 : Int32) at_163 (by decide) 164 rfl ?_
    refine g_istore X at_164 (Ls' := #[.val (.int k0), .val (.int k1), .val (.int k2), .val (.int k3), .val (.int k4), .val (.int k5), .val (.int lwA), .val (.int wA1), .val (.int wA2), .val (.int liA), .val (.int iA1), .val (.int iA2), .val (.int lpA), .val (.int pA), .val (.int leA), .val (.int eA), .val (.int laA), .val (.int aA), .val (.int r0), .val (.int r1), .val (.int r2), .val (.int r3), .val (.int (0 : Int32)), .unset, .unset, .unset, .unset, .unset, .unset, .unset, .unset, .unset, .unset, .unset, .unset, .unset, .unset, .unset, .unset, .unset, .unset, .unset, .unset]) rfl 166 rfl ?_
    exact J166 l Z a0 G k0 k1 k2 k3 k4 k5 h p e s m below meth c lwA wA1 wA2 liA iA1 iA2 lpA pA leA eA laA aA olwA owA1 owA2 oliA oiA1 oiA2 olpA opA oleA oeA olaA oaA r0 r1 r2 r3 (0 : Int32) T X
  · refine g_ifNo X at_156 (XT.ii_eq_f hb156) 159 rfl ?_
    refine g_iconst X (1 : Int32) at_159 (by decide) 160 rfl ?_
    refine g_goto X at_160 164 (by decide) (by decide) ?_
    refine g_istore X at_164 (Ls' := #[.val (.int k0), .val (.int k1), .val (.int k2), .val (.int k3), .val (.int k4), .val (.int k5), .val (.int lwA), .val (.int wA1), .val (.int wA2), .val (.int liA), .val (.int iA1), .val (.int iA2), .val (.int lpA), .val (.int pA), .val (.int leA), .val (.int eA), .val (.int laA), .val (.int aA), .val (.int r0), .val (.int r1), .val (.int r2), .val (.int r3), .val (.int (1 : Int32)), .unset, .unset, .unset, .unset, .unset, .unset, .unset, .unset, .unset, .unset, .unset, .unset, .unset, .unset, .unset, .unset, .unset, .unset, .unset, .unset]) rfl 166 rfl ?_
    exact J166 l Z a0 G k0 k1 k2 k3 k4 k5 h p e s m below meth c lwA wA1 wA2 liA iA1 iA2 lpA pA leA eA laA aA olwA owA1 owA2 oliA oiA1 oiA2 olpA opA oleA oeA olaA oaA r0 r1 r2 r3 (1 : Int32) T X
set_option maxRecDepth 65536 in
set_option maxHeartbeats 40000000 in
theorem J136 (l : Launch) (Z : State) (a0 : Array Value) (G : Gl Z a0) (k0 k1 k2 k3 k4 k5 : Int32) (h : Heap) (p : Program) (e : Env) (s : State) (m : MethodId) (below : List Frame) (meth : Method) (c : Code) (lwA : Int32) (wA1 : Int32) (wA2 : Int32) (liA : Int32) (iA1 : Int32) (iA2 : Int32) (lpA : Int32) (pA : Int32) (leA : Int32) (eA : Int32) (laA : Int32) (aA : Int32) (olwA : len012 lwA) (owA1 : okC wA1) (owA2 : okC wA2) (oliA : len012 liA) (oiA1 : okC iA1) (oiA2 : okC iA2) (olpA : len012 lpA) (opA : okC pA) (oleA : len012 leA) (oeA : okS eA) (olaA : len012 laA) (oaA : okS aA) (r0 : Int32) (r1 : Int32) (r2 : Int32) (T : State) (X : St p l e room_1 s m #[.int k0, .int k1, .int k2, .int k3, .int k4, .int k5] below meth c "com/example/pegwright/pegwright/KeyEqualsPinLaw" code maxLocals ret "law" Z EL nw [] [] T h 0 0) :
    OwnKit.Goes p e below s Z EL nw (fun v _ => v = some (.int 1)) (room_1).cells (room_1).slots (T.setTop (mkF m 136 #[.val (.int k0), .val (.int k1), .val (.int k2), .val (.int k3), .val (.int k4), .val (.int k5), .val (.int lwA), .val (.int wA1), .val (.int wA2), .val (.int liA), .val (.int iA1), .val (.int iA2), .val (.int lpA), .val (.int pA), .val (.int leA), .val (.int eA), .val (.int laA), .val (.int aA), .val (.int r0), .val (.int r1), .val (.int r2), .unset, .unset, .unset, .unset, .unset, .unset, .unset, .unset, .unset, .unset, .unset, .unset, .unset, .unset, .unset, .unset, .unset, .unset, .unset, .unset, .unset, .unset] [])) := by
  obtain ⟨hw, hEL, hSA, ⟨zc, SC, hz⟩, ⟨fm, SF, hfm⟩⟩ := id G
  refine g_iload X at_136 rfl 138 rfl ?_
  refine g_bipush X (8 : Int32) at_138 (by decide) 140 rfl ?_
  refine g_iand X at_140 _ rfl 141 rfl ?_
  by_cases hb141 : (k5 &&& (8 : Int32)) = (0 : Int32)
  · refine g_ifYes X at_141 (XT.ii_eq_t hb141) 148 (by decide) (by decide) ?_
    refine g_iconst X (0 : Int32) at_148 (by decide) 149 rfl ?_
    refine g_istore X at_149 (Ls' := #[.val (.int k0), .val (.int k1), .val (.int k2), .val (.int k3), .val (.int k4), .val (.int k5), .val (.int lwA), .val (.int wA1), .val (.int wA2), .val (.int liA), .val (.int iA1), .val (.int iA2), .val (.int lpA), .val (.int pA), .val (.int leA), .val (.int eA), .val (.int laA), .val (.int aA), .val (.int r0), .val (.int r1), .val (.int r2), .val (.int (0 : Int32)), .unset, .unset, .unset, .unset, .unset, .unset, .unset, .unset, .unset, .unset, .unset, .unset, .unset, .unset, .unset, .unset, .unset, .unset, .unset, .unset, .unset]) rfl 151 rfl ?_
    exact J151 l Z a0 G k0 k1 k2 k3 k4 k5 h p e s m below meth c lwA wA1 wA2 liA iA1 iA2 lpA pA leA eA laA aA olwA owA1 owA2 oliA oiA1 oiA2 olpA opA oleA oeA olaA oaA r0 r1 r2 (0 : Int32) T X
  · refine g_ifNo X at_141 (XT.ii_eq_f hb141) 144 rfl ?_
    refine g_iconst X (1 : Int32) at_144 (by decide) 145 rfl ?_
    refine g_goto X at_145 149 (by decide) (by decide) ?_
    refine g_istore X at_149 (Ls' := #[.val (.int k0), .val (.int k1), .val (.int k2), .val (.int k3), .val (.int k4), .val (.int k5), .val (.int lwA), .val (.int wA1), .val (.int wA2), .val (.int liA), .val (.int iA1), .val (.int iA2), .val (.int lpA), .val (.int pA), .val (.int leA), .val (.int eA), .val (.int laA), .val (.int aA), .val (.int r0), .val (.int r1), .val (.int r2), .val (.int (1 : Int32)), .unset, .unset, .unset, .unset, .unset, .unset, .unset, .unset, .unset, .unset, .unset, .unset, .unset, .unset, .unset, .unset, .unset, .unset, .unset, .unset, .unset]) rfl 151 rfl ?_
    exact J151 l Z a0 G k0 k1 k2 k3 k4 k5 h p e s m below meth c lwA wA1 wA2 liA iA1 iA2 lpA pA leA eA laA aA olwA owA1 owA2 oliA oiA1 oiA2 olpA opA oleA oeA olaA oaA r0 r1 r2 (1 : Int32) T X
set_option maxRecDepth 65536 in
set_option maxHeartbeats 40000000 in
theorem J122 (l : Launch) (Z : State) (a0 : Array Value) (G : Gl Z a0) (k0 k1 k2 k3 k4 k5 : Int32) (h : Heap) (p : Program) (e : Env) (s : State) (m : MethodId) (below : List Frame) (meth : Method) (c : Code) (lwA : Int32) (wA1 : Int32) (wA2 : Int32) (liA : Int32) (iA1 : Int32) (iA2 : Int32) (lpA : Int32) (pA : Int32) (leA : Int32) (eA : Int32) (laA : Int32) (aA : Int32) (olwA : len012 lwA) (owA1 : okC wA1) (owA2 : okC wA2) (oliA : len012 liA) (oiA1 : okC iA1) (oiA2 : okC iA2) (olpA : len012 lpA) (opA : okC pA) (oleA : len012 leA) (oeA : okS eA) (olaA : len012 laA) (oaA : okS aA) (r0 : Int32) (r1 : Int32) (T : State) (X : St p l e room_1 s m #[.int k0, .int k1, .int k2, .int k3, .int k4, .int k5] below meth c "com/example/pegwright/pegwright/KeyEqualsPinLaw" code maxLocals ret "law" Z EL nw [] [] T h 0 0) :
    OwnKit.Goes p e below s Z EL nw (fun v _ => v = some (.int 1)) (room_1).cells (room_1).slots (T.setTop (mkF m 122 #[.val (.int k0), .val (.int k1), .val (.int k2), .val (.int k3), .val (.int k4), .val (.int k5), .val (.int lwA), .val (.int wA1), .val (.int wA2), .val (.int liA), .val (.int iA1), .val (.int iA2), .val (.int lpA), .val (.int pA), .val (.int leA), .val (.int eA), .val (.int laA), .val (.int aA), .val (.int r0), .val (.int r1), .unset, .unset, .unset, .unset, .unset, .unset, .unset, .unset, .unset, .unset, .unset, .unset, .unset, .unset, .unset, .unset, .unset, .unset, .unset, .unset, .unset, .unset, .unset] [])) := by
  obtain ⟨hw, hEL, hSA, ⟨zc, SC, hz⟩, ⟨fm, SF, hfm⟩⟩ := id G
  refine g_iload X at_122 rfl 124 rfl ?_
  refine g_iconst X (4 : Int32) at_124 (by decide) 125 rfl ?_
  refine g_iand X at_125 _ rfl 126 rfl ?_
  by_cases hb126 : (k5 &&& (4 : Int32)) = (0 : Int32)
  · refine g_ifYes X at_126 (XT.ii_eq_t hb126) 133 (by decide) (by decide) ?_
    refine g_iconst X (0 : Int32) at_133 (by decide) 134 rfl ?_
    refine g_istore X at_134 (Ls' := #[.val (.int k0), .val (.int k1), .val (.int k2), .val (.int k3), .val (.int k4), .val (.int k5), .val (.int lwA), .val (.int wA1), .val (.int wA2), .val (.int liA), .val (.int iA1), .val (.int iA2), .val (.int lpA), .val (.int pA), .val (.int leA), .val (.int eA), .val (.int laA), .val (.int aA), .val (.int r0), .val (.int r1), .val (.int (0 : Int32)), .unset, .unset, .unset, .unset, .unset, .unset, .unset, .unset, .unset, .unset, .unset, .unset, .unset, .unset, .unset, .unset, .unset, .unset, .unset, .unset, .unset, .unset]) rfl 136 rfl ?_
    exact J136 l Z a0 G k0 k1 k2 k3 k4 k5 h p e s m below meth c lwA wA1 wA2 liA iA1 iA2 lpA pA leA eA laA aA olwA owA1 owA2 oliA oiA1 oiA2 olpA opA oleA oeA olaA oaA r0 r1 (0 : Int32) T X
  · refine g_ifNo X at_126 (XT.ii_eq_f hb126) 129 rfl ?_
    refine g_iconst X (1 : Int32) at_129 (by decide) 130 rfl ?_
    refine g_goto X at_130 134 (by decide) (by decide) ?_
    refine g_istore X at_134 (Ls' := #[.val (.int k0), .val (.int k1), .val (.int k2), .val (.int k3), .val (.int k4), .val (.int k5), .val (.int lwA), .val (.int wA1), .val (.int wA2), .val (.int liA), .val (.int iA1), .val (.int iA2), .val (.int lpA), .val (.int pA), .val (.int leA), .val (.int eA), .val (.int laA), .val (.int aA), .val (.int r0), .val (.int r1), .val (.int (1 : Int32)), .unset, .unset, .unset, .unset, .unset, .unset, .unset, .unset, .unset, .unset, .unset, .unset, .unset, .unset, .unset, .unset, .unset, .unset, .unset, .unset, .unset, .unset]) rfl 136 rfl ?_
    exact J136 l Z a0 G k0 k1 k2 k3 k4 k5 h p e s m below meth c lwA wA1 wA2 liA iA1 iA2 lpA pA leA eA laA aA olwA owA1 owA2 oliA oiA1 oiA2 olpA opA oleA oeA olaA oaA r0 r1 (1 : Int32) T X
set_option maxRecDepth 65536 in
set_option maxHeartbeats 40000000 in
theorem J108 (l : Launch) (Z : State) (a0 : Array Value) (G : Gl Z a0) (k0 k1 k2 k3 k4 k5 : Int32) (h : Heap) (p : Program) (e : Env) (s : State) (m : MethodId) (below : List Frame) (meth : Method) (c : Code) (lwA : Int32) (wA1 : Int32) (wA2 : Int32) (liA : Int32) (iA1 : Int32) (iA2 : Int32) (lpA : Int32) (pA : Int32) (leA : Int32) (eA : Int32) (laA : Int32) (aA : Int32) (olwA : len012 lwA) (owA1 : okC wA1) (owA2 : okC wA2) (oliA : len012 liA) (oiA1 : okC iA1) (oiA2 : okC iA2) (olpA : len012 lpA) (opA : okC pA) (oleA : len012 leA) (oeA : okS eA) (olaA : len012 laA) (oaA : okS aA) (r0 : Int32) (T : State) (X : St p l e room_1 s m #[.int k0, .int k1, .int k2, .int k3, .int k4, .int k5] below meth c "com/example/pegwright/pegwright/KeyEqualsPinLaw" code maxLocals ret "law" Z EL nw [] [] T h 0 0) :
    OwnKit.Goes p e below s Z EL nw (fun v _ => v = some (.int 1)) (room_1).cells (room_1).slots (T.setTop (mkF m 108 #[.val (.int k0), .val (.int k1), .val (.int k2), .val (.int k3), .val (.int k4), .val (.int k5), .val (.int lwA), .val (.int wA1), .val (.int wA2), .val (.int liA), .val (.int iA1), .val (.int iA2), .val (.int lpA), .val (.int pA), .val (.int leA), .val (.int eA), .val (.int laA), .val (.int aA), .val (.int r0), .unset, .unset, .unset, .unset, .unset, .unset, .unset, .unset, .unset, .unset, .unset, .unset, .unset, .unset, .unset, .unset, .unset, .unset, .unset, .unset, .unset, .unset, .unset, .unset] [])) := by
  obtain ⟨hw, hEL, hSA, ⟨zc, SC, hz⟩, ⟨fm, SF, hfm⟩⟩ := id G
  refine g_iload X at_108 rfl 110 rfl ?_
  refine g_iconst X (2 : Int32) at_110 (by decide) 111 rfl ?_
  refine g_iand X at_111 _ rfl 112 rfl ?_
  by_cases hb112 : (k5 &&& (2 : Int32)) = (0 : Int32)
  · refine g_ifYes X at_112 (XT.ii_eq_t hb112) 119 (by decide) (by decide) ?_
    refine g_iconst X (0 : Int32) at_119 (by decide) 120 rfl ?_
    refine g_istore X at_120 (Ls' := #[.val (.int k0), .val (.int k1), .val (.int k2), .val (.int k3), .val (.int k4), .val (.int k5), .val (.int lwA), .val (.int wA1), .val (.int wA2), .val (.int liA), .val (.int iA1), .val (.int iA2), .val (.int lpA), .val (.int pA), .val (.int leA), .val (.int eA), .val (.int laA), .val (.int aA), .val (.int r0), .val (.int (0 : Int32)), .unset, .unset, .unset, .unset, .unset, .unset, .unset, .unset, .unset, .unset, .unset, .unset, .unset, .unset, .unset, .unset, .unset, .unset, .unset, .unset, .unset, .unset, .unset]) rfl 122 rfl ?_
    exact J122 l Z a0 G k0 k1 k2 k3 k4 k5 h p e s m below meth c lwA wA1 wA2 liA iA1 iA2 lpA pA leA eA laA aA olwA owA1 owA2 oliA oiA1 oiA2 olpA opA oleA oeA olaA oaA r0 (0 : Int32) T X
  · refine g_ifNo X at_112 (XT.ii_eq_f hb112) 115 rfl ?_
    refine g_iconst X (1 : Int32) at_115 (by decide) 116 rfl ?_
    refine g_goto X at_116 120 (by decide) (by decide) ?_
    refine g_istore X at_120 (Ls' := #[.val (.int k0), .val (.int k1), .val (.int k2), .val (.int k3), .val (.int k4), .val (.int k5), .val (.int lwA), .val (.int wA1), .val (.int wA2), .val (.int liA), .val (.int iA1), .val (.int iA2), .val (.int lpA), .val (.int pA), .val (.int leA), .val (.int eA), .val (.int laA), .val (.int aA), .val (.int r0), .val (.int (1 : Int32)), .unset, .unset, .unset, .unset, .unset, .unset, .unset, .unset, .unset, .unset, .unset, .unset, .unset, .unset, .unset, .unset, .unset, .unset, .unset, .unset, .unset, .unset, .unset]) rfl 122 rfl ?_
    exact J122 l Z a0 G k0 k1 k2 k3 k4 k5 h p e s m below meth c lwA wA1 wA2 liA iA1 iA2 lpA pA leA eA laA aA olwA owA1 owA2 oliA oiA1 oiA2 olpA opA oleA oeA olaA oaA r0 (1 : Int32) T X
set_option maxRecDepth 65536 in
set_option maxHeartbeats 40000000 in
theorem J94 (l : Launch) (Z : State) (a0 : Array Value) (G : Gl Z a0) (k0 k1 k2 k3 k4 k5 : Int32) (h : Heap) (p : Program) (e : Env) (s : State) (m : MethodId) (below : List Frame) (meth : Method) (c : Code) (lwA : Int32) (wA1 : Int32) (wA2 : Int32) (liA : Int32) (iA1 : Int32) (iA2 : Int32) (lpA : Int32) (pA : Int32) (leA : Int32) (eA : Int32) (laA : Int32) (aA : Int32) (olwA : len012 lwA) (owA1 : okC wA1) (owA2 : okC wA2) (oliA : len012 liA) (oiA1 : okC iA1) (oiA2 : okC iA2) (olpA : len012 lpA) (opA : okC pA) (oleA : len012 leA) (oeA : okS eA) (olaA : len012 laA) (oaA : okS aA) (T : State) (X : St p l e room_1 s m #[.int k0, .int k1, .int k2, .int k3, .int k4, .int k5] below meth c "com/example/pegwright/pegwright/KeyEqualsPinLaw" code maxLocals ret "law" Z EL nw [] [] T h 0 0) :
    OwnKit.Goes p e below s Z EL nw (fun v _ => v = some (.int 1)) (room_1).cells (room_1).slots (T.setTop (mkF m 94 #[.val (.int k0), .val (.int k1), .val (.int k2), .val (.int k3), .val (.int k4), .val (.int k5), .val (.int lwA), .val (.int wA1), .val (.int wA2), .val (.int liA), .val (.int iA1), .val (.int iA2), .val (.int lpA), .val (.int pA), .val (.int leA), .val (.int eA), .val (.int laA), .val (.int aA), .unset, .unset, .unset, .unset, .unset, .unset, .unset, .unset, .unset, .unset, .unset, .unset, .unset, .unset, .unset, .unset, .unset, .unset, .unset, .unset, .unset, .unset, .unset, .unset, .unset] [])) := by
  obtain ⟨hw, hEL, hSA, ⟨zc, SC, hz⟩, ⟨fm, SF, hfm⟩⟩ := id G
  refine g_iload X at_94 rfl 96 rfl ?_
  refine g_iconst X (1 : Int32) at_96 (by decide) 97 rfl ?_
  refine g_iand X at_97 _ rfl 98 rfl ?_
  by_cases hb98 : (k5 &&& (1 : Int32)) = (0 : Int32)
  · refine g_ifYes X at_98 (XT.ii_eq_t hb98) 105 (by decide) (by decide) ?_
    refine g_iconst X (0 : Int32) at_105 (by decide) 106 rfl ?_
    refine g_istore X at_106 (Ls' := #[.val (.int k0), .val (.int k1), .val (.int k2), .val (.int k3), .val (.int k4), .val (.int k5), .val (.int lwA), .val (.int wA1), .val (.int wA2), .val (.int liA), .val (.int iA1), .val (.int iA2), .val (.int lpA), .val (.int pA), .val (.int leA), .val (.int eA), .val (.int laA), .val (.int aA), .val (.int (0 : Int32)), .unset, .unset, .unset, .unset, .unset, .unset, .unset, .unset, .unset, .unset, .unset, .unset, .unset, .unset, .unset, .unset, .unset, .unset, .unset, .unset, .unset, .unset, .unset, .unset]) rfl 108 rfl ?_
    exact J108 l Z a0 G k0 k1 k2 k3 k4 k5 h p e s m below meth c lwA wA1 wA2 liA iA1 iA2 lpA pA leA eA laA aA olwA owA1 owA2 oliA oiA1 oiA2 olpA opA oleA oeA olaA oaA (0 : Int32) T X
  · refine g_ifNo X at_98 (XT.ii_eq_f hb98) 101 rfl ?_
    refine g_iconst X (1 : Int32) at_101 (by decide) 102 rfl ?_
    refine g_goto X at_102 106 (by decide) (by decide) ?_
    refine g_istore X at_106 (Ls' := #[.val (.int k0), .val (.int k1), .val (.int k2), .val (.int k3), .val (.int k4), .val (.int k5), .val (.int lwA), .val (.int wA1), .val (.int wA2), .val (.int liA), .val (.int iA1), .val (.int iA2), .val (.int lpA), .val (.int pA), .val (.int leA), .val (.int eA), .val (.int laA), .val (.int aA), .val (.int (1 : Int32)), .unset, .unset, .unset, .unset, .unset, .unset, .unset, .unset, .unset, .unset, .unset, .unset, .unset, .unset, .unset, .unset, .unset, .unset, .unset, .unset, .unset, .unset, .unset, .unset]) rfl 108 rfl ?_
    exact J108 l Z a0 G k0 k1 k2 k3 k4 k5 h p e s m below meth c lwA wA1 wA2 liA iA1 iA2 lpA pA leA eA laA aA olwA owA1 owA2 oliA oiA1 oiA2 olpA opA oleA oeA olaA oaA (1 : Int32) T X
set_option maxRecDepth 65536 in
set_option maxHeartbeats 40000000 in
theorem c_law (l : Launch) (Z : State) (a0 : Array Value) (G : Gl Z a0) (k0 k1 k2 k3 k4 k5 : Int32) (h : Heap)  :
    Ctr l Z EL nw x code maxLocals ret room_1 #[.int k0, .int k1, .int k2, .int k3, .int k4, .int k5] h [] (fun v _ => v = some (.int 1)) := by
  obtain ⟨hw, hEL, hSA, ⟨zc, SC, hz⟩, ⟨fm, SF, hfm⟩⟩ := id G
  refine Ctr.enter (own := "com/example/pegwright/pegwright/KeyEqualsPinLaw") (nm := "law") rfl rfl hEL (plainFor_of_name pn_8) #[.val (.int k0), .val (.int k1), .val (.int k2), .val (.int k3), .val (.int k4), .val (.int k5), .unset, .unset, .unset, .unset, .unset, .unset, .unset, .unset, .unset, .unset, .unset, .unset, .unset, .unset, .unset, .unset, .unset, .unset, .unset, .unset, .unset, .unset, .unset, .unset, .unset, .unset, .unset, .unset, .unset, .unset, .unset, .unset, .unset, .unset, .unset, .unset, .unset] (fun m => entry1 m _ _ (by simp [Value.category]) rfl) ?_
  intro p e s m below meth c T X
  refine g_iloadN X at_0 rfl 1 rfl ?_
  refine g_bipush X (24 : Int32) at_1 (by decide) 3 rfl ?_
  refine g_iushr X at_3 _ rfl 4 rfl ?_
  refine g_iconst X (3 : Int32) at_4 (by decide) 5 rfl ?_
  refine g_irem X at_5 (by decide) _ rfl 6 rfl ?_
  refine g_istore X at_6 (Ls' := #[.val (.int k0), .val (.int k1), .val (.int k2), .val (.int k3), .val (.int k4), .val (.int k5), .val (.int ((XT.ushr k0 (24 : Int32)) % (3 : Int32))), .unset, .unset, .unset, .unset, .unset, .unset, .unset, .unset, .unset, .unset, .unset, .unset, .unset, .unset, .unset, .unset, .unset, .unset, .unset, .unset, .unset, .unset, .unset, .unset, .unset, .unset, .unset, .unset, .unset, .unset, .unset, .unset, .unset, .unset, .unset, .unset]) rfl 8 rfl ?_
  refine g_iloadN X at_8 rfl 9 rfl ?_
  refine g_callSp X (hw _ (List.mem_of_getElem? (i := 0) rfl)) (hw _ (List.mem_of_getElem? (i := 1) rfl)) (hw _ (List.mem_of_getElem? (i := 2) rfl)) (hw _ (List.mem_of_getElem? (i := 3) rfl)) (by decide) (c_ch l Z a0 G k0 h) (by simp) (argsL := [.int k0]) (rest := []) pd_0 rfl rfl rfl rfl 0 (Nat.le_of_eq rfl) (by decide) (by decide) (ck := 0) rfl (cs := 0) rfl (by decide) (by decide) at_9 12 rfl ?_
  intro w289 T287 X288 hq290
  subst hq290
  refine g_istore X288 at_12 (Ls' := #[.val (.int k0), .val (.int k1), .val (.int k2), .val (.int k3), .val (.int k4), .val (.int k5), .val (.int ((XT.ushr k0 (24 : Int32)) % (3 : Int32))), .val (.int (chJ k0)), .unset, .unset, .unset, .unset, .unset, .unset, .unset, .unset, .unset, .unset, .unset, .unset, .unset, .unset, .unset, .unset, .unset, .unset, .unset, .unset, .unset, .unset, .unset, .unset, .unset, .unset, .unset, .unset, .unset, .unset, .unset, .unset, .unset, .unset, .unset]) rfl 14 rfl ?_
  refine g_iloadN X288 at_14 rfl 15 rfl ?_
  refine g_bipush X288 (8 : Int32) at_15 (by decide) 17 rfl ?_
  refine g_iushr X288 at_17 _ rfl 18 rfl ?_
  refine g_callSp X288 (hw _ (List.mem_of_getElem? (i := 0) rfl)) (hw _ (List.mem_of_getElem? (i := 1) rfl)) (hw _ (List.mem_of_getElem? (i := 2) rfl)) (hw _ (List.mem_of_getElem? (i := 3) rfl)) (by decide) (c_ch l Z a0 G (XT.ushr k0 (8 : Int32)) h) (by simp) (argsL := [.int (XT.ushr k0 (8 : Int32))]) (rest := []) pd_0 rfl rfl rfl rfl 0 (Nat.le_of_eq rfl) (by decide) (by decide) (ck := 0) rfl (cs := 0) rfl (by decide) (by decide) at_18 21 rfl ?_
  intro w293 T291 X292 hq294
  subst hq294
  refine g_istore X292 at_21 (Ls' := #[.val (.int k0), .val (.int k1), .val (.int k2), .val (.int k3), .val (.int k4), .val (.int k5), .val (.int ((XT.ushr k0 (24 : Int32)) % (3 : Int32))), .val (.int (chJ k0)), .val (.int (chJ (XT.ushr k0 (8 : Int32)))), .unset, .unset, .unset, .unset, .unset, .unset, .unset, .unset, .unset, .unset, .unset, .unset, .unset, .unset, .unset, .unset, .unset, .unset, .unset, .unset, .unset, .unset, .unset, .unset, .unset, .unset, .unset, .unset, .unset, .unset, .unset, .unset, .unset, .unset]) rfl 23 rfl ?_
  refine g_iloadN X292 at_23 rfl 24 rfl ?_
  refine g_bipush X292 (24 : Int32) at_24 (by decide) 26 rfl ?_
  refine g_iushr X292 at_26 _ rfl 27 rfl ?_
  refine g_iconst X292 (3 : Int32) at_27 (by decide) 28 rfl ?_
  refine g_irem X292 at_28 (by decide) _ rfl 29 rfl ?_
  refine g_istore X292 at_29 (Ls' := #[.val (.int k0), .val (.int k1), .val (.int k2), .val (.int k3), .val (.int k4), .val (.int k5), .val (.int ((XT.ushr k0 (24 : Int32)) % (3 : Int32))), .val (.int (chJ k0)), .val (.int (chJ (XT.ushr k0 (8 : Int32)))), .val (.int ((XT.ushr k1 (24 : Int32)) % (3 : Int32))), .unset, .unset, .unset, .unset, .unset, .unset, .unset, .unset, .unset, .unset, .unset, .unset, .unset, .unset, .unset, .unset, .unset, .unset, .unset, .unset, .unset, .unset, .unset, .unset, .unset, .unset, .unset, .unset, .unset, .unset, .unset, .unset, .unset]) rfl 31 rfl ?_
  refine g_iloadN X292 at_31 rfl 32 rfl ?_
  refine g_callSp X292 (hw _ (List.mem_of_getElem? (i := 0) rfl)) (hw _ (List.mem_of_getElem? (i := 1) rfl)) (hw _ (List.mem_of_getElem? (i := 2) rfl)) (hw _ (List.mem_of_getElem? (i := 3) rfl)) (by decide) (c_ch l Z a0 G k1 h) (by simp) (argsL := [.int k1]) (rest := []) pd_0 rfl rfl rfl rfl 0 (Nat.le_of_eq rfl) (by decide) (by decide) (ck := 0) rfl (cs := 0) rfl (by decide) (by decide) at_32 35 rfl ?_
  intro w297 T295 X296 hq298
  subst hq298
  refine g_istore X296 at_35 (Ls' := #[.val (.int k0), .val (.int k1), .val (.int k2), .val (.int k3), .val (.int k4), .val (.int k5), .val (.int ((XT.ushr k0 (24 : Int32)) % (3 : Int32))), .val (.int (chJ k0)), .val (.int (chJ (XT.ushr k0 (8 : Int32)))), .val (.int ((XT.ushr k1 (24 : Int32)) % (3 : Int32))), .val (.int (chJ k1)), .unset, .unset, .unset, .unset, .unset, .unset, .unset, .unset, .unset, .unset, .unset, .unset, .unset, .unset, .unset, .unset, .unset, .unset, .unset, .unset, .unset, .unset, .unset, .unset, .unset, .unset, .unset, .unset, .unset, .unset, .unset, .unset]) rfl 37 rfl ?_
  refine g_iloadN X296 at_37 rfl 38 rfl ?_
  refine g_bipush X296 (8 : Int32) at_38 (by decide) 40 rfl ?_
  refine g_iushr X296 at_40 _ rfl 41 rfl ?_
  refine g_callSp X296 (hw _ (List.mem_of_getElem? (i := 0) rfl)) (hw _ (List.mem_of_getElem? (i := 1) rfl)) (hw _ (List.mem_of_getElem? (i := 2) rfl)) (hw _ (List.mem_of_getElem? (i := 3) rfl)) (by decide) (c_ch l Z a0 G (XT.ushr k1 (8 : Int32)) h) (by simp) (argsL := [.int (XT.ushr k1 (8 : Int32))]) (rest := []) pd_0 rfl rfl rfl rfl 0 (Nat.le_of_eq rfl) (by decide) (by decide) (ck := 0) rfl (cs := 0) rfl (by decide) (by decide) at_41 44 rfl ?_
  intro w301 T299 X300 hq302
  subst hq302
  refine g_istore X300 at_44 (Ls' := #[.val (.int k0), .val (.int k1), .val (.int k2), .val (.int k3), .val (.int k4), .val (.int k5), .val (.int ((XT.ushr k0 (24 : Int32)) % (3 : Int32))), .val (.int (chJ k0)), .val (.int (chJ (XT.ushr k0 (8 : Int32)))), .val (.int ((XT.ushr k1 (24 : Int32)) % (3 : Int32))), .val (.int (chJ k1)), .val (.int (chJ (XT.ushr k1 (8 : Int32)))), .unset, .unset, .unset, .unset, .unset, .unset, .unset, .unset, .unset, .unset, .unset, .unset, .unset, .unset, .unset, .unset, .unset, .unset, .unset, .unset, .unset, .unset, .unset, .unset, .unset, .unset, .unset, .unset, .unset, .unset, .unset]) rfl 46 rfl ?_
  refine g_iloadN X300 at_46 rfl 47 rfl ?_
  refine g_bipush X300 (24 : Int32) at_47 (by decide) 49 rfl ?_
  refine g_iushr X300 at_49 _ rfl 50 rfl ?_
  refine g_iconst X300 (1 : Int32) at_50 (by decide) 51 rfl ?_
  refine g_iand X300 at_51 _ rfl 52 rfl ?_
  refine g_istore X300 at_52 (Ls' := #[.val (.int k0), .val (.int k1), .val (.int k2), .val (.int k3), .val (.int k4), .val (.int k5), .val (.int ((XT.ushr k0 (24 : Int32)) % (3 : Int32))), .val (.int (chJ k0)), .val (.int (chJ (XT.ushr k0 (8 : Int32)))), .val (.int ((XT.ushr k1 (24 : Int32)) % (3 : Int32))), .val (.int (chJ k1)), .val (.int (chJ (XT.ushr k1 (8 : Int32)))), .val (.int ((XT.ushr k2 (24 : Int32)) &&& (1 : Int32))), .unset, .unset, .unset, .unset, .unset, .unset, .unset, .unset, .unset, .unset, .unset, .unset, .unset, .unset, .unset, .unset, .unset, .unset, .unset, .unset, .unset, .unset, .unset, .unset, .unset, .unset, .unset, .unset, .unset, .unset]) rfl 54 rfl ?_
  refine g_iloadN X300 at_54 rfl 55 rfl ?_
  refine g_callSp X300 (hw _ (List.mem_of_getElem? (i := 0) rfl)) (hw _ (List.mem_of_getElem? (i := 1) rfl)) (hw _ (List.mem_of_getElem? (i := 2) rfl)) (hw _ (List.mem_of_getElem? (i := 3) rfl)) (by decide) (c_ch l Z a0 G k2 h) (by simp) (argsL := [.int k2]) (rest := []) pd_0 rfl rfl rfl rfl 0 (Nat.le_of_eq rfl) (by decide) (by decide) (ck := 0) rfl (cs := 0) rfl (by decide) (by decide) at_55 58 rfl ?_
  intro w305 T303 X304 hq306
  subst hq306
  refine g_istore X304 at_58 (Ls' := #[.val (.int k0), .val (.int k1), .val (.int k2), .val (.int k3), .val (.int k4), .val (.int k5), .val (.int ((XT.ushr k0 (24 : Int32)) % (3 : Int32))), .val (.int (chJ k0)), .val (.int (chJ (XT.ushr k0 (8 : Int32)))), .val (.int ((XT.ushr k1 (24 : Int32)) % (3 : Int32))), .val (.int (chJ k1)), .val (.int (chJ (XT.ushr k1 (8 : Int32)))), .val (.int ((XT.ushr k2 (24 : Int32)) &&& (1 : Int32))), .val (.int (chJ k2)), .unset, .unset, .unset, .unset, .unset, .unset, .unset, .unset, .unset, .unset, .unset, .unset, .unset, .unset, .unset, .unset, .unset, .unset, .unset, .unset, .unset, .unset, .unset, .unset, .unset, .unset, .unset, .unset, .unset]) rfl 60 rfl ?_
  refine g_iloadN X304 at_60 rfl 61 rfl ?_
  refine g_bipush X304 (25 : Int32) at_61 (by decide) 63 rfl ?_
  refine g_iushr X304 at_63 _ rfl 64 rfl ?_
  refine g_iconst X304 (1 : Int32) at_64 (by decide) 65 rfl ?_
  refine g_iand X304 at_65 _ rfl 66 rfl ?_
  refine g_istore X304 at_66 (Ls' := #[.val (.int k0), .val (.int k1), .val (.int k2), .val (.int k3), .val (.int k4), .val (.int k5), .val (.int ((XT.ushr k0 (24 : Int32)) % (3 : Int32))), .val (.int (chJ k0)), .val (.int (chJ (XT.ushr k0 (8 : Int32)))), .val (.int ((XT.ushr k1 (24 : Int32)) % (3 : Int32))), .val (.int (chJ k1)), .val (.int (chJ (XT.ushr k1 (8 : Int32)))), .val (.int ((XT.ushr k2 (24 : Int32)) &&& (1 : Int32))), .val (.int (chJ k2)), .val (.int ((XT.ushr k2 (25 : Int32)) &&& (1 : Int32))), .unset, .unset, .unset, .unset, .unset, .unset, .unset, .unset, .unset, .unset, .unset, .unset, .unset, .unset, .unset, .unset, .unset, .unset, .unset, .unset, .unset, .unset, .unset, .unset, .unset, .unset, .unset, .unset]) rfl 68 rfl ?_
  refine g_iloadN X304 at_68 rfl 69 rfl ?_
  refine g_bipush X304 (8 : Int32) at_69 (by decide) 71 rfl ?_
  refine g_iushr X304 at_71 _ rfl 72 rfl ?_
  refine g_callSp X304 (hw _ (List.mem_of_getElem? (i := 4) rfl)) (hw _ (List.mem_of_getElem? (i := 5) rfl)) (hw _ (List.mem_of_getElem? (i := 2) rfl)) (hw _ (List.mem_of_getElem? (i := 6) rfl)) (by decide) (c_pc l Z a0 G (XT.ushr k2 (8 : Int32)) h) (by simp) (argsL := [.int (XT.ushr k2 (8 : Int32))]) (rest := []) pd_0 rfl rfl rfl rfl 0 (Nat.le_of_eq rfl) (by decide) (by decide) (ck := 0) rfl (cs := 0) rfl (by decide) (by decide) at_72 75 rfl ?_
  intro w309 T307 X308 hq310
  subst hq310
  refine g_istore X308 at_75 (Ls' := #[.val (.int k0), .val (.int k1), .val (.int k2), .val (.int k3), .val (.int k4), .val (.int k5), .val (.int ((XT.ushr k0 (24 : Int32)) % (3 : Int32))), .val (.int (chJ k0)), .val (.int (chJ (XT.ushr k0 (8 : Int32)))), .val (.int ((XT.ushr k1 (24 : Int32)) % (3 : Int32))), .val (.int (chJ k1)), .val (.int (chJ (XT.ushr k1 (8 : Int32)))), .val (.int ((XT.ushr k2 (24 : Int32)) &&& (1 : Int32))), .val (.int (chJ k2)), .val (.int ((XT.ushr k2 (25 : Int32)) &&& (1 : Int32))), .val (.int (pcJ (XT.ushr k2 (8 : Int32)))), .unset, .unset, .unset, .unset, .unset, .unset, .unset, .unset, .unset, .unset, .unset, .unset, .unset, .unset, .unset, .unset, .unset, .unset, .unset, .unset, .unset, .unset, .unset, .unset, .unset, .unset, .unset]) rfl 77 rfl ?_
  refine g_iloadN X308 at_77 rfl 78 rfl ?_
  refine g_bipush X308 (26 : Int32) at_78 (by decide) 80 rfl ?_
  refine g_iushr X308 at_80 _ rfl 81 rfl ?_
  refine g_iconst X308 (1 : Int32) at_81 (by decide) 82 rfl ?_
  refine g_iand X308 at_82 _ rfl 83 rfl ?_
  refine g_istore X308 at_83 (Ls' := #[.val (.int k0), .val (.int k1), .val (.int k2), .val (.int k3), .val (.int k4), .val (.int k5), .val (.int ((XT.ushr k0 (24 : Int32)) % (3 : Int32))), .val (.int (chJ k0)), .val (.int (chJ (XT.ushr k0 (8 : Int32)))), .val (.int ((XT.ushr k1 (24 : Int32)) % (3 : Int32))), .val (.int (chJ k1)), .val (.int (chJ (XT.ushr k1 (8 : Int32)))), .val (.int ((XT.ushr k2 (24 : Int32)) &&& (1 : Int32))), .val (.int (chJ k2)), .val (.int ((XT.ushr k2 (25 : Int32)) &&& (1 : Int32))), .val (.int (pcJ (XT.ushr k2 (8 : Int32)))), .val (.int ((XT.ushr k2 (26 : Int32)) &&& (1 : Int32))), .unset, .unset, .unset, .unset, .unset, .unset, .unset, .unset, .unset, .unset, .unset, .unset, .unset, .unset, .unset, .unset, .unset, .unset, .unset, .unset, .unset, .unset, .unset, .unset, .unset, .unset]) rfl 85 rfl ?_
  refine g_iloadN X308 at_85 rfl 86 rfl ?_
  refine g_bipush X308 (16 : Int32) at_86 (by decide) 88 rfl ?_
  refine g_iushr X308 at_88 _ rfl 89 rfl ?_
  refine g_callSp X308 (hw _ (List.mem_of_getElem? (i := 4) rfl)) (hw _ (List.mem_of_getElem? (i := 5) rfl)) (hw _ (List.mem_of_getElem? (i := 2) rfl)) (hw _ (List.mem_of_getElem? (i := 6) rfl)) (by decide) (c_pc l Z a0 G (XT.ushr k2 (16 : Int32)) h) (by simp) (argsL := [.int (XT.ushr k2 (16 : Int32))]) (rest := []) pd_0 rfl rfl rfl rfl 0 (Nat.le_of_eq rfl) (by decide) (by decide) (ck := 0) rfl (cs := 0) rfl (by decide) (by decide) at_89 92 rfl ?_
  intro w313 T311 X312 hq314
  subst hq314
  refine g_istore X312 at_92 (Ls' := #[.val (.int k0), .val (.int k1), .val (.int k2), .val (.int k3), .val (.int k4), .val (.int k5), .val (.int ((XT.ushr k0 (24 : Int32)) % (3 : Int32))), .val (.int (chJ k0)), .val (.int (chJ (XT.ushr k0 (8 : Int32)))), .val (.int ((XT.ushr k1 (24 : Int32)) % (3 : Int32))), .val (.int (chJ k1)), .val (.int (chJ (XT.ushr k1 (8 : Int32)))), .val (.int ((XT.ushr k2 (24 : Int32)) &&& (1 : Int32))), .val (.int (chJ k2)), .val (.int ((XT.ushr k2 (25 : Int32)) &&& (1 : Int32))), .val (.int (pcJ (XT.ushr k2 (8 : Int32)))), .val (.int ((XT.ushr k2 (26 : Int32)) &&& (1 : Int32))), .val (.int (pcJ (XT.ushr k2 (16 : Int32)))), .unset, .unset, .unset, .unset, .unset, .unset, .unset, .unset, .unset, .unset, .unset, .unset, .unset, .unset, .unset, .unset, .unset, .unset, .unset, .unset, .unset, .unset, .unset, .unset, .unset]) rfl 94 rfl ?_
  exact J94 l Z a0 G k0 k1 k2 k3 k4 k5 h p e s m below meth c ((XT.ushr k0 (24 : Int32)) % (3 : Int32)) (chJ k0) (chJ (XT.ushr k0 (8 : Int32))) ((XT.ushr k1 (24 : Int32)) % (3 : Int32)) (chJ k1) (chJ (XT.ushr k1 (8 : Int32))) ((XT.ushr k2 (24 : Int32)) &&& (1 : Int32)) (chJ k2) ((XT.ushr k2 (25 : Int32)) &&& (1 : Int32)) (pcJ (XT.ushr k2 (8 : Int32))) ((XT.ushr k2 (26 : Int32)) &&& (1 : Int32)) (pcJ (XT.ushr k2 (16 : Int32))) (l3 _) (chJ_ok _) (chJ_ok _) (l3 _) (chJ_ok _) (chJ_ok _) (l1 _) (chJ_ok _) (l1 _) (pcJ_ok _) (l1 _) (pcJ_ok _) T311 X312
set_option maxRecDepth 65536 in
set_option maxHeartbeats 40000000 in
theorem comes_1 {Post : Tables → Env → Array Value → State → Outcome → State → Prop} (hpost : ∀ tb e args s v u, (limb_1_1.after args s (.returned v) u = true ∧ limb_1_2.after args s (.returned v) u = true) → FramedW s (.returned v) u (Jvm.fieldLocs frame_1_writes args s ++ Jvm.arrayLocs frame_1_arrays args s ++ Jvm.staticLocs frame_1_statics s) 104 13632 → Post tb e args s (.returned v) u) :
    ArmFor flags0 classFile x code maxLocals ret World_1 tables_1 room_1 Calls_1 rest_1 Pre_1 Post := by
  intro l hfl _ _ p e ha hc hk s m args below hf hA hF happ hP
  obtain ⟨hcalls, hrest, hpre⟩ := hP
  obtain ⟨-, -, -, hnamed, -, -, -, hat⟩ := (Spec.applies_iff hf).mp happ
  obtain ⟨hg, hn⟩ := and_e (Cond.before_iff.mp (show (Jvm.Cond.and given_1 narrow_1).before args s = true from hpre))
  obtain ⟨h1, hg⟩ := and_e hg
  obtain ⟨w0, w1, w2, w3, w4, w5, rfl⟩ : ∃ w0 w1 w2 w3 w4 w5 : Value, args = #[w0, w1, w2, w3, w4, w5] := by
    have hs : args.size = 6 := by simpa [Cond.value, given_1] using h1
    obtain ⟨L⟩ := args
    match L, hs with
    | [w0, w1, w2, w3, w4, w5], _ => exact ⟨w0, w1, w2, w3, w4, w5, rfl⟩
  have hw := fun d (hd : d ∈ tables_1) => atoms_spec (ws := Jvm.Cond.code x code maxLocals ret :: tables_1) hat d (List.mem_cons_of_mem _ hd)
  obtain ⟨g0, hg⟩ := and_e hg
  obtain ⟨g1, hg⟩ := and_e hg
  obtain ⟨g2, hg⟩ := and_e hg
  obtain ⟨g3, hg⟩ := and_e hg
  obtain ⟨g4, hg⟩ := and_e hg
  have g5 := hg
  obtain ⟨i0, e0⟩ := is_v g0
  obtain rfl : w0 = (.int i0) := Option.some.inj e0
  obtain ⟨i1, e1⟩ := is_v g1
  obtain rfl : w1 = (.int i1) := Option.some.inj e1
  obtain ⟨i2, e2⟩ := is_v g2
  obtain rfl : w2 = (.int i2) := Option.some.inj e2
  obtain ⟨i3, e3⟩ := is_v g3
  obtain rfl : w3 = (.int i3) := Option.some.inj e3
  obtain ⟨i4, e4⟩ := is_v g4
  obtain rfl : w4 = (.int i4) := Option.some.inj e4
  obtain ⟨i5, e5⟩ := is_v g5
  obtain rfl : w5 = (.int i5) := Option.some.inj e5
  have q0 := hn
  obtain ⟨hsets, hown0⟩ := atoms_of _ (rest_1_c_eq ▸ (show rest_1_c.before _ s = true from hrest))
  obtain ⟨zc, ezc⟩ := is_v (Cond.before_iff.mp (hsets _ (List.mem_of_getElem? (i := 1) rfl)))
  have SC : Sta s s.heap "java/lang/String" "COMPACT_STRINGS" "Z" (.int zc) := Sta.start ezc (Or.inl (hsets _ (List.mem_of_getElem? (i := 0) rfl)))
  have hz : ¬ zc = 0 := fun q => by
    have n5 := not_v (Cond.before_iff.mp (hsets _ (List.mem_of_getElem? (i := 2) rfl)))
    exact absurd q (gotF (Cond.eq_ints ezc (Term.int_eval 0)) n5)
  obtain ⟨fm, efm, hfm⟩ := isR_v (Cond.before_iff.mp (hsets _ (List.mem_of_getElem? (i := 8) rfl)))
  have SF : Sta s s.heap "jdk/internal/util/Preconditions" "SIOOBE_FORMATTER" "Ljava/util/function/BiFunction;" fm := Sta.start efm (Or.inl (hsets _ (List.mem_of_getElem? (i := 7) rfl)))
  have hSA : ∀ a ∈ Bundle.stringAtoms, a.before _ s = true := fun d hd => hw d ((by decide +kernel : ∀ d ∈ Bundle.stringAtoms, d ∈ tables_1) d hd)
  have hEW : EW s _ EL := (EW.cons (hw _ (List.mem_of_getElem? (i := 124) rfl)) (by decide) (EW.cons (hw _ (List.mem_of_getElem? (i := 130) rfl)) (by decide) (EW.cons (hw _ (List.mem_of_getElem? (i := 76) rfl)) (by decide) (EW.cons (hw _ (List.mem_of_getElem? (i := 44) rfl)) (by decide) (EW.cons (hw _ (List.mem_of_getElem? (i := 45) rfl)) (by decide) (EW.cons (hw _ (List.mem_of_getElem? (i := 69) rfl)) (by decide) (EW.cons (hw _ (List.mem_of_getElem? (i := 70) rfl)) (by decide) (EW.cons (hw _ (List.mem_of_getElem? (i := 71) rfl)) (by decide) (EW.cons (hw _ (List.mem_of_getElem? (i := 72) rfl)) (by decide) (EW.cons (hw _ (List.mem_of_getElem? (i := 118) rfl)) (by decide) (EW.cons (hw _ (List.mem_of_getElem? (i := 126) rfl)) (by decide) (EW.cons (hw _ (List.mem_of_getElem? (i := 131) rfl)) (by decide) (EW.cons (hw _ (List.mem_of_getElem? (i := 27) rfl)) (by decide) EW.nil)))))))))))))
  have G : Gl s #[.int i0, .int i1, .int i2, .int i3, .int i4, .int i5] := ⟨hw, hEW, hSA, ⟨zc, SC, hz⟩, ⟨fm, SF, hfm⟩⟩
  obtain ⟨n, o, h1, h2, h3, v, L, rfl, hQ, N, -, -, hq, hnw⟩ := c_law l s _ G i0 i1 i2 i3 i4 i5 s.heap tables_1 p e ha hc hk s m _ below hf ((Spec.applies_iff_loose hf).mp happ).1 ⟨rfl, State.Warmed39.refl s, rfl, Ext.refl _, (CHv.start hEW (fun p hp => hcalls.1 p hp) (hsets _ (List.mem_of_getElem? (i := 2) rfl)) (hw _ (List.mem_of_getElem? (i := 28) rfl)) (hw _ (List.mem_of_getElem? (i := 14) rfl))), fun _ q => nomatch q⟩ trivial
  obtain ⟨rfl⟩ : v = some (.int 1) := hQ
  exact ⟨n, _, h1, h2, h3, hpost _ _ _ _ _ _ ⟨Cond.after_iff.mpr rfl, Cond.after_iff.mpr (eq_i res_at (Term.int_eval (1)) rfl)⟩ ⟨hq.1, hq.2.1, hq.2.2.1, (hq.2.2.2.sift fun y hy => Or.inr (N y hy)).mono (by decide) (by decide)⟩⟩
theorem main_1_1 : Claimed_1_1 := comes_1 fun _ _ _ _ _ _ h hF => ⟨h.1, hF⟩
theorem main_1_2 : Claimed_1_2 := comes_1 fun _ _ _ _ _ _ h hF => ⟨h.2, hF⟩
end Jvm.Pilot.@@N@@
namespace Jvm.Pilot.@@N@@
open Jvm Jvm.ClassFile Sem Op Lib Jvm.Free Jvm.Stand Jvm.Pilot.@@N@@.Jvm.D
/-! MADE BY PROGRAM (witnessworld.py) out of the Statement's table words and the real class files: 25 classes; the members and pool entries that the words name. The judged class is class 1, her method 5. -/
namespace start1
open Jvm.ClassFile
def u (s : String) : CpInfo := .utf8 (stringToUtf16 s)
/-- a pool by its gaps: so many unusable entries, then the entry; so many at the end -/
def gap : Nat → List CpInfo → List CpInfo
  | 0, r => r
  | n + 1, r => .unusable :: gap n r
def poolList (es : List (Nat × CpInfo)) (last : Nat) : List CpInfo := es.foldr (fun e r => gap e.1 (e.2 :: r)) (gap last [])
def pool (es : List (Nat × CpInfo)) (last : Nat) : Array CpInfo := ⟨poolList es last⟩
def fileOf (pool : Array CpInfo) (this : Nat) (attrs : Array Attribute := #[]) (ms : Array MethodInfo := #[]) (fl : Nat := 33) (sup : Nat := 0) (ifs : Array Nat := #[]) (fds : Array FieldInfo := #[]) : ClassFile where
  minorVersion := 0
  majorVersion := 65
  constantPool := pool
  accessFlags := fl
  thisClass := this
  superClass := sup
  interfaces := ifs
  fields := fds
  methods := ms
  attributes := attrs
def plain (name : String) (sup : Option ClassId) : Class where
  name := name
  kind := .ordinary
  loader := none
  accessFlags := 33
  super := sup
  interfaces := #[]
  cf := none
  fields := #[]
  methods := #[]
  instanceTypes := #[]
  staticTypes := #[]
  resolved := #[]
  callSites := []
  init := .initialized
  statics := none
  mirror := none

def pool0 : Array CpInfo := pool [(5, u "<init>"), (0, u "()V"), (1, .class_ 10), (1, u "java/lang/Object")] 113

def k0c0 : Code := { maxStack := 0, maxLocals := 1, code := object_method_1_code, exceptionTable := #[], attributes := #[] }
def k0m0 : Method := { name := "<init>", desc := "()V", sig := { parameters := [], returnType := none }, accessFlags := 1, code := some k0c0 }
/-- java/lang/Object -/
def k0 : Class := { plain "java/lang/Object" none with
  accessFlags := 33
  interfaces := #[]
  cf := some (fileOf pool0 8 #[] #[{ accessFlags := 1, nameIndex := 5, descriptorIndex := 6, attributes := #[] }] 33 0 #[] #[])
  fields := #[]
  methods := #[k0m0]
  instanceTypes := #[]
  staticTypes := #[]
  resolved := Array.replicate 124 none
  statics := none }

def pool1 : Array CpInfo := pool [(2, .class_ 4), (1, u "java/lang/Object"), (0, u "<init>"), (0, u "()V"), (0, .methodref 8 9), (0, .class_ 10), (0, .nameAndType 11 12), (0, u "com/example/pegwright/pegwright/KeyEqualsPinLaw"), (0, u "ch"), (0, u "(I)C"), (0, .class_ 14), (0, u "java/lang/String"), (0, .methodref 13 16), (0, .nameAndType 5 17), (0, u "([C)V"), (0, .methodref 8 19), (0, .nameAndType 20 12), (0, u "pc"), (0, .class_ 22), (0, u "com/example/pegwright/pegwright/Peg"), (0, .methodref 8 24), (0, .nameAndType 25 26), (0, u "mk"), (0, u "(ICC)Ljava/lang/String;"), (0, .methodref 21 28), (0, .nameAndType 5 29), (0, u "(Ljava/lang/String;Ljava/lang/String;Ljava/lang/String;)V"), (0, .class_ 31), (0, u "com/example/pegwright/pegwright/PeggedStock$Key"), (0, .methodref 30 33), (0, .nameAndType 5 34), (0, u "(Ljava/lang/String;Ljava/lang/String;Lcom/example/pegwright/pegwright/Peg;)V"), (0, .methodref 8 36), (0, .nameAndType 37 38), (0, u "same"), (0, u "(ICCICC)Z"), (0, .methodref 30 40), (0, .nameAndType 41 42), (0, u "equals"), (0, u "(Ljava/lang/Object;)Z"), (3, u "law"), (0, u "(IIIIII)Z")] 6

def k1m0 : Method := { name := "<init>", desc := "()V", sig := { parameters := [], returnType := none }, accessFlags := 1, code := none }
def k1c1 : Code := { maxStack := 2, maxLocals := 2, code := method_2_code, exceptionTable := #[], attributes := #[] }
def k1m1 : Method := { name := "ch", desc := "(I)C", sig := { parameters := [.int], returnType := some .char }, accessFlags := 10, code := some k1c1 }
def k1c2 : Code := { maxStack := 2, maxLocals := 2, code := method_3_code, exceptionTable := #[], attributes := #[] }
def k1m2 : Method := { name := "pc", desc := "(I)C", sig := { parameters := [.int], returnType := some .char }, accessFlags := 10, code := some k1c2 }
def k1c3 : Code := { maxStack := 3, maxLocals := 4, code := method_4_code, exceptionTable := #[], attributes := #[] }
def k1m3 : Method := { name := "mk", desc := "(ICC)Ljava/lang/String;", sig := { parameters := [.int, .char, .char], returnType := some (.object "java/lang/String") }, accessFlags := 10, code := some k1c3 }
def k1c4 : Code := { maxStack := 2, maxLocals := 6, code := method_5_code, exceptionTable := #[], attributes := #[] }
def k1m4 : Method := { name := "same", desc := "(ICCICC)Z", sig := { parameters := [.int, .char, .char, .int, .char, .char], returnType := some .boolean }, accessFlags := 10, code := some k1c4 }
def k1c5 : Code := { maxStack := 7, maxLocals := 43, code := code, exceptionTable := #[], attributes := #[] }
def k1m5 : Method := { name := "law", desc := "(IIIIII)Z", sig := { parameters := [.int, .int, .int, .int, .int, .int], returnType := some .boolean }, accessFlags := 9, code := some k1c5 }
/-- com/example/pegwright/pegwright/KeyEqualsPinLaw -/
def k1 : Class := { plain "com/example/pegwright/pegwright/KeyEqualsPinLaw" (some 0) with
  accessFlags := 49
  interfaces := #[]
  cf := some (fileOf pool1 8 #[] #[{ accessFlags := 1, nameIndex := 5, descriptorIndex := 6, attributes := #[] }, { accessFlags := 10, nameIndex := 11, descriptorIndex := 12, attributes := #[] }, { accessFlags := 10, nameIndex := 20, descriptorIndex := 12, attributes := #[] }, { accessFlags := 10, nameIndex := 25, descriptorIndex := 26, attributes := #[] }, { accessFlags := 10, nameIndex := 37, descriptorIndex := 38, attributes := #[] }, { accessFlags := 9, nameIndex := 46, descriptorIndex := 47, attributes := #[] }] 49 2 #[] #[])
  fields := #[]
  methods := #[k1m0, k1m1, k1m2, k1m3, k1m4, k1m5]
  instanceTypes := #[]
  staticTypes := #[]
  resolved := Array.replicate 54 none
  statics := none }

def pool2 : Array CpInfo := pool [(1, .methodref 2 3), (0, .class_ 4), (0, .nameAndType 5 6), (0, u "java/lang/Object"), (0, u "<init>"), (0, u "()V"), (0, .class_ 8), (0, u "java/lang/Record")] 13

def k2c0 : Code := { maxStack := 1, maxLocals := 1, code := jdk_30_method_1_code, exceptionTable := #[], attributes := #[] }
def k2m0 : Method := { name := "<init>", desc := "()V", sig := { parameters := [], returnType := none }, accessFlags := 4, code := some k2c0 }
/-- java/lang/Record -/
def k2 : Class := { plain "java/lang/Record" (some 0) with
  accessFlags := 1057
  interfaces := #[]
  cf := some (fileOf pool2 7 #[] #[{ accessFlags := 4, nameIndex := 5, descriptorIndex := 6, attributes := #[] }] 1057 2 #[] #[])
  fields := #[]
  methods := #[k2m0]
  instanceTypes := #[]
  staticTypes := #[]
  resolved := Array.replicate 22 none
  statics := none }

def pool3 : Array CpInfo := pool [(1, .methodref 2 3), (0, .class_ 4), (0, .nameAndType 5 6), (0, u "java/lang/Record"), (0, u "<init>"), (0, u "()V"), (0, .class_ 8), (0, u "com/example/pegwright/pegwright/Peg"), (0, .string 10), (0, u "a peg's project"), (0, .string 12), (0, u "project"), (0, .methodref 14 15), (0, .class_ 16), (0, .nameAndType 17 18), (0, u "java/util/Objects"), (0, u "requireNonNull"), (0, u "(Ljava/lang/Object;Ljava/lang/String;)Ljava/lang/Object;"), (0, .class_ 20), (0, u "java/lang/String"), (0, .methodref 22 23), (0, .class_ 24), (0, .nameAndType 25 26), (0, u "com/example/pegwright/pegwright/Names"), (0, u "requireNoControlCharacter"), (0, u "(Ljava/lang/String;Ljava/lang/String;)Ljava/lang/String;"), (0, .string 28), (0, u "a peg's element"), (0, .string 30), (0, u "element"), (0, .string 32), (0, u "a peg's activity"), (0, .string 34), (0, u "activity"), (0, .methodref 22 36), (0, .nameAndType 37 26), (0, u "requireNoSlash"), (0, .fieldref 7 39), (0, .nameAndType 12 40), (0, u "Ljava/lang/String;"), (0, .fieldref 7 42), (0, .nameAndType 30 40), (0, .fieldref 7 44), (0, .nameAndType 34 40), (21, u "(Ljava/lang/String;Ljava/lang/String;Ljava/lang/String;)V"), (13, .methodref 19 81), (0, .nameAndType 82 83), (0, u "equals"), (0, u "(Ljava/lang/Object;)Z"), (17, u "UNPEGGED"), (0, u "Lcom/example/pegwright/pegwright/Peg;"), (0, u "PROJECT"), (1, u "ELEMENT"), (0, u "ACTIVITY")] 44

def k3c0 : Code := { maxStack := 3, maxLocals := 4, code := prog_18_method_1_code, exceptionTable := #[], attributes := #[] }
def k3m0 : Method := { name := "<init>", desc := "(Ljava/lang/String;Ljava/lang/String;Ljava/lang/String;)V", sig := { parameters := [(.object "java/lang/String"), (.object "java/lang/String"), (.object "java/lang/String")], returnType := none }, accessFlags := 1, code := some k3c0 }
def k3c1 : Code := { maxStack := 2, maxLocals := 3, code := prog_18_method_4_code, exceptionTable := #[], attributes := #[] }
def k3m1 : Method := { name := "equals", desc := "(Ljava/lang/Object;)Z", sig := { parameters := [(.object "java/lang/Object")], returnType := some .boolean }, accessFlags := 1, code := some k3c1 }
/-- com/example/pegwright/pegwright/Peg -/
def k3 : Class := { plain "com/example/pegwright/pegwright/Peg" (some 2) with
  accessFlags := 49
  interfaces := #[]
  cf := some (fileOf pool3 7 #[] #[{ accessFlags := 1, nameIndex := 5, descriptorIndex := 66, attributes := #[] }, { accessFlags := 1, nameIndex := 82, descriptorIndex := 83, attributes := #[] }] 49 2 #[] #[{ accessFlags := 18, nameIndex := 12, descriptorIndex := 40, attributes := #[] }, { accessFlags := 18, nameIndex := 30, descriptorIndex := 40, attributes := #[] }, { accessFlags := 18, nameIndex := 34, descriptorIndex := 40, attributes := #[] }, { accessFlags := 25, nameIndex := 101, descriptorIndex := 102, attributes := #[] }, { accessFlags := 26, nameIndex := 103, descriptorIndex := 40, attributes := #[] }, { accessFlags := 26, nameIndex := 105, descriptorIndex := 40, attributes := #[] }, { accessFlags := 26, nameIndex := 106, descriptorIndex := 40, attributes := #[] }])
  fields := #[{ name := "project", type := (.object "java/lang/String"), accessFlags := 18, slot := 0, constantValue := 0 }, { name := "element", type := (.object "java/lang/String"), accessFlags := 18, slot := 1, constantValue := 0 }, { name := "activity", type := (.object "java/lang/String"), accessFlags := 18, slot := 2, constantValue := 0 }, { name := "UNPEGGED", type := (.object "com/example/pegwright/pegwright/Peg"), accessFlags := 25, slot := 0, constantValue := 0 }, { name := "PROJECT", type := (.object "java/lang/String"), accessFlags := 26, slot := 1, constantValue := 0 }, { name := "ELEMENT", type := (.object "java/lang/String"), accessFlags := 26, slot := 2, constantValue := 0 }, { name := "ACTIVITY", type := (.object "java/lang/String"), accessFlags := 26, slot := 3, constantValue := 0 }]
  methods := #[k3m0, k3m1]
  instanceTypes := #[(.object "java/lang/String"), (.object "java/lang/String"), (.object "java/lang/String")]
  staticTypes := #[(.object "com/example/pegwright/pegwright/Peg"), (.object "java/lang/String"), (.object "java/lang/String"), (.object "java/lang/String")]
  resolved := Array.replicate 151 none
  statics := none }

def pool4 : Array CpInfo := pool [(1, .class_ 2), (0, u "java/io/Serializable"), (0, .class_ 4), (0, u "java/lang/Object")] 2

/-- java/io/Serializable -/
def k4 : Class := { plain "java/io/Serializable" (some 0) with
  accessFlags := 1537
  interfaces := #[]
  cf := some (fileOf pool4 1 #[] #[] 1537 3 #[] #[])
  fields := #[]
  methods := #[]
  instanceTypes := #[]
  staticTypes := #[]
  resolved := Array.replicate 7 none
  statics := none }

def pool5 : Array CpInfo := pool [(1, .class_ 2), (0, u "java/lang/Comparable"), (0, .class_ 4), (0, u "java/lang/Object")] 7

/-- java/lang/Comparable -/
def k5 : Class := { plain "java/lang/Comparable" (some 0) with
  accessFlags := 1537
  interfaces := #[]
  cf := some (fileOf pool5 1 #[] #[] 1537 3 #[] #[])
  fields := #[]
  methods := #[]
  instanceTypes := #[]
  staticTypes := #[]
  resolved := Array.replicate 12 none
  statics := none }

def pool6 : Array CpInfo := pool [(2, .class_ 4), (1, u "java/lang/CharSequence"), (42, .class_ 48), (0, u "java/lang/CharSequence$1CodePointIterator"), (10, .class_ 60), (0, u "java/lang/CharSequence$1CharIterator"), (5, .class_ 67), (0, u "java/lang/Object"), (10, u "toString"), (0, u "()Ljava/lang/String;")] 51

def k6m0 : Method := { name := "toString", desc := "()Ljava/lang/String;", sig := { parameters := [], returnType := some (.object "java/lang/String") }, accessFlags := 1025, code := none }
/-- java/lang/CharSequence -/
def k6 : Class := { plain "java/lang/CharSequence" (some 0) with
  accessFlags := 1537
  interfaces := #[]
  cf := some (fileOf pool6 2 #[.nestMembers #[47, 59]] #[{ accessFlags := 1025, nameIndex := 78, descriptorIndex := 79, attributes := #[] }] 1537 66 #[] #[])
  fields := #[]
  methods := #[k6m0]
  instanceTypes := #[]
  staticTypes := #[]
  resolved := Array.replicate 131 none
  statics := none }

def pool7 : Array CpInfo := pool [(1, .class_ 2), (0, u "java/lang/constant/Constable"), (0, .class_ 4), (0, u "java/lang/Object")] 6

/-- java/lang/constant/Constable -/
def k7 : Class := { plain "java/lang/constant/Constable" (some 0) with
  accessFlags := 1537
  interfaces := #[]
  cf := some (fileOf pool7 1 #[] #[] 1537 3 #[] #[])
  fields := #[]
  methods := #[]
  instanceTypes := #[]
  staticTypes := #[]
  resolved := Array.replicate 11 none
  statics := none }

def pool8 : Array CpInfo := pool [(1, .class_ 2), (0, u "java/lang/constant/ConstantDesc"), (0, .class_ 4), (0, u "java/lang/Object")] 32

/-- java/lang/constant/ConstantDesc -/
def k8 : Class := { plain "java/lang/constant/ConstantDesc" (some 0) with
  accessFlags := 1537
  interfaces := #[]
  cf := some (fileOf pool8 1 #[] #[] 1537 3 #[] #[])
  fields := #[]
  methods := #[]
  instanceTypes := #[]
  staticTypes := #[]
  resolved := Array.replicate 37 none
  statics := none }

def pool9 : Array CpInfo := pool [(1, .methodref 2 3), (0, .class_ 4), (0, .nameAndType 5 6), (0, u "java/lang/Object"), (0, u "<init>"), (0, u "()V"), (0, .string 8), (0, u ""), (0, .fieldref 10 11), (0, .class_ 12), (0, .nameAndType 13 14), (0, u "java/lang/String"), (0, u "value"), (0, u "[B"), (0, .fieldref 10 16), (0, .nameAndType 17 18), (0, u "coder"), (0, u "B"), (2, u "hash"), (0, u "I"), (2, u "hashIsZero"), (0, u "Z"), (0, .methodref 10 28), (0, .nameAndType 5 29), (0, u "([CIILjava/lang/Void;)V"), (8, .fieldref 10 39), (0, .nameAndType 40 26), (0, u "COMPACT_STRINGS"), (1, .class_ 44), (1, u "java/lang/StringUTF16"), (0, u "compress"), (1, .methodref 42 48), (0, .nameAndType 49 50), (0, u "coderFromArrayLen"), (0, u "([BI)B"), (56, .class_ 109), (1, u "java/lang/StringLatin1"), (32, u "()Z"), (34, .methodref 42 178), (0, .nameAndType 45 179), (0, u "([CII)[B"), (154, u "()I"), (0, .methodref 10 336), (0, .nameAndType 17 337), (0, u "()B"), (25, u "([BI)C"), (27, u "(II)V"), (35, u "(I)C"), (34, .nameAndType 463 464), (0, u "toString"), (0, u "()Ljava/lang/String;"), (27, .methodref 10 493), (0, .nameAndType 494 142), (0, u "isLatin1"), (0, .methodref 107 496), (0, .nameAndType 497 363), (0, u "charAt"), (3, u "checkIndex"), (5, u "length"), (33, .methodref 107 542), (0, .nameAndType 543 544), (0, u "equals"), (0, u "([B[B)Z"), (3, u "(Ljava/lang/CharSequence;)Z"), (24, u "(Ljava/lang/Object;)Z"), (1, .class_ 576), (0, u "java/lang/CharSequence"), (12, u "([B[B)I"), (9, u "CASE_INSENSITIVE_ORDER"), (0, u "Ljava/util/Comparator;"), (34, u "indexOf"), (11, .methodref 107 648), (0, .nameAndType 635 589), (61, .interfaceMethodref 575 462), (0, .methodref 10 712), (0, .nameAndType 635 713), (0, u "(Ljava/lang/String;)I"), (296, u "([C)V"), (42, .fieldref 1054 1055), (0, .class_ 1056), (0, .nameAndType 1057 1058), (0, u "jdk/internal/util/Preconditions"), (0, u "SIOOBE_FORMATTER"), (0, u "Ljava/util/function/BiFunction;"), (0, .methodref 1054 1060), (0, .nameAndType 501 1061), (0, u "(IILjava/util/function/BiFunction;)I"), (39, u "serialPersistentFields"), (0, u "[Ljava/io/ObjectStreamField;"), (0, .class_ 1104), (0, u "java/lang/String$CaseInsensitiveComparator"), (1, .class_ 1107), (0, u "java/io/Serializable"), (0, .class_ 1109), (0, u "java/lang/Comparable"), (0, .class_ 1111), (0, u "java/lang/constant/Constable"), (0, .class_ 1113), (0, u "java/lang/constant/ConstantDesc"), (2, u "serialVersionUID"), (0, u "J"), (3, u "REPL"), (0, u "C"), (2, u "LATIN1"), (1, u "UTF16"), (163, u "contains")] 159

def k9m0 : Method := { name := "<init>", desc := "()V", sig := { parameters := [], returnType := none }, accessFlags := 1, code := none }
def k9c1 : Code := { maxStack := 5, maxLocals := 2, code := jdk_42_method_3_code, exceptionTable := #[], attributes := #[] }
def k9m1 : Method := { name := "<init>", desc := "([C)V", sig := { parameters := [(.array .char)], returnType := none }, accessFlags := 1, code := some k9c1 }
def k9c2 : Code := { maxStack := 2, maxLocals := 1, code := jdk_42_method_54_code, exceptionTable := #[], attributes := #[] }
def k9m2 : Method := { name := "length", desc := "()I", sig := { parameters := [], returnType := some .int }, accessFlags := 1, code := some k9c2 }
def k9c3 : Code := { maxStack := 2, maxLocals := 2, code := jdk_42_method_56_code, exceptionTable := #[], attributes := #[] }
def k9m3 : Method := { name := "charAt", desc := "(I)C", sig := { parameters := [.int], returnType := some .char }, accessFlags := 1, code := some k9c3 }
def k9c4 : Code := { maxStack := 2, maxLocals := 3, code := jdk_42_method_66_code, exceptionTable := #[], attributes := #[] }
def k9m4 : Method := { name := "equals", desc := "(Ljava/lang/Object;)Z", sig := { parameters := [(.object "java/lang/Object")], returnType := some .boolean }, accessFlags := 1, code := some k9c4 }
def k9c5 : Code := { maxStack := 2, maxLocals := 3, code := jdk_42_method_84_code, exceptionTable := #[], attributes := #[] }
def k9m5 : Method := { name := "indexOf", desc := "(Ljava/lang/String;)I", sig := { parameters := [(.object "java/lang/String")], returnType := some .int }, accessFlags := 1, code := some k9c5 }
def k9c6 : Code := { maxStack := 2, maxLocals := 2, code := jdk_42_method_97_code, exceptionTable := #[], attributes := #[] }
def k9m6 : Method := { name := "contains", desc := "(Ljava/lang/CharSequence;)Z", sig := { parameters := [(.object "java/lang/CharSequence")], returnType := some .boolean }, accessFlags := 1, code := some k9c6 }
def k9c7 : Code := { maxStack := 1, maxLocals := 1, code := jdk_42_method_126_code, exceptionTable := #[], attributes := #[] }
def k9m7 : Method := { name := "toString", desc := "()Ljava/lang/String;", sig := { parameters := [], returnType := some (.object "java/lang/String") }, accessFlags := 1, code := some k9c7 }
def k9c8 : Code := { maxStack := 4, maxLocals := 6, code := jdk_42_method_149_code, exceptionTable := #[], attributes := #[] }
def k9m8 : Method := { name := "<init>", desc := "([CIILjava/lang/Void;)V", sig := { parameters := [(.array .char), .int, .int, (.object "java/lang/Void")], returnType := none }, accessFlags := 2, code := some k9c8 }
def k9c9 : Code := { maxStack := 1, maxLocals := 1, code := jdk_42_method_152_code, exceptionTable := #[], attributes := #[] }
def k9m9 : Method := { name := "coder", desc := "()B", sig := { parameters := [], returnType := some .byte }, accessFlags := 0, code := some k9c9 }
def k9c10 : Code := { maxStack := 1, maxLocals := 1, code := jdk_42_method_154_code, exceptionTable := #[], attributes := #[] }
def k9m10 : Method := { name := "isLatin1", desc := "()Z", sig := { parameters := [], returnType := some .boolean }, accessFlags := 0, code := some k9c10 }
def k9c11 : Code := { maxStack := 3, maxLocals := 2, code := jdk_42_method_155_code, exceptionTable := #[], attributes := #[] }
def k9m11 : Method := { name := "checkIndex", desc := "(II)V", sig := { parameters := [.int, .int], returnType := none }, accessFlags := 8, code := some k9c11 }
/-- java/lang/String -/
def k9 : Class := { plain "java/lang/String" (some 0) with
  accessFlags := 49
  interfaces := #[4, 5, 6, 7, 8]
  cf := some (fileOf pool9 10 #[.nestMembers #[1103]] #[{ accessFlags := 1, nameIndex := 5, descriptorIndex := 6, attributes := #[] }, { accessFlags := 1, nameIndex := 5, descriptorIndex := 1010, attributes := #[] }, { accessFlags := 1, nameIndex := 507, descriptorIndex := 334, attributes := #[] }, { accessFlags := 1, nameIndex := 497, descriptorIndex := 427, attributes := #[] }, { accessFlags := 1, nameIndex := 543, descriptorIndex := 573, attributes := #[] }, { accessFlags := 1, nameIndex := 635, descriptorIndex := 713, attributes := #[] }, { accessFlags := 1, nameIndex := 1291, descriptorIndex := 548, attributes := #[] }, { accessFlags := 1, nameIndex := 463, descriptorIndex := 464, attributes := #[] }, { accessFlags := 2, nameIndex := 5, descriptorIndex := 29, attributes := #[] }, { accessFlags := 0, nameIndex := 17, descriptorIndex := 337, attributes := #[] }, { accessFlags := 0, nameIndex := 494, descriptorIndex := 142, attributes := #[] }, { accessFlags := 8, nameIndex := 501, descriptorIndex := 391, attributes := #[] }] 49 2 #[1106, 1108, 575, 1110, 1112] #[{ accessFlags := 18, nameIndex := 13, descriptorIndex := 14, attributes := #[] }, { accessFlags := 18, nameIndex := 17, descriptorIndex := 18, attributes := #[] }, { accessFlags := 2, nameIndex := 21, descriptorIndex := 22, attributes := #[] }, { accessFlags := 2, nameIndex := 25, descriptorIndex := 26, attributes := #[] }, { accessFlags := 26, nameIndex := 1116, descriptorIndex := 1117, attributes := #[] }, { accessFlags := 24, nameIndex := 40, descriptorIndex := 26, attributes := #[] }, { accessFlags := 26, nameIndex := 1101, descriptorIndex := 1102, attributes := #[] }, { accessFlags := 26, nameIndex := 1121, descriptorIndex := 1122, attributes := #[] }, { accessFlags := 25, nameIndex := 599, descriptorIndex := 600, attributes := #[] }, { accessFlags := 24, nameIndex := 1125, descriptorIndex := 18, attributes := #[] }, { accessFlags := 24, nameIndex := 1127, descriptorIndex := 18, attributes := #[] }])
  fields := #[{ name := "value", type := (.array .byte), accessFlags := 18, slot := 0, constantValue := 0 }, { name := "coder", type := .byte, accessFlags := 18, slot := 1, constantValue := 0 }, { name := "hash", type := .int, accessFlags := 2, slot := 2, constantValue := 0 }, { name := "hashIsZero", type := .boolean, accessFlags := 2, slot := 3, constantValue := 0 }, { name := "serialVersionUID", type := .long, accessFlags := 26, slot := 0, constantValue := 0 }, { name := "COMPACT_STRINGS", type := .boolean, accessFlags := 24, slot := 1, constantValue := 0 }, { name := "serialPersistentFields", type := (.array (.object "java/io/ObjectStreamField")), accessFlags := 26, slot := 2, constantValue := 0 }, { name := "REPL", type := .char, accessFlags := 26, slot := 3, constantValue := 0 }, { name := "CASE_INSENSITIVE_ORDER", type := (.object "java/util/Comparator"), accessFlags := 25, slot := 4, constantValue := 0 }, { name := "LATIN1", type := .byte, accessFlags := 24, slot := 5, constantValue := 0 }, { name := "UTF16", type := .byte, accessFlags := 24, slot := 6, constantValue := 0 }]
  methods := #[k9m0, k9m1, k9m2, k9m3, k9m4, k9m5, k9m6, k9m7, k9m8, k9m9, k9m10, k9m11]
  instanceTypes := #[(.array .byte), .byte, .int, .boolean]
  staticTypes := #[.long, .boolean, (.array (.object "java/io/ObjectStreamField")), .char, (.object "java/util/Comparator"), .byte, .byte]
  resolved := Array.replicate 1451 none
  statics := some 0 }

def pool10 : Array CpInfo := pool [(2, .class_ 4), (1, u "java/lang/Object"), (0, u "<init>"), (0, u "()V"), (35, .class_ 44), (1, u "java/util/Objects"), (0, u "requireNonNull"), (48, u "(Ljava/lang/Object;Ljava/lang/String;)Ljava/lang/Object;")] 89

def k10m0 : Method := { name := "<init>", desc := "()V", sig := { parameters := [], returnType := none }, accessFlags := 2, code := none }
def k10c1 : Code := { maxStack := 3, maxLocals := 2, code := jdk_31_method_11_code, exceptionTable := #[], attributes := #[] }
def k10m1 : Method := { name := "requireNonNull", desc := "(Ljava/lang/Object;Ljava/lang/String;)Ljava/lang/Object;", sig := { parameters := [(.object "java/lang/Object"), (.object "java/lang/String")], returnType := some (.object "java/lang/Object") }, accessFlags := 9, code := some k10c1 }
/-- java/util/Objects -/
def k10 : Class := { plain "java/util/Objects" (some 0) with
  accessFlags := 49
  interfaces := #[]
  cf := some (fileOf pool10 42 #[] #[{ accessFlags := 2, nameIndex := 5, descriptorIndex := 6, attributes := #[] }, { accessFlags := 9, nameIndex := 45, descriptorIndex := 94, attributes := #[] }] 49 2 #[] #[])
  fields := #[]
  methods := #[k10m0, k10m1]
  instanceTypes := #[]
  staticTypes := #[]
  resolved := Array.replicate 184 none
  statics := none }

def pool11 : Array CpInfo := pool [(2, .class_ 4), (1, u "java/lang/Object"), (0, u "<init>"), (0, u "()V"), (0, .methodref 8 9), (0, .class_ 10), (0, .nameAndType 11 12), (0, u "java/lang/String"), (0, u "length"), (0, u "()I"), (0, .methodref 8 14), (0, .nameAndType 15 16), (0, u "charAt"), (0, u "(I)C"), (0, .methodref 18 19), (0, .class_ 20), (0, .nameAndType 21 22), (0, u "java/lang/Character"), (0, u "isISOControl"), (0, u "(C)Z"), (0, .string 24), (0, u "a warehouse's name"), (0, .methodref 26 27), (0, .class_ 28), (0, .nameAndType 29 30), (0, u "com/example/pegwright/pegwright/Names"), (0, u "requireNoControlCharacter"), (0, u "(Ljava/lang/String;Ljava/lang/String;)Ljava/lang/String;"), (0, .string 32), (0, u "an item's name"), (0, .methodref 26 34), (0, .nameAndType 35 36), (0, u "holdsControlCharacter"), (0, u "(Ljava/lang/String;)Z"), (13, .string 51), (0, u "/"), (46, .methodref 8 99), (0, .nameAndType 100 101), (0, u "contains"), (0, u "(Ljava/lang/CharSequence;)Z"), (1, u "SLASH"), (0, u "Ljava/lang/String;"), (4, u "requireWarehouse"), (0, u "(Ljava/lang/String;)Ljava/lang/String;"), (0, u "requireItem"), (4, u "requireNoSlash")] 21

def k11m0 : Method := { name := "<init>", desc := "()V", sig := { parameters := [], returnType := none }, accessFlags := 2, code := none }
def k11c1 : Code := { maxStack := 2, maxLocals := 2, code := prog_15_method_2_code, exceptionTable := #[], attributes := #[] }
def k11m1 : Method := { name := "holdsControlCharacter", desc := "(Ljava/lang/String;)Z", sig := { parameters := [(.object "java/lang/String")], returnType := some .boolean }, accessFlags := 9, code := some k11c1 }
def k11c2 : Code := { maxStack := 2, maxLocals := 1, code := prog_15_method_3_code, exceptionTable := #[], attributes := #[] }
def k11m2 : Method := { name := "requireWarehouse", desc := "(Ljava/lang/String;)Ljava/lang/String;", sig := { parameters := [(.object "java/lang/String")], returnType := some (.object "java/lang/String") }, accessFlags := 9, code := some k11c2 }
def k11c3 : Code := { maxStack := 2, maxLocals := 1, code := prog_15_method_4_code, exceptionTable := #[], attributes := #[] }
def k11m3 : Method := { name := "requireItem", desc := "(Ljava/lang/String;)Ljava/lang/String;", sig := { parameters := [(.object "java/lang/String")], returnType := some (.object "java/lang/String") }, accessFlags := 9, code := some k11c3 }
def k11c4 : Code := { maxStack := 4, maxLocals := 2, code := prog_15_method_5_code, exceptionTable := #[], attributes := #[] }
def k11m4 : Method := { name := "requireNoControlCharacter", desc := "(Ljava/lang/String;Ljava/lang/String;)Ljava/lang/String;", sig := { parameters := [(.object "java/lang/String"), (.object "java/lang/String")], returnType := some (.object "java/lang/String") }, accessFlags := 8, code := some k11c4 }
def k11c5 : Code := { maxStack := 4, maxLocals := 2, code := prog_15_method_8_code, exceptionTable := #[], attributes := #[] }
def k11m5 : Method := { name := "requireNoSlash", desc := "(Ljava/lang/String;Ljava/lang/String;)Ljava/lang/String;", sig := { parameters := [(.object "java/lang/String"), (.object "java/lang/String")], returnType := some (.object "java/lang/String") }, accessFlags := 8, code := some k11c5 }
/-- com/example/pegwright/pegwright/Names -/
def k11 : Class := { plain "com/example/pegwright/pegwright/Names" (some 0) with
  accessFlags := 49
  interfaces := #[]
  cf := some (fileOf pool11 26 #[] #[{ accessFlags := 2, nameIndex := 5, descriptorIndex := 6, attributes := #[] }, { accessFlags := 9, nameIndex := 35, descriptorIndex := 36, attributes := #[] }, { accessFlags := 9, nameIndex := 109, descriptorIndex := 110, attributes := #[] }, { accessFlags := 9, nameIndex := 111, descriptorIndex := 110, attributes := #[] }, { accessFlags := 8, nameIndex := 29, descriptorIndex := 30, attributes := #[] }, { accessFlags := 8, nameIndex := 116, descriptorIndex := 30, attributes := #[] }] 49 2 #[] #[{ accessFlags := 26, nameIndex := 103, descriptorIndex := 104, attributes := #[] }])
  fields := #[{ name := "SLASH", type := (.object "java/lang/String"), accessFlags := 26, slot := 0, constantValue := 0 }]
  methods := #[k11m0, k11m1, k11m2, k11m3, k11m4, k11m5]
  instanceTypes := #[]
  staticTypes := #[(.object "java/lang/String")]
  resolved := Array.replicate 138 none
  statics := none }

def pool12 : Array CpInfo := pool [(1, .class_ 2), (0, u "java/lang/String"), (1, .class_ 6), (1, u "java/lang/Object"), (0, u "<init>"), (0, u "()V"), (0, .methodref 1 10), (0, .nameAndType 11 12), (0, u "checkIndex"), (0, u "(II)V"), (1, .class_ 16), (1, u "java/lang/StringLatin1"), (36, u "([BI)C"), (45, .methodref 14 100), (0, .nameAndType 101 102), (0, u "indexOf"), (0, u "([BI[BII)I"), (18, u "$assertionsDisabled"), (0, u "Z"), (98, .class_ 223), (1, u "java/lang/StringLatin1$LinesSpliterator"), (28, u "charAt"), (28, u "equals"), (0, u "([B[B)Z"), (4, u "([B[B)I"), (102, .class_ 391), (0, u "java/lang/StringLatin1$CharsSpliterator")] 3

def k12m0 : Method := { name := "<init>", desc := "()V", sig := { parameters := [], returnType := none }, accessFlags := 0, code := none }
def k12c1 : Code := { maxStack := 2, maxLocals := 2, code := jdk_43_method_2_code, exceptionTable := #[], attributes := #[] }
def k12m1 : Method := { name := "charAt", desc := "([BI)C", sig := { parameters := [(.array .byte), .int], returnType := some .char }, accessFlags := 9, code := some k12c1 }
def k12c2 : Code := { maxStack := 3, maxLocals := 3, code := jdk_43_method_13_code, exceptionTable := #[], attributes := #[] }
def k12m2 : Method := { name := "equals", desc := "([B[B)Z", sig := { parameters := [(.array .byte), (.array .byte)], returnType := some .boolean }, accessFlags := 9, code := some k12c2 }
def k12c3 : Code := { maxStack := 5, maxLocals := 2, code := jdk_43_method_24_code, exceptionTable := #[], attributes := #[] }
def k12m3 : Method := { name := "indexOf", desc := "([B[B)I", sig := { parameters := [(.array .byte), (.array .byte)], returnType := some .int }, accessFlags := 9, code := some k12c3 }
def k12c4 : Code := { maxStack := 3, maxLocals := 11, code := jdk_43_method_25_code, exceptionTable := #[], attributes := #[] }
def k12m4 : Method := { name := "indexOf", desc := "([BI[BII)I", sig := { parameters := [(.array .byte), .int, (.array .byte), .int, .int], returnType := some .int }, accessFlags := 9, code := some k12c4 }
/-- java/lang/StringLatin1 -/
def k12 : Class := { plain "java/lang/StringLatin1" (some 0) with
  accessFlags := 48
  interfaces := #[]
  cf := some (fileOf pool12 14 #[.nestMembers #[390, 221]] #[{ accessFlags := 0, nameIndex := 7, descriptorIndex := 8, attributes := #[] }, { accessFlags := 9, nameIndex := 252, descriptorIndex := 53, attributes := #[] }, { accessFlags := 9, nameIndex := 281, descriptorIndex := 282, attributes := #[] }, { accessFlags := 9, nameIndex := 101, descriptorIndex := 287, attributes := #[] }, { accessFlags := 9, nameIndex := 101, descriptorIndex := 102, attributes := #[] }] 48 4 #[] #[{ accessFlags := 4120, nameIndex := 121, descriptorIndex := 122, attributes := #[] }])
  fields := #[{ name := "$assertionsDisabled", type := .boolean, accessFlags := 4120, slot := 0, constantValue := 0 }]
  methods := #[k12m0, k12m1, k12m2, k12m3, k12m4]
  instanceTypes := #[]
  staticTypes := #[.boolean]
  resolved := Array.replicate 395 none
  statics := none }

def pool13 : Array CpInfo := pool [(1, .methodref 2 3), (0, .class_ 4), (0, .nameAndType 5 6), (0, u "java/lang/Record"), (0, u "<init>"), (0, u "()V"), (0, .string 8), (0, u "warehouse"), (0, .methodref 10 11), (0, .class_ 12), (0, .nameAndType 13 14), (0, u "java/util/Objects"), (0, u "requireNonNull"), (0, u "(Ljava/lang/Object;Ljava/lang/String;)Ljava/lang/Object;"), (0, .class_ 16), (0, u "java/lang/String"), (0, .methodref 18 19), (0, .class_ 20), (0, .nameAndType 21 22), (0, u "com/example/pegwright/pegwright/Names"), (0, u "requireWarehouse"), (0, u "(Ljava/lang/String;)Ljava/lang/String;"), (0, .string 24), (0, u "item"), (0, .methodref 18 26), (0, .nameAndType 27 22), (0, u "requireItem"), (0, .string 29), (0, u "peg"), (0, .fieldref 31 32), (0, .class_ 33), (0, .nameAndType 8 34), (0, u "com/example/pegwright/pegwright/PeggedStock$Key"), (0, u "Ljava/lang/String;"), (0, .fieldref 31 36), (0, .nameAndType 24 34), (0, .fieldref 31 38), (0, .nameAndType 29 39), (0, u "Lcom/example/pegwright/pegwright/Peg;"), (0, .methodref 15 41), (0, .nameAndType 42 43), (0, u "equals"), (0, u "(Ljava/lang/Object;)Z"), (0, .methodref 45 41), (0, .class_ 46), (0, u "com/example/pegwright/pegwright/Peg"), (19, u "(Ljava/lang/String;Ljava/lang/String;Lcom/example/pegwright/pegwright/Peg;)V"), (10, .class_ 78), (0, u "com/example/pegwright/pegwright/PeggedStock")] 17

def k13c0 : Code := { maxStack := 2, maxLocals := 4, code := prog_22_method_1_code, exceptionTable := #[], attributes := #[] }
def k13m0 : Method := { name := "<init>", desc := "(Ljava/lang/String;Ljava/lang/String;Lcom/example/pegwright/pegwright/Peg;)V", sig := { parameters := [(.object "java/lang/String"), (.object "java/lang/String"), (.object "com/example/pegwright/pegwright/Peg")], returnType := none }, accessFlags := 1, code := some k13c0 }
def k13c1 : Code := { maxStack := 2, maxLocals := 3, code := prog_22_method_2_code, exceptionTable := #[], attributes := #[] }
def k13m1 : Method := { name := "equals", desc := "(Ljava/lang/Object;)Z", sig := { parameters := [(.object "java/lang/Object")], returnType := some .boolean }, accessFlags := 1, code := some k13c1 }
/-- com/example/pegwright/pegwright/PeggedStock$Key -/
def k13 : Class := { plain "com/example/pegwright/pegwright/PeggedStock$Key" (some 2) with
  accessFlags := 49
  interfaces := #[]
  cf := some (fileOf pool13 31 #[.nestHost 77] #[{ accessFlags := 1, nameIndex := 5, descriptorIndex := 66, attributes := #[] }, { accessFlags := 1, nameIndex := 42, descriptorIndex := 43, attributes := #[] }] 49 2 #[] #[{ accessFlags := 18, nameIndex := 8, descriptorIndex := 34, attributes := #[] }, { accessFlags := 18, nameIndex := 24, descriptorIndex := 34, attributes := #[] }, { accessFlags := 18, nameIndex := 29, descriptorIndex := 39, attributes := #[] }])
  fields := #[{ name := "warehouse", type := (.object "java/lang/String"), accessFlags := 18, slot := 0, constantValue := 0 }, { name := "item", type := (.object "java/lang/String"), accessFlags := 18, slot := 1, constantValue := 0 }, { name := "peg", type := (.object "com/example/pegwright/pegwright/Peg"), accessFlags := 18, slot := 2, constantValue := 0 }]
  methods := #[k13m0, k13m1]
  instanceTypes := #[(.object "java/lang/String"), (.object "java/lang/String"), (.object "com/example/pegwright/pegwright/Peg")]
  staticTypes := #[]
  resolved := Array.replicate 96 none
  statics := none }

def pool14 : Array CpInfo := pool [(6, .class_ 8), (1, u "java/lang/Object"), (0, u "<init>"), (0, u "()V"), (1, .class_ 14), (1, u "java/lang/StringUTF16"), (31, u "$assertionsDisabled"), (0, u "Z"), (13, u "HI_BYTE_SHIFT"), (0, u "I"), (2, u "LO_BYTE_SHIFT"), (49, .methodref 12 116), (0, .nameAndType 117 118), (0, u "compress"), (0, u "([CI[BII)I"), (3, u "([CII)[B"), (138, u "coderFromArrayLen"), (0, u "([BI)B"), (106, .class_ 371), (1, u "java/lang/StringUTF16$LinesSpliterator"), (58, u "MAX_LENGTH"), (196, .class_ 628), (0, u "java/lang/StringUTF16$CodePointsSpliterator"), (0, .class_ 630), (0, u "java/lang/StringUTF16$CharsSpliterator")] 4

def k14m0 : Method := { name := "<init>", desc := "()V", sig := { parameters := [], returnType := none }, accessFlags := 0, code := none }
def k14c1 : Code := { maxStack := 2, maxLocals := 2, code := jdk_52_method_15_code, exceptionTable := #[], attributes := #[] }
def k14m1 : Method := { name := "coderFromArrayLen", desc := "([BI)B", sig := { parameters := [(.array .byte), .int], returnType := some .byte }, accessFlags := 8, code := some k14c1 }
def k14c2 : Code := { maxStack := 5, maxLocals := 6, code := jdk_52_method_16_code, exceptionTable := #[], attributes := #[] }
def k14m2 : Method := { name := "compress", desc := "([CII)[B", sig := { parameters := [(.array .char), .int, .int], returnType := some (.array .byte) }, accessFlags := 9, code := some k14c2 }
def k14c3 : Code := { maxStack := 3, maxLocals := 7, code := jdk_52_method_21_code, exceptionTable := #[], attributes := #[] }
def k14m3 : Method := { name := "compress", desc := "([CI[BII)I", sig := { parameters := [(.array .char), .int, (.array .byte), .int, .int], returnType := some .int }, accessFlags := 9, code := some k14c3 }
/-- java/lang/StringUTF16 -/
def k14 : Class := { plain "java/lang/StringUTF16" (some 0) with
  accessFlags := 48
  interfaces := #[]
  cf := some (fileOf pool14 12 #[.nestMembers #[627, 629, 369]] #[{ accessFlags := 0, nameIndex := 9, descriptorIndex := 10, attributes := #[] }, { accessFlags := 8, nameIndex := 261, descriptorIndex := 262, attributes := #[] }, { accessFlags := 9, nameIndex := 117, descriptorIndex := 122, attributes := #[] }, { accessFlags := 9, nameIndex := 117, descriptorIndex := 118, attributes := #[] }] 48 6 #[] #[{ accessFlags := 26, nameIndex := 61, descriptorIndex := 62, attributes := #[] }, { accessFlags := 26, nameIndex := 65, descriptorIndex := 62, attributes := #[] }, { accessFlags := 24, nameIndex := 430, descriptorIndex := 62, attributes := #[] }, { accessFlags := 4120, nameIndex := 46, descriptorIndex := 47, attributes := #[] }])
  fields := #[{ name := "HI_BYTE_SHIFT", type := .int, accessFlags := 26, slot := 0, constantValue := 0 }, { name := "LO_BYTE_SHIFT", type := .int, accessFlags := 26, slot := 1, constantValue := 0 }, { name := "MAX_LENGTH", type := .int, accessFlags := 24, slot := 2, constantValue := 0 }, { name := "$assertionsDisabled", type := .boolean, accessFlags := 4120, slot := 3, constantValue := 0 }]
  methods := #[k14m0, k14m1, k14m2, k14m3]
  instanceTypes := #[]
  staticTypes := #[.int, .int, .int, .boolean]
  resolved := Array.replicate 635 none
  statics := none }

def pool15 : Array CpInfo := pool [(2, .class_ 4), (1, u "java/lang/Object"), (0, u "<init>"), (0, u "()V"), (17, .class_ 26), (1, u "jdk/internal/util/Preconditions"), (6, u "checkIndex"), (21, .class_ 56), (0, u "jdk/internal/util/Preconditions$4"), (57, .class_ 115), (0, u "jdk/internal/util/Preconditions$1"), (7, u "SIOOBE_FORMATTER"), (0, u "Ljava/util/function/BiFunction;"), (0, .class_ 126), (0, u "jdk/internal/util/Preconditions$2"), (3, u "AIOOBE_FORMATTER"), (0, .class_ 132), (0, u "jdk/internal/util/Preconditions$3"), (3, u "IOOBE_FORMATTER"), (41, u "(IILjava/util/function/BiFunction;)I")] 15

def k15m0 : Method := { name := "<init>", desc := "()V", sig := { parameters := [], returnType := none }, accessFlags := 1, code := none }
def k15c1 : Code := { maxStack := 3, maxLocals := 3, code := jdk_41_method_11_code, exceptionTable := #[], attributes := #[] }
def k15m1 : Method := { name := "checkIndex", desc := "(IILjava/util/function/BiFunction;)I", sig := { parameters := [.int, .int, (.object "java/util/function/BiFunction")], returnType := some .int }, accessFlags := 9, code := some k15c1 }
/-- jdk/internal/util/Preconditions -/
def k15 : Class := { plain "jdk/internal/util/Preconditions" (some 0) with
  accessFlags := 33
  interfaces := #[]
  cf := some (fileOf pool15 24 #[.nestMembers #[55, 131, 125, 114]] #[{ accessFlags := 1, nameIndex := 5, descriptorIndex := 6, attributes := #[] }, { accessFlags := 9, nameIndex := 33, descriptorIndex := 178, attributes := #[] }] 33 2 #[] #[{ accessFlags := 25, nameIndex := 123, descriptorIndex := 124, attributes := #[] }, { accessFlags := 25, nameIndex := 130, descriptorIndex := 124, attributes := #[] }, { accessFlags := 25, nameIndex := 136, descriptorIndex := 124, attributes := #[] }])
  fields := #[{ name := "SIOOBE_FORMATTER", type := (.object "java/util/function/BiFunction"), accessFlags := 25, slot := 0, constantValue := 0 }, { name := "AIOOBE_FORMATTER", type := (.object "java/util/function/BiFunction"), accessFlags := 25, slot := 1, constantValue := 0 }, { name := "IOOBE_FORMATTER", type := (.object "java/util/function/BiFunction"), accessFlags := 25, slot := 2, constantValue := 0 }]
  methods := #[k15m0, k15m1]
  instanceTypes := #[]
  staticTypes := #[(.object "java/util/function/BiFunction"), (.object "java/util/function/BiFunction"), (.object "java/util/function/BiFunction")]
  resolved := Array.replicate 194 none
  statics := some 1 }

def pool16 : Array CpInfo := pool [(1, .class_ 2), (0, u "java/lang/Character"), (18, u "value"), (0, u "C"), (19, .class_ 44), (1, u "java/lang/Object"), (3, .class_ 50), (1, u "java/lang/Character$CharacterCache"), (30, u "(C)Z"), (32, u "(I)Z"), (151, .methodref 1 267), (0, .nameAndType 268 114), (0, u "isISOControl"), (15, u "$assertionsDisabled"), (0, u "Z"), (21, .class_ 309), (1, u "java/lang/Character$UnicodeBlock"), (73, u "TYPE"), (0, u "Ljava/lang/Class;"), (0, .class_ 386), (0, u "java/io/Serializable"), (0, .class_ 388), (0, u "java/lang/Comparable"), (0, .class_ 390), (0, u "java/lang/constant/Constable"), (0, u "MIN_RADIX"), (0, u "I"), (2, u "MAX_RADIX"), (1, u "MIN_VALUE"), (1, u "MAX_VALUE"), (3, u "UNASSIGNED"), (0, u "B"), (0, u "UPPERCASE_LETTER"), (1, u "LOWERCASE_LETTER"), (0, u "TITLECASE_LETTER"), (1, u "MODIFIER_LETTER"), (1, u "OTHER_LETTER"), (1, u "NON_SPACING_MARK"), (1, u "ENCLOSING_MARK"), (1, u "COMBINING_SPACING_MARK"), (1, u "DECIMAL_DIGIT_NUMBER"), (1, u "LETTER_NUMBER"), (1, u "OTHER_NUMBER"), (1, u "SPACE_SEPARATOR"), (1, u "LINE_SEPARATOR"), (1, u "PARAGRAPH_SEPARATOR"), (1, u "CONTROL"), (1, u "FORMAT"), (1, u "PRIVATE_USE"), (1, u "SURROGATE"), (1, u "DASH_PUNCTUATION"), (1, u "START_PUNCTUATION"), (1, u "END_PUNCTUATION"), (1, u "CONNECTOR_PUNCTUATION"), (1, u "OTHER_PUNCTUATION"), (1, u "MATH_SYMBOL"), (1, u "CURRENCY_SYMBOL"), (1, u "MODIFIER_SYMBOL"), (1, u "OTHER_SYMBOL"), (1, u "INITIAL_QUOTE_PUNCTUATION"), (1, u "FINAL_QUOTE_PUNCTUATION"), (1, u "ERROR"), (1, u "DIRECTIONALITY_UNDEFINED"), (0, u "DIRECTIONALITY_LEFT_TO_RIGHT"), (0, u "DIRECTIONALITY_RIGHT_TO_LEFT"), (0, u "DIRECTIONALITY_RIGHT_TO_LEFT_ARABIC"), (0, u "DIRECTIONALITY_EUROPEAN_NUMBER"), (0, u "DIRECTIONALITY_EUROPEAN_NUMBER_SEPARATOR"), (0, u "DIRECTIONALITY_EUROPEAN_NUMBER_TERMINATOR"), (0, u "DIRECTIONALITY_ARABIC_NUMBER"), (0, u "DIRECTIONALITY_COMMON_NUMBER_SEPARATOR"), (0, u "DIRECTIONALITY_NONSPACING_MARK"), (0, u "DIRECTIONALITY_BOUNDARY_NEUTRAL"), (0, u "DIRECTIONALITY_PARAGRAPH_SEPARATOR"), (0, u "DIRECTIONALITY_SEGMENT_SEPARATOR"), (0, u "DIRECTIONALITY_WHITESPACE"), (0, u "DIRECTIONALITY_OTHER_NEUTRALS"), (0, u "DIRECTIONALITY_LEFT_TO_RIGHT_EMBEDDING"), (0, u "DIRECTIONALITY_LEFT_TO_RIGHT_OVERRIDE"), (0, u "DIRECTIONALITY_RIGHT_TO_LEFT_EMBEDDING"), (0, u "DIRECTIONALITY_RIGHT_TO_LEFT_OVERRIDE"), (1, u "DIRECTIONALITY_POP_DIRECTIONAL_FORMAT"), (0, u "DIRECTIONALITY_LEFT_TO_RIGHT_ISOLATE"), (0, u "DIRECTIONALITY_RIGHT_TO_LEFT_ISOLATE"), (0, u "DIRECTIONALITY_FIRST_STRONG_ISOLATE"), (0, u "DIRECTIONALITY_POP_DIRECTIONAL_ISOLATE"), (0, u "MIN_HIGH_SURROGATE"), (0, u "MAX_HIGH_SURROGATE"), (1, u "MIN_LOW_SURROGATE"), (0, u "MAX_LOW_SURROGATE"), (1, u "MIN_SURROGATE"), (0, u "MAX_SURROGATE"), (0, u "MIN_SUPPLEMENTARY_CODE_POINT"), (0, u "MIN_CODE_POINT"), (0, u "MAX_CODE_POINT"), (1, u "serialVersionUID"), (0, u "J"), (2, u "SIZE"), (0, u "BYTES"), (88, .class_ 596), (0, u "java/lang/Character$UnicodeScript"), (0, .class_ 598), (0, u "java/lang/Character$Subset")] 5

def k16c0 : Code := { maxStack := 1, maxLocals := 1, code := jdk_89_method_88_code, exceptionTable := #[], attributes := #[] }
def k16m0 : Method := { name := "isISOControl", desc := "(C)Z", sig := { parameters := [.char], returnType := some .boolean }, accessFlags := 9, code := some k16c0 }
def k16c1 : Code := { maxStack := 2, maxLocals := 1, code := jdk_89_method_89_code, exceptionTable := #[], attributes := #[] }
def k16m1 : Method := { name := "isISOControl", desc := "(I)Z", sig := { parameters := [.int], returnType := some .boolean }, accessFlags := 9, code := some k16c1 }
/-- java/lang/Character -/
def k16 : Class := { plain "java/lang/Character" (some 0) with
  accessFlags := 49
  interfaces := #[4, 5, 7]
  cf := some (fileOf pool16 1 #[.nestMembers #[48, 595, 307, 597]] #[{ accessFlags := 9, nameIndex := 268, descriptorIndex := 81, attributes := #[] }, { accessFlags := 9, nameIndex := 268, descriptorIndex := 114, attributes := #[] }] 49 42 #[385, 387, 389] #[{ accessFlags := 25, nameIndex := 391, descriptorIndex := 392, attributes := #[] }, { accessFlags := 25, nameIndex := 395, descriptorIndex := 392, attributes := #[] }, { accessFlags := 25, nameIndex := 397, descriptorIndex := 22, attributes := #[] }, { accessFlags := 25, nameIndex := 399, descriptorIndex := 22, attributes := #[] }, { accessFlags := 25, nameIndex := 383, descriptorIndex := 384, attributes := #[] }, { accessFlags := 25, nameIndex := 403, descriptorIndex := 404, attributes := #[] }, { accessFlags := 25, nameIndex := 405, descriptorIndex := 404, attributes := #[] }, { accessFlags := 25, nameIndex := 407, descriptorIndex := 404, attributes := #[] }, { accessFlags := 25, nameIndex := 408, descriptorIndex := 404, attributes := #[] }, { accessFlags := 25, nameIndex := 410, descriptorIndex := 404, attributes := #[] }, { accessFlags := 25, nameIndex := 412, descriptorIndex := 404, attributes := #[] }, { accessFlags := 25, nameIndex := 414, descriptorIndex := 404, attributes := #[] }, { accessFlags := 25, nameIndex := 416, descriptorIndex := 404, attributes := #[] }, { accessFlags := 25, nameIndex := 418, descriptorIndex := 404, attributes := #[] }, { accessFlags := 25, nameIndex := 420, descriptorIndex := 404, attributes := #[] }, { accessFlags := 25, nameIndex := 422, descriptorIndex := 404, attributes := #[] }, { accessFlags := 25, nameIndex := 424, descriptorIndex := 404, attributes := #[] }, { accessFlags := 25, nameIndex := 426, descriptorIndex := 404, attributes := #[] }, { accessFlags := 25, nameIndex := 428, descriptorIndex := 404, attributes := #[] }, { accessFlags := 25, nameIndex := 430, descriptorIndex := 404, attributes := #[] }, { accessFlags := 25, nameIndex := 432, descriptorIndex := 404, attributes := #[] }, { accessFlags := 25, nameIndex := 434, descriptorIndex := 404, attributes := #[] }, { accessFlags := 25, nameIndex := 436, descriptorIndex := 404, attributes := #[] }, { accessFlags := 25, nameIndex := 438, descriptorIndex := 404, attributes := #[] }, { accessFlags := 25, nameIndex := 440, descriptorIndex := 404, attributes := #[] }, { accessFlags := 25, nameIndex := 442, descriptorIndex := 404, attributes := #[] }, { accessFlags := 25, nameIndex := 444, descriptorIndex := 404, attributes := #[] }, { accessFlags := 25, nameIndex := 446, descriptorIndex := 404, attributes := #[] }, { accessFlags := 25, nameIndex := 448, descriptorIndex := 404, attributes := #[] }, { accessFlags := 25, nameIndex := 450, descriptorIndex := 404, attributes := #[] }, { accessFlags := 25, nameIndex := 452, descriptorIndex := 404, attributes := #[] }, { accessFlags := 25, nameIndex := 454, descriptorIndex := 404, attributes := #[] }, { accessFlags := 25, nameIndex := 456, descriptorIndex := 404, attributes := #[] }, { accessFlags := 25, nameIndex := 458, descriptorIndex := 404, attributes := #[] }, { accessFlags := 25, nameIndex := 460, descriptorIndex := 404, attributes := #[] }, { accessFlags := 24, nameIndex := 462, descriptorIndex := 392, attributes := #[] }, { accessFlags := 25, nameIndex := 464, descriptorIndex := 404, attributes := #[] }, { accessFlags := 25, nameIndex := 465, descriptorIndex := 404, attributes := #[] }, { accessFlags := 25, nameIndex := 466, descriptorIndex := 404, attributes := #[] }, { accessFlags := 25, nameIndex := 467, descriptorIndex := 404, attributes := #[] }, { accessFlags := 25, nameIndex := 468, descriptorIndex := 404, attributes := #[] }, { accessFlags := 25, nameIndex := 469, descriptorIndex := 404, attributes := #[] }, { accessFlags := 25, nameIndex := 470, descriptorIndex := 404, attributes := #[] }, { accessFlags := 25, nameIndex := 471, descriptorIndex := 404, attributes := #[] }, { accessFlags := 25, nameIndex := 472, descriptorIndex := 404, attributes := #[] }, { accessFlags := 25, nameIndex := 473, descriptorIndex := 404, attributes := #[] }, { accessFlags := 25, nameIndex := 474, descriptorIndex := 404, attributes := #[] }, { accessFlags := 25, nameIndex := 475, descriptorIndex := 404, attributes := #[] }, { accessFlags := 25, nameIndex := 476, descriptorIndex := 404, attributes := #[] }, { accessFlags := 25, nameIndex := 477, descriptorIndex := 404, attributes := #[] }, { accessFlags := 25, nameIndex := 478, descriptorIndex := 404, attributes := #[] }, { accessFlags := 25, nameIndex := 479, descriptorIndex := 404, attributes := #[] }, { accessFlags := 25, nameIndex := 480, descriptorIndex := 404, attributes := #[] }, { accessFlags := 25, nameIndex := 481, descriptorIndex := 404, attributes := #[] }, { accessFlags := 25, nameIndex := 482, descriptorIndex := 404, attributes := #[] }, { accessFlags := 25, nameIndex := 484, descriptorIndex := 404, attributes := #[] }, { accessFlags := 25, nameIndex := 485, descriptorIndex := 404, attributes := #[] }, { accessFlags := 25, nameIndex := 486, descriptorIndex := 404, attributes := #[] }, { accessFlags := 25, nameIndex := 487, descriptorIndex := 404, attributes := #[] }, { accessFlags := 25, nameIndex := 488, descriptorIndex := 404, attributes := #[] }, { accessFlags := 25, nameIndex := 489, descriptorIndex := 22, attributes := #[] }, { accessFlags := 25, nameIndex := 490, descriptorIndex := 22, attributes := #[] }, { accessFlags := 25, nameIndex := 492, descriptorIndex := 22, attributes := #[] }, { accessFlags := 25, nameIndex := 493, descriptorIndex := 22, attributes := #[] }, { accessFlags := 25, nameIndex := 495, descriptorIndex := 22, attributes := #[] }, { accessFlags := 25, nameIndex := 496, descriptorIndex := 22, attributes := #[] }, { accessFlags := 25, nameIndex := 497, descriptorIndex := 392, attributes := #[] }, { accessFlags := 25, nameIndex := 498, descriptorIndex := 392, attributes := #[] }, { accessFlags := 25, nameIndex := 499, descriptorIndex := 392, attributes := #[] }, { accessFlags := 18, nameIndex := 21, descriptorIndex := 22, attributes := #[] }, { accessFlags := 26, nameIndex := 501, descriptorIndex := 502, attributes := #[] }, { accessFlags := 25, nameIndex := 505, descriptorIndex := 392, attributes := #[] }, { accessFlags := 25, nameIndex := 506, descriptorIndex := 392, attributes := #[] }, { accessFlags := 4120, nameIndex := 284, descriptorIndex := 285, attributes := #[] }])
  fields := #[{ name := "MIN_RADIX", type := .int, accessFlags := 25, slot := 0, constantValue := 0 }, { name := "MAX_RADIX", type := .int, accessFlags := 25, slot := 1, constantValue := 0 }, { name := "MIN_VALUE", type := .char, accessFlags := 25, slot := 2, constantValue := 0 }, { name := "MAX_VALUE", type := .char, accessFlags := 25, slot := 3, constantValue := 0 }, { name := "TYPE", type := (.object "java/lang/Class"), accessFlags := 25, slot := 4, constantValue := 0 }, { name := "UNASSIGNED", type := .byte, accessFlags := 25, slot := 5, constantValue := 0 }, { name := "UPPERCASE_LETTER", type := .byte, accessFlags := 25, slot := 6, constantValue := 0 }, { name := "LOWERCASE_LETTER", type := .byte, accessFlags := 25, slot := 7, constantValue := 0 }, { name := "TITLECASE_LETTER", type := .byte, accessFlags := 25, slot := 8, constantValue := 0 }, { name := "MODIFIER_LETTER", type := .byte, accessFlags := 25, slot := 9, constantValue := 0 }, { name := "OTHER_LETTER", type := .byte, accessFlags := 25, slot := 10, constantValue := 0 }, { name := "NON_SPACING_MARK", type := .byte, accessFlags := 25, slot := 11, constantValue := 0 }, { name := "ENCLOSING_MARK", type := .byte, accessFlags := 25, slot := 12, constantValue := 0 }, { name := "COMBINING_SPACING_MARK", type := .byte, accessFlags := 25, slot := 13, constantValue := 0 }, { name := "DECIMAL_DIGIT_NUMBER", type := .byte, accessFlags := 25, slot := 14, constantValue := 0 }, { name := "LETTER_NUMBER", type := .byte, accessFlags := 25, slot := 15, constantValue := 0 }, { name := "OTHER_NUMBER", type := .byte, accessFlags := 25, slot := 16, constantValue := 0 }, { name := "SPACE_SEPARATOR", type := .byte, accessFlags := 25, slot := 17, constantValue := 0 }, { name := "LINE_SEPARATOR", type := .byte, accessFlags := 25, slot := 18, constantValue := 0 }, { name := "PARAGRAPH_SEPARATOR", type := .byte, accessFlags := 25, slot := 19, constantValue := 0 }, { name := "CONTROL", type := .byte, accessFlags := 25, slot := 20, constantValue := 0 }, { name := "FORMAT", type := .byte, accessFlags := 25, slot := 21, constantValue := 0 }, { name := "PRIVATE_USE", type := .byte, accessFlags := 25, slot := 22, constantValue := 0 }, { name := "SURROGATE", type := .byte, accessFlags := 25, slot := 23, constantValue := 0 }, { name := "DASH_PUNCTUATION", type := .byte, accessFlags := 25, slot := 24, constantValue := 0 }, { name := "START_PUNCTUATION", type := .byte, accessFlags := 25, slot := 25, constantValue := 0 }, { name := "END_PUNCTUATION", type := .byte, accessFlags := 25, slot := 26, constantValue := 0 }, { name := "CONNECTOR_PUNCTUATION", type := .byte, accessFlags := 25, slot := 27, constantValue := 0 }, { name := "OTHER_PUNCTUATION", type := .byte, accessFlags := 25, slot := 28, constantValue := 0 }, { name := "MATH_SYMBOL", type := .byte, accessFlags := 25, slot := 29, constantValue := 0 }, { name := "CURRENCY_SYMBOL", type := .byte, accessFlags := 25, slot := 30, constantValue := 0 }, { name := "MODIFIER_SYMBOL", type := .byte, accessFlags := 25, slot := 31, constantValue := 0 }, { name := "OTHER_SYMBOL", type := .byte, accessFlags := 25, slot := 32, constantValue := 0 }, { name := "INITIAL_QUOTE_PUNCTUATION", type := .byte, accessFlags := 25, slot := 33, constantValue := 0 }, { name := "FINAL_QUOTE_PUNCTUATION", type := .byte, accessFlags := 25, slot := 34, constantValue := 0 }, { name := "ERROR", type := .int, accessFlags := 24, slot := 35, constantValue := 0 }, { name := "DIRECTIONALITY_UNDEFINED", type := .byte, accessFlags := 25, slot := 36, constantValue := 0 }, { name := "DIRECTIONALITY_LEFT_TO_RIGHT", type := .byte, accessFlags := 25, slot := 37, constantValue := 0 }, { name := "DIRECTIONALITY_RIGHT_TO_LEFT", type := .byte, accessFlags := 25, slot := 38, constantValue := 0 }, { name := "DIRECTIONALITY_RIGHT_TO_LEFT_ARABIC", type := .byte, accessFlags := 25, slot := 39, constantValue := 0 }, { name := "DIRECTIONALITY_EUROPEAN_NUMBER", type := .byte, accessFlags := 25, slot := 40, constantValue := 0 }, { name := "DIRECTIONALITY_EUROPEAN_NUMBER_SEPARATOR", type := .byte, accessFlags := 25, slot := 41, constantValue := 0 }, { name := "DIRECTIONALITY_EUROPEAN_NUMBER_TERMINATOR", type := .byte, accessFlags := 25, slot := 42, constantValue := 0 }, { name := "DIRECTIONALITY_ARABIC_NUMBER", type := .byte, accessFlags := 25, slot := 43, constantValue := 0 }, { name := "DIRECTIONALITY_COMMON_NUMBER_SEPARATOR", type := .byte, accessFlags := 25, slot := 44, constantValue := 0 }, { name := "DIRECTIONALITY_NONSPACING_MARK", type := .byte, accessFlags := 25, slot := 45, constantValue := 0 }, { name := "DIRECTIONALITY_BOUNDARY_NEUTRAL", type := .byte, accessFlags := 25, slot := 46, constantValue := 0 }, { name := "DIRECTIONALITY_PARAGRAPH_SEPARATOR", type := .byte, accessFlags := 25, slot := 47, constantValue := 0 }, { name := "DIRECTIONALITY_SEGMENT_SEPARATOR", type := .byte, accessFlags := 25, slot := 48, constantValue := 0 }, { name := "DIRECTIONALITY_WHITESPACE", type := .byte, accessFlags := 25, slot := 49, constantValue := 0 }, { name := "DIRECTIONALITY_OTHER_NEUTRALS", type := .byte, accessFlags := 25, slot := 50, constantValue := 0 }, { name := "DIRECTIONALITY_LEFT_TO_RIGHT_EMBEDDING", type := .byte, accessFlags := 25, slot := 51, constantValue := 0 }, { name := "DIRECTIONALITY_LEFT_TO_RIGHT_OVERRIDE", type := .byte, accessFlags := 25, slot := 52, constantValue := 0 }, { name := "DIRECTIONALITY_RIGHT_TO_LEFT_EMBEDDING", type := .byte, accessFlags := 25, slot := 53, constantValue := 0 }, { name := "DIRECTIONALITY_RIGHT_TO_LEFT_OVERRIDE", type := .byte, accessFlags := 25, slot := 54, constantValue := 0 }, { name := "DIRECTIONALITY_POP_DIRECTIONAL_FORMAT", type := .byte, accessFlags := 25, slot := 55, constantValue := 0 }, { name := "DIRECTIONALITY_LEFT_TO_RIGHT_ISOLATE", type := .byte, accessFlags := 25, slot := 56, constantValue := 0 }, { name := "DIRECTIONALITY_RIGHT_TO_LEFT_ISOLATE", type := .byte, accessFlags := 25, slot := 57, constantValue := 0 }, { name := "DIRECTIONALITY_FIRST_STRONG_ISOLATE", type := .byte, accessFlags := 25, slot := 58, constantValue := 0 }, { name := "DIRECTIONALITY_POP_DIRECTIONAL_ISOLATE", type := .byte, accessFlags := 25, slot := 59, constantValue := 0 }, { name := "MIN_HIGH_SURROGATE", type := .char, accessFlags := 25, slot := 60, constantValue := 0 }, { name := "MAX_HIGH_SURROGATE", type := .char, accessFlags := 25, slot := 61, constantValue := 0 }, { name := "MIN_LOW_SURROGATE", type := .char, accessFlags := 25, slot := 62, constantValue := 0 }, { name := "MAX_LOW_SURROGATE", type := .char, accessFlags := 25, slot := 63, constantValue := 0 }, { name := "MIN_SURROGATE", type := .char, accessFlags := 25, slot := 64, constantValue := 0 }, { name := "MAX_SURROGATE", type := .char, accessFlags := 25, slot := 65, constantValue := 0 }, { name := "MIN_SUPPLEMENTARY_CODE_POINT", type := .int, accessFlags := 25, slot := 66, constantValue := 0 }, { name := "MIN_CODE_POINT", type := .int, accessFlags := 25, slot := 67, constantValue := 0 }, { name := "MAX_CODE_POINT", type := .int, accessFlags := 25, slot := 68, constantValue := 0 }, { name := "value", type := .char, accessFlags := 18, slot := 0, constantValue := 0 }, { name := "serialVersionUID", type := .long, accessFlags := 26, slot := 69, constantValue := 0 }, { name := "SIZE", type := .int, accessFlags := 25, slot := 70, constantValue := 0 }, { name := "BYTES", type := .int, accessFlags := 25, slot := 71, constantValue := 0 }, { name := "$assertionsDisabled", type := .boolean, accessFlags := 4120, slot := 72, constantValue := 0 }]
  methods := #[k16m0, k16m1]
  instanceTypes := #[.char]
  staticTypes := #[.int, .int, .char, .char, (.object "java/lang/Class"), .byte, .byte, .byte, .byte, .byte, .byte, .byte, .byte, .byte, .byte, .byte, .byte, .byte, .byte, .byte, .byte, .byte, .byte, .byte, .byte, .byte, .byte, .byte, .byte, .byte, .byte, .byte, .byte, .byte, .byte, .int, .byte, .byte, .byte, .byte, .byte, .byte, .byte, .byte, .byte, .byte, .byte, .byte, .byte, .byte, .byte, .byte, .byte, .byte, .byte, .byte, .byte, .byte, .byte, .byte, .char, .char, .char, .char, .char, .char, .int, .int, .int, .long, .int, .int, .boolean]
  resolved := Array.replicate 604 none
  statics := none }

def pool17 : Array CpInfo := pool [(9, u "<init>"), (6, .class_ 18), (1, u "java/lang/Object"), (0, u "()V"), (1, .class_ 23), (1, u "jdk/internal/util/ArraysSupport"), (0, u "LOG2_ARRAY_LONG_INDEX_SCALE"), (0, u "I"), (2, u "U"), (0, u "Ljdk/internal/misc/Unsafe;"), (8, u "BIG_ENDIAN"), (0, u "Z"), (8, u "LOG2_BYTE_BIT_SIZE"), (4, u "LOG2_ARRAY_INT_INDEX_SCALE"), (54, u "JLA"), (0, u "Ljdk/internal/access/JavaLangAccess;"), (11, u "LOG2_ARRAY_BOOLEAN_INDEX_SCALE"), (9, u "LOG2_ARRAY_BYTE_INDEX_SCALE"), (5, u "LOG2_ARRAY_CHAR_INDEX_SCALE"), (5, u "LOG2_ARRAY_SHORT_INDEX_SCALE"), (18, u "LOG2_ARRAY_FLOAT_INDEX_SCALE"), (24, u "LOG2_ARRAY_DOUBLE_INDEX_SCALE"), (89, u "T_BOOLEAN"), (2, u "T_CHAR"), (1, u "T_FLOAT"), (1, u "T_DOUBLE"), (1, u "T_BYTE"), (1, u "T_SHORT"), (1, u "T_INT"), (1, u "T_LONG"), (1, u "SOFT_MAX_ARRAY_LENGTH")] 83

def k17m0 : Method := { name := "<init>", desc := "()V", sig := { parameters := [], returnType := none }, accessFlags := 2, code := none }
/-- jdk/internal/util/ArraysSupport -/
def k17 : Class := { plain "jdk/internal/util/ArraysSupport" (some 0) with
  accessFlags := 33
  interfaces := #[]
  cf := some (fileOf pool17 21 #[] #[{ accessFlags := 2, nameIndex := 9, descriptorIndex := 19, attributes := #[] }] 33 16 #[] #[{ accessFlags := 24, nameIndex := 28, descriptorIndex := 29, attributes := #[] }, { accessFlags := 26, nameIndex := 38, descriptorIndex := 39, attributes := #[] }, { accessFlags := 25, nameIndex := 121, descriptorIndex := 25, attributes := #[] }, { accessFlags := 25, nameIndex := 131, descriptorIndex := 25, attributes := #[] }, { accessFlags := 25, nameIndex := 137, descriptorIndex := 25, attributes := #[] }, { accessFlags := 25, nameIndex := 143, descriptorIndex := 25, attributes := #[] }, { accessFlags := 25, nameIndex := 53, descriptorIndex := 25, attributes := #[] }, { accessFlags := 25, nameIndex := 24, descriptorIndex := 25, attributes := #[] }, { accessFlags := 25, nameIndex := 162, descriptorIndex := 25, attributes := #[] }, { accessFlags := 25, nameIndex := 187, descriptorIndex := 25, attributes := #[] }, { accessFlags := 26, nameIndex := 48, descriptorIndex := 25, attributes := #[] }, { accessFlags := 25, nameIndex := 277, descriptorIndex := 25, attributes := #[] }, { accessFlags := 25, nameIndex := 280, descriptorIndex := 25, attributes := #[] }, { accessFlags := 25, nameIndex := 282, descriptorIndex := 25, attributes := #[] }, { accessFlags := 25, nameIndex := 284, descriptorIndex := 25, attributes := #[] }, { accessFlags := 25, nameIndex := 286, descriptorIndex := 25, attributes := #[] }, { accessFlags := 25, nameIndex := 288, descriptorIndex := 25, attributes := #[] }, { accessFlags := 25, nameIndex := 290, descriptorIndex := 25, attributes := #[] }, { accessFlags := 25, nameIndex := 292, descriptorIndex := 25, attributes := #[] }, { accessFlags := 26, nameIndex := 108, descriptorIndex := 109, attributes := #[] }, { accessFlags := 25, nameIndex := 294, descriptorIndex := 25, attributes := #[] }])
  fields := #[{ name := "U", type := (.object "jdk/internal/misc/Unsafe"), accessFlags := 24, slot := 0, constantValue := 0 }, { name := "BIG_ENDIAN", type := .boolean, accessFlags := 26, slot := 1, constantValue := 0 }, { name := "LOG2_ARRAY_BOOLEAN_INDEX_SCALE", type := .int, accessFlags := 25, slot := 2, constantValue := 0 }, { name := "LOG2_ARRAY_BYTE_INDEX_SCALE", type := .int, accessFlags := 25, slot := 3, constantValue := 0 }, { name := "LOG2_ARRAY_CHAR_INDEX_SCALE", type := .int, accessFlags := 25, slot := 4, constantValue := 0 }, { name := "LOG2_ARRAY_SHORT_INDEX_SCALE", type := .int, accessFlags := 25, slot := 5, constantValue := 0 }, { name := "LOG2_ARRAY_INT_INDEX_SCALE", type := .int, accessFlags := 25, slot := 6, constantValue := 0 }, { name := "LOG2_ARRAY_LONG_INDEX_SCALE", type := .int, accessFlags := 25, slot := 7, constantValue := 0 }, { name := "LOG2_ARRAY_FLOAT_INDEX_SCALE", type := .int, accessFlags := 25, slot := 8, constantValue := 0 }, { name := "LOG2_ARRAY_DOUBLE_INDEX_SCALE", type := .int, accessFlags := 25, slot := 9, constantValue := 0 }, { name := "LOG2_BYTE_BIT_SIZE", type := .int, accessFlags := 26, slot := 10, constantValue := 0 }, { name := "T_BOOLEAN", type := .int, accessFlags := 25, slot := 11, constantValue := 0 }, { name := "T_CHAR", type := .int, accessFlags := 25, slot := 12, constantValue := 0 }, { name := "T_FLOAT", type := .int, accessFlags := 25, slot := 13, constantValue := 0 }, { name := "T_DOUBLE", type := .int, accessFlags := 25, slot := 14, constantValue := 0 }, { name := "T_BYTE", type := .int, accessFlags := 25, slot := 15, constantValue := 0 }, { name := "T_SHORT", type := .int, accessFlags := 25, slot := 16, constantValue := 0 }, { name := "T_INT", type := .int, accessFlags := 25, slot := 17, constantValue := 0 }, { name := "T_LONG", type := .int, accessFlags := 25, slot := 18, constantValue := 0 }, { name := "JLA", type := (.object "jdk/internal/access/JavaLangAccess"), accessFlags := 26, slot := 19, constantValue := 0 }, { name := "SOFT_MAX_ARRAY_LENGTH", type := .int, accessFlags := 25, slot := 20, constantValue := 0 }]
  methods := #[k17m0]
  instanceTypes := #[]
  staticTypes := #[(.object "jdk/internal/misc/Unsafe"), .boolean, .int, .int, .int, .int, .int, .int, .int, .int, .int, .int, .int, .int, .int, .int, .int, .int, .int, (.object "jdk/internal/access/JavaLangAccess"), .int]
  resolved := Array.replicate 378 none
  statics := none }

def pool18 : Array CpInfo := pool [(1, u "java/lang/Cloneable"), (0, .class_ 1), (0, u "java/lang/Object"), (0, .class_ 3)] 3

/-- java/lang/Cloneable -/
def k18 : Class := { plain "java/lang/Cloneable" (some 0) with
  accessFlags := 1537
  interfaces := #[]
  cf := some (fileOf pool18 2 #[] #[] 1537 4 #[] #[])
  fields := #[]
  methods := #[]
  instanceTypes := #[]
  staticTypes := #[]
  resolved := Array.replicate 8 none
  statics := none }

/-- the primitive byte -/
def k19 : Class := { plain "byte" none with kind := .primitive 'B', accessFlags := 0x411 }
/-- [B -/
def k20 : Class := { plain "[B" (some 0) with kind := .array 19 .byte, interfaces := #[18, 4], accessFlags := 1041 }

/-- the primitive char -/
def k21 : Class := { plain "char" none with kind := .primitive 'C', accessFlags := 0x411 }
/-- [C -/
def k22 : Class := { plain "[C" (some 0) with kind := .array 21 .char, interfaces := #[18, 4], accessFlags := 1041 }

/-- the primitive int -/
def k23 : Class := { plain "int" none with kind := .primitive 'I', accessFlags := 0x411 }
/-- [I -/
def k24 : Class := { plain "[I" (some 0) with kind := .array 23 .int, interfaces := #[18, 4], accessFlags := 1041 }

def heap : Heap := #[{ cls := 9, slots := #[.long 0, .int 1, .null, .int 0, .null, .int 0, .int 0], vm := .statics 9 },
  { cls := 15, slots := #[.null, .null, .null], vm := .statics 15 }]
def classes : Array Class := #[k0, k1, k2, k3, k4, k5, k6, k7, k8, k9, k10, k11, k12, k13, k14, k15, k16, k17, k18, k19, k20, k21, k22, k23, k24]
def interned : List (Array UInt16 × Addr) := []
def slotsUsed : Nat := 10
def theMethod : MethodId := ⟨1, 5⟩
def args0 : Array Value := #[.int 5, .int 5, .int 5, .int 5, .int 5, .int 5]
def aboutOver (below : List Frame) : State where
  vm := { classes := classes, interned := interned.toArray }
  heap := heap
  slotsUsed := slotsUsed
  threads := #[{ frames := .invoking theMethod args0 :: below }]
def below0 : List Frame := [.native { method := ⟨0, 0⟩, args := #[] }]
def about1 : State := aboutOver below0
def p0 : Program := .bare "" "" ""
def e0 : Env := launch0.env 0 0 0
theorem w_frames : about1.frames = Frame.invoking theMethod args0 :: below0 := rfl
set_option maxRecDepth 65536 in
theorem w_args : argsFit about1.vm theMethod args0 = true := by decide +kernel
set_option maxRecDepth 65536 in
theorem w_heap : heapFits about1 = true := by decide +kernel
set_option maxRecDepth 65536 in
theorem w_runnable : about1.curStatus? = some .runnable := by decide +kernel
set_option maxRecDepth 65536 in
theorem w_alone : about1.alone = true := by decide +kernel
set_option maxRecDepth 65536 in
theorem w_named : about1.methodNamed? x = some theMethod := by decide +kernel
set_option maxRecDepth 65536 in
theorem w_hears : about1.hears theMethod below0 = true := by decide +kernel
set_option maxRecDepth 65536 in
theorem w_ripe : about1.ripe theMethod args0 below0 = true := by decide +kernel
theorem w_running : about1.status = .running := rfl
set_option maxRecDepth 65536 in
theorem w_room : about1.hasRoom e0.platform room_1 = true :=
  launch0.hasRoom_least _ room_1 (by decide +kernel) (by decide +kernel) (by decide +kernel) (by decide +kernel) (by decide +kernel) (by decide +kernel)
theorem allAtoms_all (ts : List Jvm.Cond) (a : Array Jvm.Value) (st : Jvm.State) : (allAtoms ts).before a st = ts.all (fun c => c.before a st) := by
  induction ts with
  | nil => rfl
  | cons c t ih =>
    show (Jvm.Cond.and c (allAtoms t)).before a st = _
    rw [Jvm.Cond.before_and, ih, List.all_cons]
def words1 : List Jvm.Cond := Jvm.Cond.code x code maxLocals ret :: tables_1
/-- a 'code' word, met by the world's own term for the bytes: nothing is compared byte by byte -/
theorem code_word {y : MethodName} {bytes : ByteArray} {mx : Nat} {rt : Option FieldType} {a : Array Value} {s : State} {m : MethodId} {meth : Method} {c : Code} (h1 : s.methodNamed? y = some m) (h2 : s.vm.method? m = some meth) (h3 : meth.code = some c) (h4 : c.code = bytes)
    (h5 : (c.maxLocals == mx && c.exceptionTable.isEmpty && decide (c.maxStack ≤ mostOperands) && decide (meth.sig.returnType = rt) && !meth.locks && decide (parseMethodDescriptor y.desc = some meth.sig)) = true) : (Jvm.Cond.code y bytes mx rt).before a s = true := by
  simp only [Bool.and_eq_true, beq_iff_eq, Bool.not_eq_true', decide_eq_true_eq] at h5
  obtain ⟨⟨⟨⟨⟨g1, g2⟩, g3⟩, g4⟩, g5⟩, g6⟩ := h5
  simp [Cond.before, Cond.holds, Cond.value, h1, h2, h3, h4, g1, g2, g3, g4, g5, g6]
def isCode : Jvm.Cond → Bool
  | .code _ _ _ _ => true
  | _ => false
theorem all_split {L : List Jvm.Cond} {P : Jvm.Cond → Bool} (h1 : L.all (fun c => isCode c || P c) = true) (h2 : ∀ c ∈ L.filter isCode, P c = true) : L.all P = true := by
  refine List.all_eq_true.mpr fun c hc => ?_
  have h := List.all_eq_true.mp h1 c hc
  rcases Bool.eq_false_or_eq_true (isCode c) with hi | hi
  · exact h2 c (List.mem_filter.mpr ⟨hc, hi⟩)
  · simpa [hi] using h
set_option maxRecDepth 65536 in
theorem w_c0 : (Jvm.Cond.code x code maxLocals ret).before args0 about1 = true := code_word (m := ⟨1, 5⟩) (meth := k1m5) (c := k1c5) (by decide +kernel) rfl rfl rfl (by decide +kernel)
set_option maxRecDepth 65536 in
theorem w_c1 : (Jvm.Cond.code ({ cls := "com/example/pegwright/pegwright/KeyEqualsPinLaw", name := "ch", desc := "(I)C" } : Jvm.MethodName) method_2_code (2 : Nat) (Option.some Jvm.ClassFile.FieldType.char)).before args0 about1 = true := code_word (m := ⟨1, 1⟩) (meth := k1m1) (c := k1c1) (by decide +kernel) rfl rfl rfl (by decide +kernel)
set_option maxRecDepth 65536 in
theorem w_c2 : (Jvm.Cond.code ({ cls := "com/example/pegwright/pegwright/KeyEqualsPinLaw", name := "pc", desc := "(I)C" } : Jvm.MethodName) method_3_code (2 : Nat) (Option.some Jvm.ClassFile.FieldType.char)).before args0 about1 = true := code_word (m := ⟨1, 2⟩) (meth := k1m2) (c := k1c2) (by decide +kernel) rfl rfl rfl (by decide +kernel)
set_option maxRecDepth 65536 in
theorem w_c3 : (Jvm.Cond.code ({ cls := "com/example/pegwright/pegwright/KeyEqualsPinLaw", name := "mk", desc := "(ICC)Ljava/lang/String;" } : Jvm.MethodName) method_4_code (4 : Nat) (Option.some (Jvm.ClassFile.FieldType.object "java/lang/String"))).before args0 about1 = true := code_word (m := ⟨1, 3⟩) (meth := k1m3) (c := k1c3) (by decide +kernel) rfl rfl rfl (by decide +kernel)
set_option maxRecDepth 65536 in
theorem w_c4 : (Jvm.Cond.code ({ cls := "java/lang/String", name := "<init>", desc := "([C)V" } : Jvm.MethodName) jdk_42_method_3_code (2 : Nat) (Option.none : Option Jvm.ClassFile.FieldType)).before args0 about1 = true := code_word (m := ⟨9, 1⟩) (meth := k9m1) (c := k9c1) (by decide +kernel) rfl rfl rfl (by decide +kernel)
set_option maxRecDepth 65536 in
theorem w_c5 : (Jvm.Cond.code ({ cls := "java/lang/String", name := "<init>", desc := "([CIILjava/lang/Void;)V" } : Jvm.MethodName) jdk_42_method_149_code (6 : Nat) (Option.none : Option Jvm.ClassFile.FieldType)).before args0 about1 = true := code_word (m := ⟨9, 8⟩) (meth := k9m8) (c := k9c8) (by decide +kernel) rfl rfl rfl (by decide +kernel)
set_option maxRecDepth 65536 in
theorem w_c6 : (Jvm.Cond.code ({ cls := "java/lang/Object", name := "<init>", desc := "()V" } : Jvm.MethodName) object_method_1_code (1 : Nat) (Option.none : Option Jvm.ClassFile.FieldType)).before args0 about1 = true := code_word (m := ⟨0, 0⟩) (meth := k0m0) (c := k0c0) (by decide +kernel) rfl rfl rfl (by decide +kernel)
set_option maxRecDepth 65536 in
theorem w_c7 : (Jvm.Cond.code ({ cls := "com/example/pegwright/pegwright/Peg", name := "<init>", desc := "(Ljava/lang/String;Ljava/lang/String;Ljava/lang/String;)V" } : Jvm.MethodName) prog_18_method_1_code (4 : Nat) (Option.none : Option Jvm.ClassFile.FieldType)).before args0 about1 = true := code_word (m := ⟨3, 0⟩) (meth := k3m0) (c := k3c0) (by decide +kernel) rfl rfl rfl (by decide +kernel)
set_option maxRecDepth 65536 in
theorem w_c8 : (Jvm.Cond.code ({ cls := "java/lang/Record", name := "<init>", desc := "()V" } : Jvm.MethodName) jdk_30_method_1_code (1 : Nat) (Option.none : Option Jvm.ClassFile.FieldType)).before args0 about1 = true := code_word (m := ⟨2, 0⟩) (meth := k2m0) (c := k2c0) (by decide +kernel) rfl rfl rfl (by decide +kernel)
set_option maxRecDepth 65536 in
theorem w_c9 : (Jvm.Cond.code ({ cls := "java/util/Objects", name := "requireNonNull", desc := "(Ljava/lang/Object;Ljava/lang/String;)Ljava/lang/Object;" } : Jvm.MethodName) jdk_31_method_11_code (2 : Nat) (Option.some (Jvm.ClassFile.FieldType.object "java/lang/Object"))).before args0 about1 = true := code_word (m := ⟨10, 1⟩) (meth := k10m1) (c := k10c1) (by decide +kernel) rfl rfl rfl (by decide +kernel)
set_option maxRecDepth 65536 in
theorem w_c10 : (Jvm.Cond.code ({ cls := "com/example/pegwright/pegwright/Names", name := "requireNoControlCharacter", desc := "(Ljava/lang/String;Ljava/lang/String;)Ljava/lang/String;" } : Jvm.MethodName) prog_15_method_5_code (2 : Nat) (Option.some (Jvm.ClassFile.FieldType.object "java/lang/String"))).before args0 about1 = true := code_word (m := ⟨11, 4⟩) (meth := k11m4) (c := k11c4) (by decide +kernel) rfl rfl rfl (by decide +kernel)
set_option maxRecDepth 65536 in
theorem w_c11 : (Jvm.Cond.code ({ cls := "com/example/pegwright/pegwright/Names", name := "holdsControlCharacter", desc := "(Ljava/lang/String;)Z" } : Jvm.MethodName) prog_15_method_2_code (2 : Nat) (Option.some Jvm.ClassFile.FieldType.boolean)).before args0 about1 = true := code_word (m := ⟨11, 1⟩) (meth := k11m1) (c := k11c1) (by decide +kernel) rfl rfl rfl (by decide +kernel)
set_option maxRecDepth 65536 in
theorem w_c12 : (Jvm.Cond.code ({ cls := "java/lang/String", name := "length", desc := "()I" } : Jvm.MethodName) jdk_42_method_54_code (1 : Nat) (Option.some Jvm.ClassFile.FieldType.int)).before args0 about1 = true := code_word (m := ⟨9, 2⟩) (meth := k9m2) (c := k9c2) (by decide +kernel) rfl rfl rfl (by decide +kernel)
set_option maxRecDepth 65536 in
theorem w_c13 : (Jvm.Cond.code ({ cls := "java/lang/String", name := "coder", desc := "()B" } : Jvm.MethodName) jdk_42_method_152_code (1 : Nat) (Option.some Jvm.ClassFile.FieldType.byte)).before args0 about1 = true := code_word (m := ⟨9, 9⟩) (meth := k9m9) (c := k9c9) (by decide +kernel) rfl rfl rfl (by decide +kernel)
set_option maxRecDepth 65536 in
theorem w_c14 : (Jvm.Cond.code ({ cls := "com/example/pegwright/pegwright/Names", name := "requireNoSlash", desc := "(Ljava/lang/String;Ljava/lang/String;)Ljava/lang/String;" } : Jvm.MethodName) prog_15_method_8_code (2 : Nat) (Option.some (Jvm.ClassFile.FieldType.object "java/lang/String"))).before args0 about1 = true := code_word (m := ⟨11, 5⟩) (meth := k11m5) (c := k11c5) (by decide +kernel) rfl rfl rfl (by decide +kernel)
set_option maxRecDepth 65536 in
theorem w_c15 : (Jvm.Cond.code ({ cls := "java/lang/String", name := "contains", desc := "(Ljava/lang/CharSequence;)Z" } : Jvm.MethodName) jdk_42_method_97_code (2 : Nat) (Option.some Jvm.ClassFile.FieldType.boolean)).before args0 about1 = true := code_word (m := ⟨9, 6⟩) (meth := k9m6) (c := k9c6) (by decide +kernel) rfl rfl rfl (by decide +kernel)
set_option maxRecDepth 65536 in
theorem w_c16 : (Jvm.Cond.code ({ cls := "java/lang/String", name := "toString", desc := "()Ljava/lang/String;" } : Jvm.MethodName) jdk_42_method_126_code (1 : Nat) (Option.some (Jvm.ClassFile.FieldType.object "java/lang/String"))).before args0 about1 = true := code_word (m := ⟨9, 7⟩) (meth := k9m7) (c := k9c7) (by decide +kernel) rfl rfl rfl (by decide +kernel)
set_option maxRecDepth 65536 in
theorem w_c17 : (Jvm.Cond.code ({ cls := "java/lang/String", name := "indexOf", desc := "(Ljava/lang/String;)I" } : Jvm.MethodName) jdk_42_method_84_code (3 : Nat) (Option.some Jvm.ClassFile.FieldType.int)).before args0 about1 = true := code_word (m := ⟨9, 5⟩) (meth := k9m5) (c := k9c5) (by decide +kernel) rfl rfl rfl (by decide +kernel)
set_option maxRecDepth 65536 in
theorem w_c18 : (Jvm.Cond.code ({ cls := "java/lang/String", name := "isLatin1", desc := "()Z" } : Jvm.MethodName) jdk_42_method_154_code (1 : Nat) (Option.some Jvm.ClassFile.FieldType.boolean)).before args0 about1 = true := code_word (m := ⟨9, 10⟩) (meth := k9m10) (c := k9c10) (by decide +kernel) rfl rfl rfl (by decide +kernel)
set_option maxRecDepth 65536 in
theorem w_c19 : (Jvm.Cond.code ({ cls := "java/lang/StringLatin1", name := "indexOf", desc := "([B[B)I" } : Jvm.MethodName) jdk_43_method_24_code (2 : Nat) (Option.some Jvm.ClassFile.FieldType.int)).before args0 about1 = true := code_word (m := ⟨12, 3⟩) (meth := k12m3) (c := k12c3) (by decide +kernel) rfl rfl rfl (by decide +kernel)
set_option maxRecDepth 65536 in
theorem w_c20 : (Jvm.Cond.code ({ cls := "com/example/pegwright/pegwright/PeggedStock$Key", name := "<init>", desc := "(Ljava/lang/String;Ljava/lang/String;Lcom/example/pegwright/pegwright/Peg;)V" } : Jvm.MethodName) prog_22_method_1_code (4 : Nat) (Option.none : Option Jvm.ClassFile.FieldType)).before args0 about1 = true := code_word (m := ⟨13, 0⟩) (meth := k13m0) (c := k13c0) (by decide +kernel) rfl rfl rfl (by decide +kernel)
set_option maxRecDepth 65536 in
theorem w_c21 : (Jvm.Cond.code ({ cls := "com/example/pegwright/pegwright/Names", name := "requireWarehouse", desc := "(Ljava/lang/String;)Ljava/lang/String;" } : Jvm.MethodName) prog_15_method_3_code (1 : Nat) (Option.some (Jvm.ClassFile.FieldType.object "java/lang/String"))).before args0 about1 = true := code_word (m := ⟨11, 2⟩) (meth := k11m2) (c := k11c2) (by decide +kernel) rfl rfl rfl (by decide +kernel)
set_option maxRecDepth 65536 in
theorem w_c22 : (Jvm.Cond.code ({ cls := "com/example/pegwright/pegwright/Names", name := "requireItem", desc := "(Ljava/lang/String;)Ljava/lang/String;" } : Jvm.MethodName) prog_15_method_4_code (1 : Nat) (Option.some (Jvm.ClassFile.FieldType.object "java/lang/String"))).before args0 about1 = true := code_word (m := ⟨11, 3⟩) (meth := k11m3) (c := k11c3) (by decide +kernel) rfl rfl rfl (by decide +kernel)
set_option maxRecDepth 65536 in
theorem w_c23 : (Jvm.Cond.code ({ cls := "com/example/pegwright/pegwright/KeyEqualsPinLaw", name := "same", desc := "(ICCICC)Z" } : Jvm.MethodName) method_5_code (6 : Nat) (Option.some Jvm.ClassFile.FieldType.boolean)).before args0 about1 = true := code_word (m := ⟨1, 4⟩) (meth := k1m4) (c := k1c4) (by decide +kernel) rfl rfl rfl (by decide +kernel)
set_option maxRecDepth 65536 in
theorem w_c24 : (Jvm.Cond.code ({ cls := "com/example/pegwright/pegwright/PeggedStock$Key", name := "equals", desc := "(Ljava/lang/Object;)Z" } : Jvm.MethodName) prog_22_method_2_code (3 : Nat) (Option.some Jvm.ClassFile.FieldType.boolean)).before args0 about1 = true := code_word (m := ⟨13, 1⟩) (meth := k13m1) (c := k13c1) (by decide +kernel) rfl rfl rfl (by decide +kernel)
set_option maxRecDepth 65536 in
theorem w_c25 : (Jvm.Cond.code ({ cls := "java/lang/String", name := "equals", desc := "(Ljava/lang/Object;)Z" } : Jvm.MethodName) jdk_42_method_66_code (3 : Nat) (Option.some Jvm.ClassFile.FieldType.boolean)).before args0 about1 = true := code_word (m := ⟨9, 4⟩) (meth := k9m4) (c := k9c4) (by decide +kernel) rfl rfl rfl (by decide +kernel)
set_option maxRecDepth 65536 in
theorem w_c26 : (Jvm.Cond.code ({ cls := "java/lang/StringLatin1", name := "equals", desc := "([B[B)Z" } : Jvm.MethodName) jdk_43_method_13_code (3 : Nat) (Option.some Jvm.ClassFile.FieldType.boolean)).before args0 about1 = true := code_word (m := ⟨12, 2⟩) (meth := k12m2) (c := k12c2) (by decide +kernel) rfl rfl rfl (by decide +kernel)
set_option maxRecDepth 65536 in
theorem w_c27 : (Jvm.Cond.code ({ cls := "com/example/pegwright/pegwright/Peg", name := "equals", desc := "(Ljava/lang/Object;)Z" } : Jvm.MethodName) prog_18_method_4_code (3 : Nat) (Option.some Jvm.ClassFile.FieldType.boolean)).before args0 about1 = true := code_word (m := ⟨3, 1⟩) (meth := k3m1) (c := k3c1) (by decide +kernel) rfl rfl rfl (by decide +kernel)
set_option maxRecDepth 65536 in
theorem w_c28 : (Jvm.Cond.code ({ cls := "java/lang/StringUTF16", name := "compress", desc := "([CII)[B" } : Jvm.MethodName) jdk_52_method_16_code (6 : Nat) (Option.some (Jvm.ClassFile.FieldType.array Jvm.ClassFile.FieldType.byte))).before args0 about1 = true := code_word (m := ⟨14, 2⟩) (meth := k14m2) (c := k14c2) (by decide +kernel) rfl rfl rfl (by decide +kernel)
set_option maxRecDepth 65536 in
theorem w_c29 : (Jvm.Cond.code ({ cls := "java/lang/StringUTF16", name := "compress", desc := "([CI[BII)I" } : Jvm.MethodName) jdk_52_method_21_code (7 : Nat) (Option.some Jvm.ClassFile.FieldType.int)).before args0 about1 = true := code_word (m := ⟨14, 3⟩) (meth := k14m3) (c := k14c3) (by decide +kernel) rfl rfl rfl (by decide +kernel)
set_option maxRecDepth 65536 in
theorem w_c30 : (Jvm.Cond.code ({ cls := "java/lang/StringUTF16", name := "coderFromArrayLen", desc := "([BI)B" } : Jvm.MethodName) jdk_52_method_15_code (2 : Nat) (Option.some Jvm.ClassFile.FieldType.byte)).before args0 about1 = true := code_word (m := ⟨14, 1⟩) (meth := k14m1) (c := k14c1) (by decide +kernel) rfl rfl rfl (by decide +kernel)
set_option maxRecDepth 65536 in
theorem w_c31 : (Jvm.Cond.code ({ cls := "java/lang/String", name := "charAt", desc := "(I)C" } : Jvm.MethodName) jdk_42_method_56_code (2 : Nat) (Option.some Jvm.ClassFile.FieldType.char)).before args0 about1 = true := code_word (m := ⟨9, 3⟩) (meth := k9m3) (c := k9c3) (by decide +kernel) rfl rfl rfl (by decide +kernel)
set_option maxRecDepth 65536 in
theorem w_c32 : (Jvm.Cond.code ({ cls := "java/lang/StringLatin1", name := "charAt", desc := "([BI)C" } : Jvm.MethodName) jdk_43_method_2_code (2 : Nat) (Option.some Jvm.ClassFile.FieldType.char)).before args0 about1 = true := code_word (m := ⟨12, 1⟩) (meth := k12m1) (c := k12c1) (by decide +kernel) rfl rfl rfl (by decide +kernel)
set_option maxRecDepth 65536 in
theorem w_c33 : (Jvm.Cond.code ({ cls := "java/lang/String", name := "checkIndex", desc := "(II)V" } : Jvm.MethodName) jdk_42_method_155_code (2 : Nat) (Option.none : Option Jvm.ClassFile.FieldType)).before args0 about1 = true := code_word (m := ⟨9, 11⟩) (meth := k9m11) (c := k9c11) (by decide +kernel) rfl rfl rfl (by decide +kernel)
set_option maxRecDepth 65536 in
theorem w_c34 : (Jvm.Cond.code ({ cls := "jdk/internal/util/Preconditions", name := "checkIndex", desc := "(IILjava/util/function/BiFunction;)I" } : Jvm.MethodName) jdk_41_method_11_code (3 : Nat) (Option.some Jvm.ClassFile.FieldType.int)).before args0 about1 = true := code_word (m := ⟨15, 1⟩) (meth := k15m1) (c := k15c1) (by decide +kernel) rfl rfl rfl (by decide +kernel)
set_option maxRecDepth 65536 in
theorem w_c35 : (Jvm.Cond.code ({ cls := "java/lang/Character", name := "isISOControl", desc := "(C)Z" } : Jvm.MethodName) jdk_89_method_88_code (1 : Nat) (Option.some Jvm.ClassFile.FieldType.boolean)).before args0 about1 = true := code_word (m := ⟨16, 0⟩) (meth := k16m0) (c := k16c0) (by decide +kernel) rfl rfl rfl (by decide +kernel)
set_option maxRecDepth 65536 in
theorem w_c36 : (Jvm.Cond.code ({ cls := "java/lang/Character", name := "isISOControl", desc := "(I)Z" } : Jvm.MethodName) jdk_89_method_89_code (1 : Nat) (Option.some Jvm.ClassFile.FieldType.boolean)).before args0 about1 = true := code_word (m := ⟨16, 1⟩) (meth := k16m1) (c := k16c1) (by decide +kernel) rfl rfl rfl (by decide +kernel)
set_option maxRecDepth 65536 in
theorem w_c37 : (Jvm.Cond.code ({ cls := "java/lang/StringLatin1", name := "indexOf", desc := "([BI[BII)I" } : Jvm.MethodName) jdk_43_method_25_code (11 : Nat) (Option.some Jvm.ClassFile.FieldType.int)).before args0 about1 = true := code_word (m := ⟨12, 4⟩) (meth := k12m4) (c := k12c4) (by decide +kernel) rfl rfl rfl (by decide +kernel)
def codes1 : List Jvm.Cond := [Jvm.Cond.code x code maxLocals ret, Jvm.Cond.code ({ cls := "com/example/pegwright/pegwright/KeyEqualsPinLaw", name := "ch", desc := "(I)C" } : Jvm.MethodName) method_2_code (2 : Nat) (Option.some Jvm.ClassFile.FieldType.char), Jvm.Cond.code ({ cls := "com/example/pegwright/pegwright/KeyEqualsPinLaw", name := "pc", desc := "(I)C" } : Jvm.MethodName) method_3_code (2 : Nat) (Option.some Jvm.ClassFile.FieldType.char), Jvm.Cond.code ({ cls := "com/example/pegwright/pegwright/KeyEqualsPinLaw", name := "mk", desc := "(ICC)Ljava/lang/String;" } : Jvm.MethodName) method_4_code (4 : Nat) (Option.some (Jvm.ClassFile.FieldType.object "java/lang/String")), Jvm.Cond.code ({ cls := "java/lang/String", name := "<init>", desc := "([C)V" } : Jvm.MethodName) jdk_42_method_3_code (2 : Nat) (Option.none : Option Jvm.ClassFile.FieldType), Jvm.Cond.code ({ cls := "java/lang/String", name := "<init>", desc := "([CIILjava/lang/Void;)V" } : Jvm.MethodName) jdk_42_method_149_code (6 : Nat) (Option.none : Option Jvm.ClassFile.FieldType), Jvm.Cond.code ({ cls := "java/lang/Object", name := "<init>", desc := "()V" } : Jvm.MethodName) object_method_1_code (1 : Nat) (Option.none : Option Jvm.ClassFile.FieldType), Jvm.Cond.code ({ cls := "com/example/pegwright/pegwright/Peg", name := "<init>", desc := "(Ljava/lang/String;Ljava/lang/String;Ljava/lang/String;)V" } : Jvm.MethodName) prog_18_method_1_code (4 : Nat) (Option.none : Option Jvm.ClassFile.FieldType), Jvm.Cond.code ({ cls := "java/lang/Record", name := "<init>", desc := "()V" } : Jvm.MethodName) jdk_30_method_1_code (1 : Nat) (Option.none : Option Jvm.ClassFile.FieldType), Jvm.Cond.code ({ cls := "java/util/Objects", name := "requireNonNull", desc := "(Ljava/lang/Object;Ljava/lang/String;)Ljava/lang/Object;" } : Jvm.MethodName) jdk_31_method_11_code (2 : Nat) (Option.some (Jvm.ClassFile.FieldType.object "java/lang/Object")), Jvm.Cond.code ({ cls := "com/example/pegwright/pegwright/Names", name := "requireNoControlCharacter", desc := "(Ljava/lang/String;Ljava/lang/String;)Ljava/lang/String;" } : Jvm.MethodName) prog_15_method_5_code (2 : Nat) (Option.some (Jvm.ClassFile.FieldType.object "java/lang/String")), Jvm.Cond.code ({ cls := "com/example/pegwright/pegwright/Names", name := "holdsControlCharacter", desc := "(Ljava/lang/String;)Z" } : Jvm.MethodName) prog_15_method_2_code (2 : Nat) (Option.some Jvm.ClassFile.FieldType.boolean), Jvm.Cond.code ({ cls := "java/lang/String", name := "length", desc := "()I" } : Jvm.MethodName) jdk_42_method_54_code (1 : Nat) (Option.some Jvm.ClassFile.FieldType.int), Jvm.Cond.code ({ cls := "java/lang/String", name := "coder", desc := "()B" } : Jvm.MethodName) jdk_42_method_152_code (1 : Nat) (Option.some Jvm.ClassFile.FieldType.byte), Jvm.Cond.code ({ cls := "com/example/pegwright/pegwright/Names", name := "requireNoSlash", desc := "(Ljava/lang/String;Ljava/lang/String;)Ljava/lang/String;" } : Jvm.MethodName) prog_15_method_8_code (2 : Nat) (Option.some (Jvm.ClassFile.FieldType.object "java/lang/String")), Jvm.Cond.code ({ cls := "java/lang/String", name := "contains", desc := "(Ljava/lang/CharSequence;)Z" } : Jvm.MethodName) jdk_42_method_97_code (2 : Nat) (Option.some Jvm.ClassFile.FieldType.boolean), Jvm.Cond.code ({ cls := "java/lang/String", name := "toString", desc := "()Ljava/lang/String;" } : Jvm.MethodName) jdk_42_method_126_code (1 : Nat) (Option.some (Jvm.ClassFile.FieldType.object "java/lang/String")), Jvm.Cond.code ({ cls := "java/lang/String", name := "indexOf", desc := "(Ljava/lang/String;)I" } : Jvm.MethodName) jdk_42_method_84_code (3 : Nat) (Option.some Jvm.ClassFile.FieldType.int), Jvm.Cond.code ({ cls := "java/lang/String", name := "isLatin1", desc := "()Z" } : Jvm.MethodName) jdk_42_method_154_code (1 : Nat) (Option.some Jvm.ClassFile.FieldType.boolean), Jvm.Cond.code ({ cls := "java/lang/StringLatin1", name := "indexOf", desc := "([B[B)I" } : Jvm.MethodName) jdk_43_method_24_code (2 : Nat) (Option.some Jvm.ClassFile.FieldType.int), Jvm.Cond.code ({ cls := "com/example/pegwright/pegwright/PeggedStock$Key", name := "<init>", desc := "(Ljava/lang/String;Ljava/lang/String;Lcom/example/pegwright/pegwright/Peg;)V" } : Jvm.MethodName) prog_22_method_1_code (4 : Nat) (Option.none : Option Jvm.ClassFile.FieldType), Jvm.Cond.code ({ cls := "com/example/pegwright/pegwright/Names", name := "requireWarehouse", desc := "(Ljava/lang/String;)Ljava/lang/String;" } : Jvm.MethodName) prog_15_method_3_code (1 : Nat) (Option.some (Jvm.ClassFile.FieldType.object "java/lang/String")), Jvm.Cond.code ({ cls := "com/example/pegwright/pegwright/Names", name := "requireItem", desc := "(Ljava/lang/String;)Ljava/lang/String;" } : Jvm.MethodName) prog_15_method_4_code (1 : Nat) (Option.some (Jvm.ClassFile.FieldType.object "java/lang/String")), Jvm.Cond.code ({ cls := "com/example/pegwright/pegwright/KeyEqualsPinLaw", name := "same", desc := "(ICCICC)Z" } : Jvm.MethodName) method_5_code (6 : Nat) (Option.some Jvm.ClassFile.FieldType.boolean), Jvm.Cond.code ({ cls := "com/example/pegwright/pegwright/PeggedStock$Key", name := "equals", desc := "(Ljava/lang/Object;)Z" } : Jvm.MethodName) prog_22_method_2_code (3 : Nat) (Option.some Jvm.ClassFile.FieldType.boolean), Jvm.Cond.code ({ cls := "java/lang/String", name := "equals", desc := "(Ljava/lang/Object;)Z" } : Jvm.MethodName) jdk_42_method_66_code (3 : Nat) (Option.some Jvm.ClassFile.FieldType.boolean), Jvm.Cond.code ({ cls := "java/lang/StringLatin1", name := "equals", desc := "([B[B)Z" } : Jvm.MethodName) jdk_43_method_13_code (3 : Nat) (Option.some Jvm.ClassFile.FieldType.boolean), Jvm.Cond.code ({ cls := "com/example/pegwright/pegwright/Peg", name := "equals", desc := "(Ljava/lang/Object;)Z" } : Jvm.MethodName) prog_18_method_4_code (3 : Nat) (Option.some Jvm.ClassFile.FieldType.boolean), Jvm.Cond.code ({ cls := "java/lang/StringUTF16", name := "compress", desc := "([CII)[B" } : Jvm.MethodName) jdk_52_method_16_code (6 : Nat) (Option.some (Jvm.ClassFile.FieldType.array Jvm.ClassFile.FieldType.byte)), Jvm.Cond.code ({ cls := "java/lang/StringUTF16", name := "compress", desc := "([CI[BII)I" } : Jvm.MethodName) jdk_52_method_21_code (7 : Nat) (Option.some Jvm.ClassFile.FieldType.int), Jvm.Cond.code ({ cls := "java/lang/StringUTF16", name := "coderFromArrayLen", desc := "([BI)B" } : Jvm.MethodName) jdk_52_method_15_code (2 : Nat) (Option.some Jvm.ClassFile.FieldType.byte), Jvm.Cond.code ({ cls := "java/lang/String", name := "charAt", desc := "(I)C" } : Jvm.MethodName) jdk_42_method_56_code (2 : Nat) (Option.some Jvm.ClassFile.FieldType.char), Jvm.Cond.code ({ cls := "java/lang/StringLatin1", name := "charAt", desc := "([BI)C" } : Jvm.MethodName) jdk_43_method_2_code (2 : Nat) (Option.some Jvm.ClassFile.FieldType.char), Jvm.Cond.code ({ cls := "java/lang/String", name := "checkIndex", desc := "(II)V" } : Jvm.MethodName) jdk_42_method_155_code (2 : Nat) (Option.none : Option Jvm.ClassFile.FieldType), Jvm.Cond.code ({ cls := "jdk/internal/util/Preconditions", name := "checkIndex", desc := "(IILjava/util/function/BiFunction;)I" } : Jvm.MethodName) jdk_41_method_11_code (3 : Nat) (Option.some Jvm.ClassFile.FieldType.int), Jvm.Cond.code ({ cls := "java/lang/Character", name := "isISOControl", desc := "(C)Z" } : Jvm.MethodName) jdk_89_method_88_code (1 : Nat) (Option.some Jvm.ClassFile.FieldType.boolean), Jvm.Cond.code ({ cls := "java/lang/Character", name := "isISOControl", desc := "(I)Z" } : Jvm.MethodName) jdk_89_method_89_code (1 : Nat) (Option.some Jvm.ClassFile.FieldType.boolean), Jvm.Cond.code ({ cls := "java/lang/StringLatin1", name := "indexOf", desc := "([BI[BII)I" } : Jvm.MethodName) jdk_43_method_25_code (11 : Nat) (Option.some Jvm.ClassFile.FieldType.int)]
set_option maxRecDepth 65536 in
theorem codes_eq : words1.filter isCode = codes1 := rfl
theorem w_codes : ∀ c ∈ words1.filter isCode, c.before args0 about1 = true := by
  rw [codes_eq]
  intro c hc
  simp only [codes1, List.mem_cons, List.not_mem_nil, or_false] at hc
  rcases hc with rfl | rfl | rfl | rfl | rfl | rfl | rfl | rfl | rfl | rfl | rfl | rfl | rfl | rfl | rfl | rfl | rfl | rfl | rfl | rfl | rfl | rfl | rfl | rfl | rfl | rfl | rfl | rfl | rfl | rfl | rfl | rfl | rfl | rfl | rfl | rfl | rfl | rfl
  · exact w_c0
  · exact w_c1
  · exact w_c2
  · exact w_c3
  · exact w_c4
  · exact w_c5
  · exact w_c6
  · exact w_c7
  · exact w_c8
  · exact w_c9
  · exact w_c10
  · exact w_c11
  · exact w_c12
  · exact w_c13
  · exact w_c14
  · exact w_c15
  · exact w_c16
  · exact w_c17
  · exact w_c18
  · exact w_c19
  · exact w_c20
  · exact w_c21
  · exact w_c22
  · exact w_c23
  · exact w_c24
  · exact w_c25
  · exact w_c26
  · exact w_c27
  · exact w_c28
  · exact w_c29
  · exact w_c30
  · exact w_c31
  · exact w_c32
  · exact w_c33
  · exact w_c34
  · exact w_c35
  · exact w_c36
  · exact w_c37
set_option maxRecDepth 65536 in
theorem w_t1 : (words1.take 24).all (fun c => isCode c || c.before args0 about1) = true := by decide +kernel
set_option maxRecDepth 65536 in
theorem w_t2 : ((words1.drop 24).take 24).all (fun c => isCode c || c.before args0 about1) = true := by decide +kernel
set_option maxRecDepth 65536 in
theorem w_t3 : (((words1.drop 24).drop 24).take 24).all (fun c => isCode c || c.before args0 about1) = true := by decide +kernel
set_option maxRecDepth 65536 in
theorem w_t4 : ((((words1.drop 24).drop 24).drop 24).take 24).all (fun c => isCode c || c.before args0 about1) = true := by decide +kernel
set_option maxRecDepth 65536 in
theorem w_t5 : (((((words1.drop 24).drop 24).drop 24).drop 24).take 24).all (fun c => isCode c || c.before args0 about1) = true := by decide +kernel
set_option maxRecDepth 65536 in
theorem w_t6 : ((((((words1.drop 24).drop 24).drop 24).drop 24).drop 24).take 24).all (fun c => isCode c || c.before args0 about1) = true := by decide +kernel
set_option maxRecDepth 65536 in
theorem w_t7 : (((((((words1.drop 24).drop 24).drop 24).drop 24).drop 24).drop 24).take 24).all (fun c => isCode c || c.before args0 about1) = true := by decide +kernel
set_option maxRecDepth 65536 in
theorem w_t8 : ((((((((words1.drop 24).drop 24).drop 24).drop 24).drop 24).drop 24).drop 24).take 24).all (fun c => isCode c || c.before args0 about1) = true := by decide +kernel
set_option maxRecDepth 65536 in
theorem w_t9 : ((((((((words1.drop 24).drop 24).drop 24).drop 24).drop 24).drop 24).drop 24).drop 24).all (fun c => isCode c || c.before args0 about1) = true := by decide +kernel
theorem w_tables : (allAtoms (Jvm.Cond.code x code maxLocals ret :: tables_1)).before args0 about1 = true := by
  rw [allAtoms_all]
  show words1.all (fun c => c.before args0 about1) = true
  refine all_split ?_ w_codes
  rw [← List.take_append_drop 24 words1, List.all_append, w_t1, ← List.take_append_drop 24 (words1.drop 24), List.all_append, w_t2, ← List.take_append_drop 24 ((words1.drop 24).drop 24), List.all_append, w_t3, ← List.take_append_drop 24 (((words1.drop 24).drop 24).drop 24), List.all_append, w_t4, ← List.take_append_drop 24 ((((words1.drop 24).drop 24).drop 24).drop 24), List.all_append, w_t5, ← List.take_append_drop 24 (((((words1.drop 24).drop 24).drop 24).drop 24).drop 24), List.all_append, w_t6, ← List.take_append_drop 24 ((((((words1.drop 24).drop 24).drop 24).drop 24).drop 24).drop 24), List.all_append, w_t7, ← List.take_append_drop 24 (((((((words1.drop 24).drop 24).drop 24).drop 24).drop 24).drop 24).drop 24), List.all_append, w_t8, w_t9]
  rfl
set_option maxRecDepth 65536 in
theorem w_rest : rest_1_c.before args0 about1 = true := by decide +kernel
set_option maxRecDepth 65536 in
theorem w_case : (Jvm.Cond.and given_1 narrow_1).before args0 about1 = true := by decide +kernel
set_option maxRecDepth 65536 in
theorem w_consts : constsHeld consts_1 about1 := Jvm.Lit.constsHeldB_iff.mp (by decide +kernel)
theorem w_applies : (headSpec (Jvm.Cond.code x code maxLocals ret :: tables_1) room_1).applies x e0.platform about1 = true :=
  (Spec.applies_iff w_frames).mpr ⟨w_running, w_runnable, w_alone, w_named, w_hears, w_ripe, w_room, w_tables⟩
theorem atStart : AtStart classFile x code maxLocals ret World_1 tables_1 room_1 Calls_1 rest_1 Pre_1 launch0 p0 e0 about1 theMethod args0 below0 :=
  ⟨lists_1, trivial, launch0.admits_env _ _ _, launch0.least_env, fairChoices_fair.cas, fairChoices_fair.clock, w_frames, w_args, w_heap, w_applies, ⟨w_consts, trivial⟩, w_rest, w_case⟩
end start1
theorem witness_1 : WitnessClaimed_1 := ⟨start1.p0, start1.e0, start1.about1, start1.theMethod, start1.args0, start1.below0, start1.atStart⟩
end Jvm.Pilot.@@N@@
