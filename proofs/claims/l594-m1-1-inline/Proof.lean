import JvmDerived
import JvmDerived.Pilot.@@N@@Statement
import JvmDerived.Pilot.@@N@@Code
set_option linter.unusedVariables false
set_option linter.unusedSimpArgs false
@@BLOCK:TracedD.lean.txt@@
namespace Jvm.RoadKit
theorem Ext.refl (h : Heap) : Ext h h := ⟨Nat.le_refl _, fun _ _ q => q⟩
theorem Ext.trans {h h1 h2 : Heap} (A : Ext h h1) (B : Ext h1 h2) : Ext h h2 := ⟨Nat.le_trans A.1 B.1, fun a c q => B.2 a c (A.2 a c q)⟩
end Jvm.RoadKit
namespace Jvm.OwnKit
open Sem ClassFile Op Lib Jvm.Stand Jvm.Free Jvm.LawKit Jvm.RoadKit

/-- where the walk stands: the tables so far, nothing old written, the String constants held, the objects under construction -/
def St (p : Program) (l : Launch) (e : Env) (R : Room) (s : State) (m : MethodId) (args : Array Value) (below : List Frame) (meth : Method) (c : Code)
    (own : String) (bytes : ByteArray) (maxL : Nat) (ret : Option FieldType) (nm : String) (Z : State) (EL : List (String × Nat)) (nw : Bool) (us : List Addr) (bs : List (String × Nat × Addr))
    (T : State) (h : Heap) (cells slots : Nat) : Prop :=
  (p.tables.exec = Jvm.exec ∧ c.code = bytes ∧ c.maxLocals = maxL ∧ meth.sig.returnType = ret ∧ meth.name = nm ∧ meth.locks = false ∧ ∃ a0, EW Z a0 EL) ∧
  ∃ (vm0 : Vm) (locs : List Loc), Stand p l e R (s.setVm vm0) m args below meth c T locs cells slots ∧ Fr Z.heap.size locs ∧ T.heap = h ∧ s.Since vm0 h.size ∧
    Z.Warmed39 vm0 ∧ vm0.findClass own = some m.cls ∧ Ext Z.heap h ∧ CHr Z EL s.vm s.heap vm0 h ∧
    (∀ x ∈ us, Z.heap.size ≤ x ∧ x < h.size ∧ Safe Z EL vm0 h x) ∧ (nw = true → s.WarmedH vm0) ∧ ∀ q ∈ bs, Lit (s.setVm vm0) q.1 q.2.1 q.2.2

/-- from here the method returns, with Q of what it returns and of the heap it leaves -/
def Goes (p : Program) (e : Env) (below : List Frame) (s Z : State) (EL : List (String × Nat)) (nw : Bool) (Q : Option Value → Heap → Prop) (kk nn : Nat) (S : State) : Prop :=
  ∃ U o, Steps p.tables e below S U ∧ U.status = .running ∧ Ended U below o ∧ ∃ v L, o = .returned v ∧ Q v U.heap ∧ Fr Z.heap.size L ∧ Ext Z.heap U.heap ∧
    CHr Z EL s.vm s.heap U.vm U.heap ∧ ReturnedEndW s o U L kk nn ∧ (nw = true → s.WarmedH U.vm)

/-- the contract of a method for the arguments as' at the heap h -/
def Ctr (l : Launch) (Z : State) (EL : List (String × Nat)) (nw : Bool) (y : MethodName) (bytes : ByteArray) (maxL : Nat) (ret : Option FieldType) (rm : Room) (as' : Array Value) (h : Heap) (us : List Addr)
    (Q : Option Value → Heap → Prop) : Prop :=
  ∀ ws : List Jvm.Cond, MetFree l y (head1 (Jvm.Cond.code y bytes maxL ret :: ws) rm)
    (fun a U => a = as' ∧ Z.Warmed39 U.vm ∧ U.heap = h ∧ Ext Z.heap h ∧ CHv Z EL U.vm h ∧ ∀ x ∈ us, Z.heap.size ≤ x ∧ x < h.size ∧ Safe Z EL U.vm h x)
    (fun _ _ _ _ _ => True)
    (fun _ U o U' => ∃ v L, o = .returned v ∧ Q v U'.heap ∧ Fr Z.heap.size L ∧ Ext Z.heap U'.heap ∧ CHr Z EL U.vm U.heap U'.vm U'.heap ∧ ReturnedEndW U o U' L rm.cells rm.slots ∧ (nw = true → U.WarmedH U'.vm))

def PureQ (h : Heap) (Qv : Value → Prop) : Option Value → Heap → Prop := fun v h' => h' = h ∧ ∃ w, v = some w ∧ Qv w
def ValQ (Qv : Value → Heap → Prop) : Option Value → Heap → Prop := fun v h' => ∃ w, v = some w ∧ Qv w h'
def VoidQ (Qn : Heap → Prop) : Option Value → Heap → Prop := fun v h' => v = none ∧ Qn h'
section Base
variable {p : Program} {l : Launch} {e : Env} {R : Room} {s : State} {m : MethodId} {args : Array Value} {below : List Frame} {meth : Method} {c : Code}
  {own : String} {bytes : ByteArray} {maxL : Nat} {ret : Option FieldType} {nm : String} {Z : State} {EL : List (String × Nat)} {nw : Bool} {us : List Addr} {bs : List (String × Nat × Addr)}
  {T : State} {h : Heap} {cells slots : Nat} {Q : Option Value → Heap → Prop} {kk nn : Nat} {a0 : Array Value}

theorem ext_keep {h h1 h2 : Heap} {ws : List Addr} (A : Ext h h1) (K : Keep h1 h2 ws) (q : ∀ x ∈ ws, h.size ≤ x) : Ext h h2 :=
  ⟨Nat.le_trans A.1 K.1, fun a c r => K.2.1 a c (A.2 a c r) fun z => absurd (Array.getElem?_eq_some_iff.mp r).1 (Nat.not_lt.mpr (q a z))⟩
theorem ext_wr {h h1 h2 : Heap} {a : Addr} {sl : Nat} {v : Value} (A : Ext h h1) (W : Wr h1 h2 a sl v) (q : h.size ≤ a) : Ext h h2 :=
  ext_keep A (Keep.of_wr W) (fun x hx => by cases List.mem_singleton.mp hx; exact q)
theorem nar_mask (x : Int32) : nar .char (x &&& 255) = x &&& 255 := i2c_mask x
theorem ref_nar {v : Value} {t : FieldType} (h : v.isRef = true) (ht : t.isReference = true) : narrow t v = v := by
  rcases ref_cases h with rfl | ⟨a, rfl⟩ <;> cases t <;> first | rfl | simp [FieldType.isReference] at ht
theorem ref_fit {v : Value} {t : FieldType} (h : v.isRef = true) (ht : t.isReference = true) : fits t v = true := by
  rcases ref_cases h with rfl | ⟨a, rfl⟩ <;> cases t <;> first | rfl | simp [FieldType.isReference] at ht
theorem Sta.keepN {h1 h2 : Heap} {C n d : String} {v : Value} {ws : List Addr} (F : Sta Z Z.heap C n d v) (E : Ext Z.heap h2) : Sta Z h2 C n d v := Sta.ext E F

theorem St.at (X : St p l e R s m args below meth c own bytes maxL ret nm Z EL nw us bs T h cells slots) : At T m c below := by obtain ⟨-, _, _, Y, -⟩ := X; exact Y.here
theorem St.std (X : St p l e R s m args below meth c own bytes maxL ret nm Z EL nw us bs T h cells slots) : ∃ vm0 locs, Stand p l e R (s.setVm vm0) m args below meth c T locs cells slots := by obtain ⟨-, vm0, locs, Y, -⟩ := X; exact ⟨vm0, locs, Y⟩
theorem St.hx (X : St p l e R s m args below meth c own bytes maxL ret nm Z EL nw us bs T h cells slots) : p.tables.exec = Jvm.exec := X.1.1
theorem St.by (X : St p l e R s m args below meth c own bytes maxL ret nm Z EL nw us bs T h cells slots) : c.code = bytes := X.1.2.1
theorem St.old (X : St p l e R s m args below meth c own bytes maxL ret nm Z EL nw us bs T h cells slots) : Ext Z.heap h := by obtain ⟨-, _, _, -, -, -, -, -, -, q, -⟩ := X; exact q
theorem St.new (X : St p l e R s m args below meth c own bytes maxL ret nm Z EL nw us bs T h cells slots) {x : Addr} (hx : x ∈ us) : Z.heap.size ≤ x ∧ x < h.size := by
  obtain ⟨-, _, _, -, -, -, -, -, -, -, -, q, -⟩ := X; exact ⟨(q x hx).1, (q x hx).2.1⟩
theorem St.mono (X : St p l e R s m args below meth c own bytes maxL ret nm Z EL nw us bs T h cells slots) {cells' slots' : Nat} (hc : cells ≤ cells') (hs : slots ≤ slots') : St p l e R s m args below meth c own bytes maxL ret nm Z EL nw us bs T h cells' slots' := by
  obtain ⟨cx, vm0, locs, Y, r⟩ := X
  exact ⟨cx, vm0, locs, Y.mono hc hs, r⟩
theorem St.sub (X : St p l e R s m args below meth c own bytes maxL ret nm Z EL nw us bs T h cells slots) {us' : List Addr} (q : ∀ x ∈ us', x ∈ us) : St p l e R s m args below meth c own bytes maxL ret nm Z EL nw us' bs T h cells slots := by
  obtain ⟨cx, vm0, locs, Y, r1, r2, r3, r4, r5, r6, r7, r8, r9⟩ := X
  exact ⟨cx, vm0, locs, Y, r1, r2, r3, r4, r5, r6, r7, fun x hx => r8 x (q x hx), r9⟩

theorem Goes.step {S S' : State} (f : ∀ t, Steps p.tables e below S' t → Steps p.tables e below S t) (K : Goes p e below s Z EL nw Q kk nn S') : Goes p e below s Z EL nw Q kk nn S := by
  obtain ⟨U, o, hs, r⟩ := K; exact ⟨U, o, f _ hs, r⟩
theorem Goes.imp {Q' : Option Value → Heap → Prop} {S : State} (f : ∀ v h, Q v h → Q' v h) (K : Goes p e below s Z EL nw Q kk nn S) : Goes p e below s Z EL nw Q' kk nn S := by
  obtain ⟨U, o, h1, h2, h3, v, L, h4, h5, r⟩ := K; exact ⟨U, o, h1, h2, h3, v, L, h4, f _ _ h5, r⟩

/-- entering a method -/
theorem Ctr.enter {y : MethodName} {rm : Room} {as' : Array Value} (h1 : y.cls = own) (h2 : y.name = nm) (hEL : EW Z a0 EL) (hn : plainFor y = true) (Ls : Array Slot) (ef : ∀ m, entryFrame m as' maxL = mkF m 0 Ls [])
    (body : ∀ (p : Program) (e : Env) (s : State) (m : MethodId) (below : List Frame) (meth : Method) (c : Code) (T : State),
      St p l e rm s m as' below meth c own bytes maxL ret nm Z EL nw us [] T h 0 0 → Goes p e below s Z EL nw Q rm.cells rm.slots (T.setTop (mkF m 0 Ls []))) :
    Ctr l Z EL nw y bytes maxL ret rm as' h us Q := by
  subst h1 h2
  intro ws
  refine MetFree.of_bodySF hn hisR ?_
  intro p e s m args below meth c s₁ Bd hml0 hP _
  obtain ⟨rfl, hZ, hh, hE, hC, hU⟩ := hP
  have hnm := (name_of_methodNamed Bd.named Bd.method).1
  have hown : s.vm.findClass y.cls = some m.cls := findClass_of_methodNamed Bd.named
  have e0 : s₁.heap = h := by rw [← hh, Bd.state]; rfl
  have X0 : Stand p l e rm (s.setVm s.vm) m args below meth c s₁ [] 0 0 := Stand.of_body Bd
  have X : St p l e rm s m args below meth c y.cls bytes maxL ret y.name Z EL nw us [] s₁ h 0 0 :=
    ⟨⟨Bd.exec, Bd.bytes, hml0, Bd.returns, hnm, Bd.notSynchronized, a0, hEL⟩, s.vm, [], X0, Fr.nil _, e0, (State.WarmedH.refl s).since _, hZ, hown, hE, by rw [hh]; exact CHr.refl hC, hU, fun _ => State.WarmedH.refl s, fun _ q => by cases q⟩
  obtain ⟨U, o, h1, h2, h3, h4⟩ := body p e s m below meth c s₁ X
  refine ⟨U, o, ?_, h2, h3, h4⟩
  rw [ef m]; exact h1

theorem leave0 (X : St p l e R s m args below meth c own bytes maxL ret nm Z EL nw us bs T h cells slots) {v : Option Value} (hv : ret = none → v = none) (hc : cells ≤ kk) (hn : slots ≤ nn) (hQ : Q v h)
    {S : State} (f : ∀ fs, (∀ (f : JFrame) (acts : List Action), f.method = m → f.locked = none → f.entered = [] → (doReturn e (T.setTop f) acts v).1 = T.setFrames fs) → Steps p.tables e below S (T.setFrames fs)) :
    Goes p e below s Z EL nw Q kk nn S := by
  obtain ⟨⟨h1, h2, h3, h4, h5, h6, a0', hEL⟩, vm0, locs, Y, N, eT, hS, hZ, hown, hE, hC, hU, hW⟩ := X
  have Y' := Y.mono hc hn
  obtain ⟨fs, g1, g2, g3, g4⟩ := Y'.leaveW hS (Nat.le_of_eq (by rw [eT])) (v := v) (fun q => hv (h4 ▸ q)) h6
  have hal : CHr Z EL s.vm s.heap (T.setFrames fs).vm (T.setFrames fs).heap := by
    show CHr Z EL s.vm s.heap T.vm T.heap
    rw [eT]
    exact hC.trans (CHv.at Y hZ hEL hC.1)
  exact ⟨_, _, f fs g1, g2, g3, v, locs, rfl, by show Q v T.heap; rw [eT]; exact hQ, N, by show Ext Z.heap T.heap; rw [eT]; exact hE, hal, g4, fun q => State.WarmedH.trans (t := s.setVm vm0) (hW.1 q) Y.warmed⟩
end Base
section Ops
variable {p : Program} {l : Launch} {e : Env} {R : Room} {s : State} {m : MethodId} {args : Array Value} {below : List Frame} {meth : Method} {c : Code}
  {own : String} {bytes : ByteArray} {maxL : Nat} {ret : Option FieldType} {nm : String} {Z : State} {EL : List (String × Nat)} {nw : Bool} {us : List Addr} {bs : List (String × Nat × Addr)}
  {T : State} {h : Heap} {cells slots : Nat} {Q : Option Value → Heap → Prop} {kk nn : Nat} {a0 : Array Value} {pc : Nat} {Ls : Array Slot} {st : List Value}
theorem g_aload (X : St p l e R s m args below meth c own bytes maxL ret nm Z EL nw us bs T h cells slots) {k : Nat} {v : Value} (hd : decode bytes pc = .ok (.aload k, 2)) (hl : Ls[k]? = some (.val v)) (hv : v.isRef = true) (pc' : Nat) (hp : pc + 2 = pc')
    (K : Goes p e below s Z EL nw Q kk nn (T.setTop (mkF m pc' Ls (v :: st)))) : Goes p e below s Z EL nw Q kk nn (T.setTop (mkF m pc Ls (st))) := by
  subst hp
  exact K.step fun t k => XS.aload X.at X.hx rfl (hb X.by hd) hl hv k

theorem g_aloadN (X : St p l e R s m args below meth c own bytes maxL ret nm Z EL nw us bs T h cells slots) {k : Fin 4} {v : Value} (hd : decode bytes pc = .ok (.aload_n k, 1)) (hl : Ls[k.val]? = some (.val v)) (hv : v.isRef = true) (pc' : Nat) (hp : pc + 1 = pc')
    (K : Goes p e below s Z EL nw Q kk nn (T.setTop (mkF m pc' Ls (v :: st)))) : Goes p e below s Z EL nw Q kk nn (T.setTop (mkF m pc Ls (st))) := by
  subst hp
  exact K.step fun t k => XS.aloadN X.at X.hx rfl (hb X.by hd) hl hv k

theorem g_iload (X : St p l e R s m args below meth c own bytes maxL ret nm Z EL nw us bs T h cells slots) {k : Nat} {v : Int32} (hd : decode bytes pc = .ok (.iload k, 2)) (hl : Ls[k]? = some (.val (.int v))) (pc' : Nat) (hp : pc + 2 = pc')
    (K : Goes p e below s Z EL nw Q kk nn (T.setTop (mkF m pc' Ls (.int v :: st)))) : Goes p e below s Z EL nw Q kk nn (T.setTop (mkF m pc Ls (st))) := by
  subst hp
  exact K.step fun t k => XS.iload X.at X.hx rfl (hb X.by hd) hl k

theorem g_iloadN (X : St p l e R s m args below meth c own bytes maxL ret nm Z EL nw us bs T h cells slots) {k : Fin 4} {v : Int32} (hd : decode bytes pc = .ok (.iload_n k, 1)) (hl : Ls[k.val]? = some (.val (.int v))) (pc' : Nat) (hp : pc + 1 = pc')
    (K : Goes p e below s Z EL nw Q kk nn (T.setTop (mkF m pc' Ls (.int v :: st)))) : Goes p e below s Z EL nw Q kk nn (T.setTop (mkF m pc Ls (st))) := by
  subst hp
  exact K.step fun t k => XS.iloadN X.at X.hx rfl (hb X.by hd) hl k

theorem g_istore (X : St p l e R s m args below meth c own bytes maxL ret nm Z EL nw us bs T h cells slots) {k : Nat} {x : Int32} {Ls' : Array Slot} (hd : decode bytes pc = .ok (.istore k, 2)) (hl : storeLocals Ls k (.int x) = some Ls') (pc' : Nat) (hp : pc + 2 = pc')
    (K : Goes p e below s Z EL nw Q kk nn (T.setTop (mkF m pc' Ls' (st)))) : Goes p e below s Z EL nw Q kk nn (T.setTop (mkF m pc Ls (.int x :: st))) := by
  subst hp
  exact K.step fun t k => XS.istore X.at X.hx rfl (hb X.by hd) rfl hl k

theorem g_istoreN (X : St p l e R s m args below meth c own bytes maxL ret nm Z EL nw us bs T h cells slots) {k : Fin 4} {x : Int32} {Ls' : Array Slot} (hd : decode bytes pc = .ok (.istore_n k, 1)) (hl : storeLocals Ls k.val (.int x) = some Ls') (pc' : Nat) (hp : pc + 1 = pc')
    (K : Goes p e below s Z EL nw Q kk nn (T.setTop (mkF m pc' Ls' (st)))) : Goes p e below s Z EL nw Q kk nn (T.setTop (mkF m pc Ls (.int x :: st))) := by
  subst hp
  exact K.step fun t k => XS.istoreN X.at X.hx rfl (hb X.by hd) rfl hl k

theorem g_astore (X : St p l e R s m args below meth c own bytes maxL ret nm Z EL nw us bs T h cells slots) {k : Nat} {x : Value} {Ls' : Array Slot} (hd : decode bytes pc = .ok (.astore k, 2)) (hv : x.isRef = true) (hl : storeLocals Ls k x = some Ls') (pc' : Nat) (hp : pc + 2 = pc')
    (K : Goes p e below s Z EL nw Q kk nn (T.setTop (mkF m pc' Ls' (st)))) : Goes p e below s Z EL nw Q kk nn (T.setTop (mkF m pc Ls (x :: st))) := by
  subst hp
  exact K.step fun t k => XS.astore X.at X.hx rfl (hb X.by hd) rfl hv hl k

theorem g_astoreN (X : St p l e R s m args below meth c own bytes maxL ret nm Z EL nw us bs T h cells slots) {k : Fin 4} {x : Value} {Ls' : Array Slot} (hd : decode bytes pc = .ok (.astore_n k, 1)) (hv : x.isRef = true) (hl : storeLocals Ls k.val x = some Ls') (pc' : Nat) (hp : pc + 1 = pc')
    (K : Goes p e below s Z EL nw Q kk nn (T.setTop (mkF m pc' Ls' (st)))) : Goes p e below s Z EL nw Q kk nn (T.setTop (mkF m pc Ls (x :: st))) := by
  subst hp
  exact K.step fun t k => XS.astoreN X.at X.hx rfl (hb X.by hd) rfl hv hl k

theorem g_iconst (X : St p l e R s m args below meth c own bytes maxL ret nm Z EL nw us bs T h cells slots) {i : Int} (w : Int32) (hd : decode bytes pc = .ok (.iconst i, 1)) (hw : Int32.ofInt i = w) (pc' : Nat) (hp : pc + 1 = pc')
    (K : Goes p e below s Z EL nw Q kk nn (T.setTop (mkF m pc' Ls (.int w :: st)))) : Goes p e below s Z EL nw Q kk nn (T.setTop (mkF m pc Ls (st))) := by
  subst hp
  exact K.step fun t k => XS.iconst X.at X.hx rfl (hb X.by hd) (by rw [hw]; exact k)

theorem g_bipush (X : St p l e R s m args below meth c own bytes maxL ret nm Z EL nw us bs T h cells slots) {i : Int} (w : Int32) (hd : decode bytes pc = .ok (.bipush i, 2)) (hw : (Int8.ofInt i).toInt32 = w) (pc' : Nat) (hp : pc + 2 = pc')
    (K : Goes p e below s Z EL nw Q kk nn (T.setTop (mkF m pc' Ls (.int w :: st)))) : Goes p e below s Z EL nw Q kk nn (T.setTop (mkF m pc Ls (st))) := by
  subst hp
  exact K.step fun t k => XS.bipush X.at X.hx rfl (hb X.by hd) (by rw [hw]; exact k)

theorem g_sipush (X : St p l e R s m args below meth c own bytes maxL ret nm Z EL nw us bs T h cells slots) {i : Int} (w : Int32) (hd : decode bytes pc = .ok (.sipush i, 3)) (hw : (Int16.ofInt i).toInt32 = w) (pc' : Nat) (hp : pc + 3 = pc')
    (K : Goes p e below s Z EL nw Q kk nn (T.setTop (mkF m pc' Ls (.int w :: st)))) : Goes p e below s Z EL nw Q kk nn (T.setTop (mkF m pc Ls (st))) := by
  subst hp
  exact K.step fun t k => XS.sipush X.at X.hx rfl (hb X.by hd) (by rw [hw]; exact k)

theorem g_aconstNull (X : St p l e R s m args below meth c own bytes maxL ret nm Z EL nw us bs T h cells slots)  (hd : decode bytes pc = .ok (.aconst_null, 1))  (pc' : Nat) (hp : pc + 1 = pc')
    (K : Goes p e below s Z EL nw Q kk nn (T.setTop (mkF m pc' Ls (.null :: st)))) : Goes p e below s Z EL nw Q kk nn (T.setTop (mkF m pc Ls (st))) := by
  subst hp
  exact K.step fun t k => XS.aconstNull X.at X.hx rfl (hb X.by hd) k

theorem g_iadd (X : St p l e R s m args below meth c own bytes maxL ret nm Z EL nw us bs T h cells slots) {x y : Int32} (hd : decode bytes pc = .ok (.iadd, 1)) (w : Int32) (hw : x + y = w) (pc' : Nat) (hp : pc + 1 = pc')
    (K : Goes p e below s Z EL nw Q kk nn (T.setTop (mkF m pc' Ls (.int w :: st)))) : Goes p e below s Z EL nw Q kk nn (T.setTop (mkF m pc Ls (.int y :: .int x :: st))) := by
  subst hp
  exact K.step fun t k => XS.iadd X.at X.hx rfl (hb X.by hd) rfl (by rw [hw]; exact k)

theorem g_isub (X : St p l e R s m args below meth c own bytes maxL ret nm Z EL nw us bs T h cells slots) {x y : Int32} (hd : decode bytes pc = .ok (.isub, 1)) (w : Int32) (hw : x - y = w) (pc' : Nat) (hp : pc + 1 = pc')
    (K : Goes p e below s Z EL nw Q kk nn (T.setTop (mkF m pc' Ls (.int w :: st)))) : Goes p e below s Z EL nw Q kk nn (T.setTop (mkF m pc Ls (.int y :: .int x :: st))) := by
  subst hp
  exact K.step fun t k => XS.isub X.at X.hx rfl (hb X.by hd) rfl (by rw [hw]; exact k)

theorem g_iand (X : St p l e R s m args below meth c own bytes maxL ret nm Z EL nw us bs T h cells slots) {x y : Int32} (hd : decode bytes pc = .ok (.iand, 1)) (w : Int32) (hw : x &&& y = w) (pc' : Nat) (hp : pc + 1 = pc')
    (K : Goes p e below s Z EL nw Q kk nn (T.setTop (mkF m pc' Ls (.int w :: st)))) : Goes p e below s Z EL nw Q kk nn (T.setTop (mkF m pc Ls (.int y :: .int x :: st))) := by
  subst hp
  exact K.step fun t k => XS.iand X.at X.hx rfl (hb X.by hd) rfl (by rw [hw]; exact k)

theorem g_imul (X : St p l e R s m args below meth c own bytes maxL ret nm Z EL nw us bs T h cells slots) {x y : Int32} (hd : decode bytes pc = .ok (.imul, 1)) (w : Int32) (hw : x * y = w) (pc' : Nat) (hp : pc + 1 = pc')
    (K : Goes p e below s Z EL nw Q kk nn (T.setTop (mkF m pc' Ls (.int w :: st)))) : Goes p e below s Z EL nw Q kk nn (T.setTop (mkF m pc Ls (.int y :: .int x :: st))) := by
  subst hp
  exact K.step fun t k => XS.imul X.at X.hx rfl (hb X.by hd) rfl (by rw [hw]; exact k)

theorem g_ixor (X : St p l e R s m args below meth c own bytes maxL ret nm Z EL nw us bs T h cells slots) {x y : Int32} (hd : decode bytes pc = .ok (.ixor, 1)) (w : Int32) (hw : x ^^^ y = w) (pc' : Nat) (hp : pc + 1 = pc')
    (K : Goes p e below s Z EL nw Q kk nn (T.setTop (mkF m pc' Ls (.int w :: st)))) : Goes p e below s Z EL nw Q kk nn (T.setTop (mkF m pc Ls (.int y :: .int x :: st))) := by
  subst hp
  exact K.step fun t k => XT.ixor X.at X.hx rfl (hb X.by hd) rfl (by rw [hw]; exact k)

theorem g_ior (X : St p l e R s m args below meth c own bytes maxL ret nm Z EL nw us bs T h cells slots) {x y : Int32} (hd : decode bytes pc = .ok (.ior, 1)) (w : Int32) (hw : x ||| y = w) (pc' : Nat) (hp : pc + 1 = pc')
    (K : Goes p e below s Z EL nw Q kk nn (T.setTop (mkF m pc' Ls (.int w :: st)))) : Goes p e below s Z EL nw Q kk nn (T.setTop (mkF m pc Ls (.int y :: .int x :: st))) := by
  subst hp
  exact K.step fun t k => XT.ior X.at X.hx rfl (hb X.by hd) rfl (by rw [hw]; exact k)

theorem g_irem (X : St p l e R s m args below meth c own bytes maxL ret nm Z EL nw us bs T h cells slots) {x y : Int32} (hd : decode bytes pc = .ok (.irem, 1)) (hy : y ≠ 0) (w : Int32) (hw : x % y = w) (pc' : Nat) (hp : pc + 1 = pc')
    (K : Goes p e below s Z EL nw Q kk nn (T.setTop (mkF m pc' Ls (.int w :: st)))) : Goes p e below s Z EL nw Q kk nn (T.setTop (mkF m pc Ls (.int y :: .int x :: st))) := by
  subst hp hw
  obtain ⟨vm0, locs, Y⟩ := X.std
  exact K.step fun t k => iremM Y X.hx rfl (hb X.by hd) rfl hy k

theorem g_idiv (X : St p l e R s m args below meth c own bytes maxL ret nm Z EL nw us bs T h cells slots) {x y : Int32} (hd : decode bytes pc = .ok (.idiv, 1)) (hy : y ≠ 0) (w : Int32) (hw : x / y = w) (pc' : Nat) (hp : pc + 1 = pc')
    (K : Goes p e below s Z EL nw Q kk nn (T.setTop (mkF m pc' Ls (.int w :: st)))) : Goes p e below s Z EL nw Q kk nn (T.setTop (mkF m pc Ls (.int y :: .int x :: st))) := by
  subst hp
  exact K.step fun t k => XS.idiv X.at X.hx rfl (hb X.by hd) rfl hy (by rw [hw]; exact k)

theorem g_ineg (X : St p l e R s m args below meth c own bytes maxL ret nm Z EL nw us bs T h cells slots) {x : Int32} (hd : decode bytes pc = .ok (.ineg, 1)) (w : Int32) (hw : -x = w) (pc' : Nat) (hp : pc + 1 = pc')
    (K : Goes p e below s Z EL nw Q kk nn (T.setTop (mkF m pc' Ls (.int w :: st)))) : Goes p e below s Z EL nw Q kk nn (T.setTop (mkF m pc Ls (.int x :: st))) := by
  subst hp
  exact K.step fun t k => XS.ineg X.at X.hx rfl (hb X.by hd) rfl (by rw [hw]; exact k)

theorem g_iushr (X : St p l e R s m args below meth c own bytes maxL ret nm Z EL nw us bs T h cells slots) {x y : Int32} (hd : decode bytes pc = .ok (.iushr, 1)) (w : Int32) (hw : XT.ushr x y = w) (pc' : Nat) (hp : pc + 1 = pc')
    (K : Goes p e below s Z EL nw Q kk nn (T.setTop (mkF m pc' Ls (.int w :: st)))) : Goes p e below s Z EL nw Q kk nn (T.setTop (mkF m pc Ls (.int y :: .int x :: st))) := by
  subst hp
  exact K.step fun t k => XT.iushr X.at X.hx rfl (hb X.by hd) rfl (by rw [hw]; exact k)

theorem g_ishr (X : St p l e R s m args below meth c own bytes maxL ret nm Z EL nw us bs T h cells slots) {x y : Int32} (hd : decode bytes pc = .ok (.ishr, 1)) (w : Int32) (hw : x >>> (y &&& 31) = w) (pc' : Nat) (hp : pc + 1 = pc')
    (K : Goes p e below s Z EL nw Q kk nn (T.setTop (mkF m pc' Ls (.int w :: st)))) : Goes p e below s Z EL nw Q kk nn (T.setTop (mkF m pc Ls (.int y :: .int x :: st))) := by
  subst hp
  exact K.step fun t k => XT.ishr X.at X.hx rfl (hb X.by hd) rfl (by rw [hw]; exact k)

theorem g_ishl (X : St p l e R s m args below meth c own bytes maxL ret nm Z EL nw us bs T h cells slots) {x y : Int32} (hd : decode bytes pc = .ok (.ishl, 1)) (w : Int32) (hw : x <<< (y &&& 31) = w) (pc' : Nat) (hp : pc + 1 = pc')
    (K : Goes p e below s Z EL nw Q kk nn (T.setTop (mkF m pc' Ls (.int w :: st)))) : Goes p e below s Z EL nw Q kk nn (T.setTop (mkF m pc Ls (.int y :: .int x :: st))) := by
  subst hp
  exact K.step fun t k => XT.ishl X.at X.hx rfl (hb X.by hd) rfl (by rw [hw]; exact k)

theorem g_i2c (X : St p l e R s m args below meth c own bytes maxL ret nm Z EL nw us bs T h cells slots) {x : Int32} (hd : decode bytes pc = .ok (.i2c, 1)) (w : Int32) (hw : x.toUInt32.toUInt16.toUInt32.toInt32 = w) (pc' : Nat) (hp : pc + 1 = pc')
    (K : Goes p e below s Z EL nw Q kk nn (T.setTop (mkF m pc' Ls (.int w :: st)))) : Goes p e below s Z EL nw Q kk nn (T.setTop (mkF m pc Ls (.int x :: st))) := by
  subst hp
  exact K.step fun t k => XT.i2c X.at X.hx rfl (hb X.by hd) rfl (by rw [hw]; exact k)

theorem g_i2b (X : St p l e R s m args below meth c own bytes maxL ret nm Z EL nw us bs T h cells slots) {x : Int32} (hd : decode bytes pc = .ok (.i2b, 1)) (w : Int32) (hw : x.toInt8.toInt32 = w) (pc' : Nat) (hp : pc + 1 = pc')
    (K : Goes p e below s Z EL nw Q kk nn (T.setTop (mkF m pc' Ls (.int w :: st)))) : Goes p e below s Z EL nw Q kk nn (T.setTop (mkF m pc Ls (.int x :: st))) := by
  subst hp
  exact K.step fun t k => XT.i2b X.at X.hx rfl (hb X.by hd) rfl (by rw [hw]; exact k)

theorem g_i2l (X : St p l e R s m args below meth c own bytes maxL ret nm Z EL nw us bs T h cells slots) {x : Int32} (hd : decode bytes pc = .ok (.i2l, 1)) (w : Int64) (hw : x.toInt64 = w) (pc' : Nat) (hp : pc + 1 = pc')
    (K : Goes p e below s Z EL nw Q kk nn (T.setTop (mkF m pc' Ls (.long w :: st)))) : Goes p e below s Z EL nw Q kk nn (T.setTop (mkF m pc Ls (.int x :: st))) := by
  subst hp
  exact K.step fun t k => XT.i2l X.at X.hx rfl (hb X.by hd) rfl (by rw [hw]; exact k)

theorem g_lsub (X : St p l e R s m args below meth c own bytes maxL ret nm Z EL nw us bs T h cells slots) {x y : Int64} (hd : decode bytes pc = .ok (.lsub, 1)) (w : Int64) (hw : x - y = w) (pc' : Nat) (hp : pc + 1 = pc')
    (K : Goes p e below s Z EL nw Q kk nn (T.setTop (mkF m pc' Ls (.long w :: st)))) : Goes p e below s Z EL nw Q kk nn (T.setTop (mkF m pc Ls (.long y :: .long x :: st))) := by
  subst hp
  exact K.step fun t k => XT.lsub X.at X.hx rfl (hb X.by hd) rfl (by rw [hw]; exact k)

theorem g_lcmp (X : St p l e R s m args below meth c own bytes maxL ret nm Z EL nw us bs T h cells slots) {x y : Int64} (hd : decode bytes pc = .ok (.lcmp, 1)) (w : Int32) (hw : XT.cmpL x y = w) (pc' : Nat) (hp : pc + 1 = pc')
    (K : Goes p e below s Z EL nw Q kk nn (T.setTop (mkF m pc' Ls (.int w :: st)))) : Goes p e below s Z EL nw Q kk nn (T.setTop (mkF m pc Ls (.long y :: .long x :: st))) := by
  subst hp
  exact K.step fun t k => XT.lcmp X.at X.hx rfl (hb X.by hd) rfl (by rw [hw]; exact k)

theorem g_dup (X : St p l e R s m args below meth c own bytes maxL ret nm Z EL nw us bs T h cells slots) {x : Value} (hd : decode bytes pc = .ok (.dup, 1)) (hc : x.category = 1) (pc' : Nat) (hp : pc + 1 = pc')
    (K : Goes p e below s Z EL nw Q kk nn (T.setTop (mkF m pc' Ls (x :: x :: st)))) : Goes p e below s Z EL nw Q kk nn (T.setTop (mkF m pc Ls (x :: st))) := by
  subst hp
  exact K.step fun t k => XS.dup X.at X.hx rfl (hb X.by hd) rfl hc k

theorem g_pop (X : St p l e R s m args below meth c own bytes maxL ret nm Z EL nw us bs T h cells slots) {x : Value} (hd : decode bytes pc = .ok (.pop, 1)) (hc : x.category = 1) (pc' : Nat) (hp : pc + 1 = pc')
    (K : Goes p e below s Z EL nw Q kk nn (T.setTop (mkF m pc' Ls (st)))) : Goes p e below s Z EL nw Q kk nn (T.setTop (mkF m pc Ls (x :: st))) := by
  subst hp
  exact K.step fun t k => XT.pop X.at X.hx rfl (hb X.by hd) rfl hc k

theorem g_iinc (X : St p l e R s m args below meth c own bytes maxL ret nm Z EL nw us bs T h cells slots) {k : Nat} {i : Int} {x : Int32} {Ls' : Array Slot} (hd : decode bytes pc = .ok (.iinc k i, 3)) (hl : Ls[k]? = some (.val (.int x))) (w : Int32) (hw : x + Int32.ofInt i = w) (hl' : storeLocals Ls k (.int w) = some Ls') (pc' : Nat) (hp : pc + 3 = pc')
    (K : Goes p e below s Z EL nw Q kk nn (T.setTop (mkF m pc' Ls' (st)))) : Goes p e below s Z EL nw Q kk nn (T.setTop (mkF m pc Ls (st))) := by
  subst hp
  exact K.step fun t k => XS.iinc X.at X.hx rfl (hb X.by hd) hl (by rw [hw]; exact hl') k

theorem g_ifNo (X : St p l e R s m args below meth c own bytes maxL ret nm Z EL nw us bs T h cells slots) {cd : ClassFile.Cond} {o : Int} {x : Int32} (hd : decode bytes pc = .ok (.ifCond cd o, 3)) (hc : if_icmp.holds cd x 0 = false) (pc' : Nat) (hp : pc + 3 = pc')
    (K : Goes p e below s Z EL nw Q kk nn (T.setTop (mkF m pc' Ls (st)))) : Goes p e below s Z EL nw Q kk nn (T.setTop (mkF m pc Ls (.int x :: st))) := by
  subst hp
  exact K.step fun t k => XS.ifNo X.at X.hx rfl (hb X.by hd) rfl ((if0 cd x).trans hc) k

theorem g_icmpNo (X : St p l e R s m args below meth c own bytes maxL ret nm Z EL nw us bs T h cells slots) {cd : ClassFile.Cond} {o : Int} {x y : Int32} (hd : decode bytes pc = .ok (.if_icmp cd o, 3)) (hc : if_icmp.holds cd x y = false) (pc' : Nat) (hp : pc + 3 = pc')
    (K : Goes p e below s Z EL nw Q kk nn (T.setTop (mkF m pc' Ls (st)))) : Goes p e below s Z EL nw Q kk nn (T.setTop (mkF m pc Ls (.int y :: .int x :: st))) := by
  subst hp
  exact K.step fun t k => XS.icmpNo X.at X.hx rfl (hb X.by hd) rfl hc k

theorem g_ifnullNo (X : St p l e R s m args below meth c own bytes maxL ret nm Z EL nw us bs T h cells slots) {o : Int} {b : Addr} (hd : decode bytes pc = .ok (.ifnull o, 3))  (pc' : Nat) (hp : pc + 3 = pc')
    (K : Goes p e below s Z EL nw Q kk nn (T.setTop (mkF m pc' Ls (st)))) : Goes p e below s Z EL nw Q kk nn (T.setTop (mkF m pc Ls (.ref b :: st))) := by
  subst hp
  exact K.step fun t k => XS.ifnullNo X.at X.hx rfl (hb X.by hd) rfl k

theorem g_ifnonnullNo (X : St p l e R s m args below meth c own bytes maxL ret nm Z EL nw us bs T h cells slots) {o : Int} (hd : decode bytes pc = .ok (.ifnonnull o, 3))  (pc' : Nat) (hp : pc + 3 = pc')
    (K : Goes p e below s Z EL nw Q kk nn (T.setTop (mkF m pc' Ls (st)))) : Goes p e below s Z EL nw Q kk nn (T.setTop (mkF m pc Ls (.null :: st))) := by
  subst hp
  exact K.step fun t k => XT.ifnonnullNo X.at X.hx rfl (hb X.by hd) rfl k

theorem g_acmpNo (X : St p l e R s m args below meth c own bytes maxL ret nm Z EL nw us bs T h cells slots) {cd : ClassFile.ACond} {o : Int} {x y : Value} (hd : decode bytes pc = .ok (.if_acmp cd o, 3)) (hx' : x.isRef = true) (hy' : y.isRef = true) (hc : XT.acmp cd x y = false) (pc' : Nat) (hp : pc + 3 = pc')
    (K : Goes p e below s Z EL nw Q kk nn (T.setTop (mkF m pc' Ls (st)))) : Goes p e below s Z EL nw Q kk nn (T.setTop (mkF m pc Ls (y :: x :: st))) := by
  subst hp
  exact K.step fun t k => XT.acmpNo X.at X.hx rfl (hb X.by hd) rfl hx' hy' hc k

theorem g_goto (X : St p l e R s m args below meth c own bytes maxL ret nm Z EL nw us bs T h cells slots)  {o : Int} (hd : decode bytes pc = .ok (.goto o, 3))  (pc' : Nat) (ho : 0 ≤ (pc : Int) + o) (hp : ((pc : Int) + o).toNat = pc')
    (K : Goes p e below s Z EL nw Q kk nn (T.setTop (mkF m pc' Ls (st)))) : Goes p e below s Z EL nw Q kk nn (T.setTop (mkF m pc Ls (st))) :=
  K.step fun t k => XS.goto X.at X.hx rfl (pc0 := pc) rfl (hb X.by hd) ho hp k

theorem g_ifYes (X : St p l e R s m args below meth c own bytes maxL ret nm Z EL nw us bs T h cells slots) {cd : ClassFile.Cond} {x : Int32} {o : Int} (hd : decode bytes pc = .ok (.ifCond cd o, 3)) (hc : if_icmp.holds cd x 0 = true) (pc' : Nat) (ho : 0 ≤ (pc : Int) + o) (hp : ((pc : Int) + o).toNat = pc')
    (K : Goes p e below s Z EL nw Q kk nn (T.setTop (mkF m pc' Ls (st)))) : Goes p e below s Z EL nw Q kk nn (T.setTop (mkF m pc Ls (.int x :: st))) :=
  K.step fun t k => XS.ifYes X.at X.hx rfl (pc0 := pc) rfl (hb X.by hd) rfl ((if0 cd x).trans hc) ho hp k

theorem g_icmpYes (X : St p l e R s m args below meth c own bytes maxL ret nm Z EL nw us bs T h cells slots) {cd : ClassFile.Cond} {x y : Int32} {o : Int} (hd : decode bytes pc = .ok (.if_icmp cd o, 3)) (hc : if_icmp.holds cd x y = true) (pc' : Nat) (ho : 0 ≤ (pc : Int) + o) (hp : ((pc : Int) + o).toNat = pc')
    (K : Goes p e below s Z EL nw Q kk nn (T.setTop (mkF m pc' Ls (st)))) : Goes p e below s Z EL nw Q kk nn (T.setTop (mkF m pc Ls (.int y :: .int x :: st))) :=
  K.step fun t k => XS.icmpYes X.at X.hx rfl (pc0 := pc) rfl (hb X.by hd) rfl hc ho hp k

theorem g_ifnullYes (X : St p l e R s m args below meth c own bytes maxL ret nm Z EL nw us bs T h cells slots)  {o : Int} (hd : decode bytes pc = .ok (.ifnull o, 3))  (pc' : Nat) (ho : 0 ≤ (pc : Int) + o) (hp : ((pc : Int) + o).toNat = pc')
    (K : Goes p e below s Z EL nw Q kk nn (T.setTop (mkF m pc' Ls (st)))) : Goes p e below s Z EL nw Q kk nn (T.setTop (mkF m pc Ls (.null :: st))) :=
  K.step fun t k => XS.ifnullYes X.at X.hx rfl (pc0 := pc) rfl (hb X.by hd) rfl ho hp k

theorem g_ifnonnullYes (X : St p l e R s m args below meth c own bytes maxL ret nm Z EL nw us bs T h cells slots) {b : Addr} {o : Int} (hd : decode bytes pc = .ok (.ifnonnull o, 3))  (pc' : Nat) (ho : 0 ≤ (pc : Int) + o) (hp : ((pc : Int) + o).toNat = pc')
    (K : Goes p e below s Z EL nw Q kk nn (T.setTop (mkF m pc' Ls (st)))) : Goes p e below s Z EL nw Q kk nn (T.setTop (mkF m pc Ls (.ref b :: st))) :=
  K.step fun t k => XT.ifnonnullYes X.at X.hx rfl (pc0 := pc) rfl (hb X.by hd) rfl ho hp k

theorem g_acmpYes (X : St p l e R s m args below meth c own bytes maxL ret nm Z EL nw us bs T h cells slots) {cd : ClassFile.ACond} {x y : Value} {o : Int} (hd : decode bytes pc = .ok (.if_acmp cd o, 3)) (hx' : x.isRef = true) (hy' : y.isRef = true) (hc : XT.acmp cd x y = true) (pc' : Nat) (ho : 0 ≤ (pc : Int) + o) (hp : ((pc : Int) + o).toNat = pc')
    (K : Goes p e below s Z EL nw Q kk nn (T.setTop (mkF m pc' Ls (st)))) : Goes p e below s Z EL nw Q kk nn (T.setTop (mkF m pc Ls (y :: x :: st))) :=
  K.step fun t k => XT.acmpYes X.at X.hx rfl (pc0 := pc) rfl (hb X.by hd) rfl hx' hy' hc ho hp k
end Ops
section Rets
variable {p : Program} {l : Launch} {e : Env} {R : Room} {s : State} {m : MethodId} {args : Array Value} {below : List Frame} {meth : Method} {c : Code}
  {own : String} {bytes : ByteArray} {maxL : Nat} {ret : Option FieldType} {nm : String} {Z : State} {EL : List (String × Nat)} {nw : Bool} {us : List Addr} {bs : List (String × Nat × Addr)}
  {T : State} {h : Heap} {cells slots : Nat} {Q : Option Value → Heap → Prop} {kk nn : Nat} {a0 : Array Value} {pc : Nat} {Ls : Array Slot} {st : List Value}

theorem g_retN (X : St p l e R s m args below meth c own bytes maxL ret nm Z EL nw us bs T h cells slots) {z : Int32} {t : FieldType} {rest : List Value} (hret : ret = some t) (ht : t = .boolean ∨ t = .byte ∨ t = .char ∨ t = .short) (hd : decode bytes pc = .ok (.ireturn, 1)) (w : Int32) (hw : nar t z = w) (hc : cells ≤ kk) (hn : slots ≤ nn) (hQ : Q (some (.int w)) h) :
    Goes p e below s Z EL nw Q kk nn (T.setTop (mkF m pc Ls (.int z :: rest))) := by
  subst hw
  have h4 := X.1.2.2.2.1
  exact leave0 X (fun q => by rw [hret] at q; cases q) hc hn hQ fun fs g1 => by
    obtain ⟨vm0, locs, Y⟩ := X.std
    exact retN Y X.hx (h4.trans hret) ht (hb X.by hd) g1
theorem g_retI (X : St p l e R s m args below meth c own bytes maxL ret nm Z EL nw us bs T h cells slots) {z : Int32} {rest : List Value} (hret : ret = some .int) (hd : decode bytes pc = .ok (.ireturn, 1)) (hc : cells ≤ kk) (hn : slots ≤ nn) (hQ : Q (some (.int z)) h) :
    Goes p e below s Z EL nw Q kk nn (T.setTop (mkF m pc Ls (.int z :: rest))) := by
  have h4 := X.1.2.2.2.1
  exact leave0 X (fun q => by rw [hret] at q; cases q) hc hn hQ fun fs g1 => by
    obtain ⟨vm0, locs, Y⟩ := X.std
    exact retOut Y X.hx (h4.trans hret) rfl (Or.inl ⟨rfl, Or.inl rfl, z, rfl⟩) (hb X.by hd) g1
theorem g_retA (X : St p l e R s m args below meth c own bytes maxL ret nm Z EL nw us bs T h cells slots) {w : Value} {t : FieldType} {rest : List Value} (hret : ret = some t) (ht : t.isReference = true) (hw : w.isRef = true) (hd : decode bytes pc = .ok (.areturn, 1)) (hc : cells ≤ kk) (hn : slots ≤ nn) (hQ : Q (some w) h) :
    Goes p e below s Z EL nw Q kk nn (T.setTop (mkF m pc Ls (w :: rest))) := by
  have h4 := X.1.2.2.2.1
  have hnar : narrow t w = w := by
    rcases ref_cases hw with rfl | ⟨a, rfl⟩ <;> cases t <;> first | rfl | simp [FieldType.isReference] at ht
  exact leave0 X (fun q => by rw [hret] at q; cases q) hc hn hQ fun fs g1 => by
    obtain ⟨vm0, locs, Y⟩ := X.std
    exact retOut Y X.hx (h4.trans hret) hnar (Or.inr (Or.inr (Or.inr (Or.inr ⟨rfl, ht, hw⟩)))) (hb X.by hd) g1
theorem g_ret (X : St p l e R s m args below meth c own bytes maxL ret nm Z EL nw us bs T h cells slots) (hret : ret = none) (hd : decode bytes pc = .ok (.return_, 1)) (hc : cells ≤ kk) (hn : slots ≤ nn) (hQ : Q none h) :
    Goes p e below s Z EL nw Q kk nn (T.setTop (mkF m pc Ls [])) := by
  have h4 := X.1.2.2.2.1
  exact leave0 X (fun _ => rfl) hc hn hQ fun fs g1 => by
    obtain ⟨vm0, locs, Y⟩ := X.std
    exact Y.returnOut X.hx (h4.trans hret) (hb X.by hd) g1
end Rets
section HeapOps
variable {p : Program} {l : Launch} {e : Env} {R : Room} {s : State} {m : MethodId} {args : Array Value} {below : List Frame} {meth : Method} {c : Code}
  {own : String} {bytes : ByteArray} {maxL : Nat} {ret : Option FieldType} {nm : String} {Z : State} {EL : List (String × Nat)} {nw : Bool} {us : List Addr} {bs : List (String × Nat × Addr)}
  {T : State} {h : Heap} {cells slots : Nat} {Q : Option Value → Heap → Prop} {kk nn : Nat} {a0 : Array Value} {pc : Nat} {Ls : Array Slot} {st : List Value}

theorem g_ldcI (X : St p l e R s m args below meth c own bytes maxL ret nm Z EL nw us bs T h cells slots) {ix : Nat} {v : Int32} (w : (Jvm.Cond.constant own ix v).before a0 Z = true) (hd : decode bytes pc = .ok (.ldc ix, 2)) (pc' : Nat) (hp : pc + 2 = pc')
    (K : Goes p e below s Z EL nw Q kk nn (T.setTop (mkF m pc' Ls (.int v :: st)))) : Goes p e below s Z EL nw Q kk nn (T.setTop (mkF m pc Ls st)) := by
  subst hp
  obtain ⟨cx, vm0, locs, Y, N, eT, hS, hZ, hown, r⟩ := X
  exact K.step fun t k => Y.ldcI cx.1 hown (mv (s := s.setVm vm0) hZ w) rfl (hb cx.2.1 hd) k
theorem g_getF (X : St p l e R s m args below meth c own bytes maxL ret nm Z EL nw us bs T h cells slots) {R0 O n d host : String} {ix : Nat} {a : Addr} {v : Value} (w : (Jvm.Cond.fieldLink own ix R0 n d).before a0 Z = true ∨ (Jvm.Cond.fieldLinkNest own ix R0 n d host).before a0 Z = true) (via : Via Z R0 O n d) (F : Fld Z h a O n d v)
    (hd : decode bytes pc = .ok (.getfield ix, 3)) (pc' : Nat) (hp : pc + 3 = pc')
    (K : ∀ T', St p l e R s m args below meth c own bytes maxL ret nm Z EL nw us bs T' h cells slots → Goes p e below s Z EL nw Q kk nn (T'.setTop (mkF m pc' Ls (v :: st)))) : Goes p e below s Z EL nw Q kk nn (T.setTop (mkF m pc Ls (.ref a :: st))) := by
  subst hp
  obtain ⟨cx, vm0, locs, Y, N, eT, hS, hZ, hown, r⟩ := X
  obtain ⟨T', Y', e', stp⟩ := getF Y cx.1 hZ hown w via eT F (g := mkF m pc Ls (.ref a :: st)) rfl rfl (hb cx.2.1 hd)
  exact (K T' ⟨cx, vm0, locs, Y', N, e', hS, hZ, hown, r⟩).step stp
theorem g_getS (X : St p l e R s m args below meth c own bytes maxL ret nm Z EL nw us bs T h cells slots) {R0 O n d host : String} {ix : Nat} {v : Value} (w : (Jvm.Cond.fieldLink own ix R0 n d).before a0 Z = true ∨ (Jvm.Cond.fieldLinkNest own ix R0 n d host).before a0 Z = true) (via : Via Z R0 O n d) (F : Sta Z h O n d v)
    (hd : decode bytes pc = .ok (.getstatic ix, 3)) (pc' : Nat) (hp : pc + 3 = pc')
    (K : ∀ T', St p l e R s m args below meth c own bytes maxL ret nm Z EL nw us bs T' h cells slots → Goes p e below s Z EL nw Q kk nn (T'.setTop (mkF m pc' Ls (v :: st)))) : Goes p e below s Z EL nw Q kk nn (T.setTop (mkF m pc Ls st)) := by
  subst hp
  obtain ⟨cx, vm0, locs, Y, N, eT, hS, hZ, hown, r⟩ := X
  obtain ⟨T', Y', e', stp⟩ := getS2 Y cx.1 hZ hown w via eT F (g := mkF m pc Ls st) rfl (hb cx.2.1 hd)
  exact (K T' ⟨cx, vm0, locs, Y', N, e', hS, hZ, hown, r⟩).step stp
theorem own_noassign {C S D : String} {n : Nat} (w : (Jvm.Cond.superclass C S).before a0 Z = true) (w0 : (Jvm.Cond.noSuperclass S).before a0 Z = true) (wi : (Jvm.Cond.instantiable D n).before a0 Z = true) (hn : C ≠ D) (hs : S ≠ D) : ∃ c t, Z.vm.findClass C = some c ∧ Z.vm.findClass D = some t ∧ Z.vm.assignable c t = false := by
  obtain ⟨t, k', g0, g2, g5, gr⟩ := Jvm.Cond.instantiable_spec wi
  obtain ⟨cs, ks, s1, s2, s3, -, -⟩ := Jvm.Cond.noSuperclass_spec w0
  obtain ⟨c, h0⟩ := found_sup w
  obtain ⟨p, k, kp, h1, h2, h3, h4, h5, -, h7⟩ := Jvm.Cond.superclass_spec h0 w
  cases s1.symm.trans h1
  have ne := ids_ne h0 g0 hn
  have ne2 := ids_ne s1 g0 hs
  have gi : k'.isInterface = false := (Bool.or_eq_false_iff.mp gr.1).1
  have n3 : ∀ fuel, Z.vm.isSubclassAux fuel c t = false := by
    intro fuel
    cases fuel with
    | zero => rfl
    | succ f =>
      cases f with
      | zero => simp [Vm.isSubclassAux, ne, h2, h4]
      | succ f => simp [Vm.isSubclassAux, ne, h2, h4, ne2, s2, s3]
  refine ⟨c, t, h0, g0, ?_⟩
  show Z.vm.assignableAux (255 + 1) c t = false
  simp [Vm.assignableAux, ne, h2, g2, h5, g5, Vm.isSubclass, n3, gi]
theorem g_instNull (X : St p l e R s m args below meth c own bytes maxL ret nm Z EL nw us bs T h cells slots) {ix : Nat} (hd : decode bytes pc = .ok (.instanceof ix, 3)) (pc' : Nat) (hp : pc + 3 = pc')
    (K : Goes p e below s Z EL nw Q kk nn (T.setTop (mkF m pc' Ls (.int 0 :: st)))) : Goes p e below s Z EL nw Q kk nn (T.setTop (mkF m pc Ls (.null :: st))) := by
  subst hp
  obtain ⟨vm0, locs, Y⟩ := X.std
  exact K.step fun t k => Y.instanceofNull X.hx (g := mkF m pc Ls (.null :: st)) rfl rfl (hb X.by hd) t k
theorem g_cast (X : St p l e R s m args below meth c own bytes maxL ret nm Z EL nw us bs T h cells slots) {C : String} {ix : Nat} {a : Addr} (w : (Jvm.Cond.classLink own ix C).before a0 Z = true) (F : Ins Z h a C true) (hd : decode bytes pc = .ok (.checkcast ix, 3)) (pc' : Nat) (hp : pc + 3 = pc')
    (K : ∀ T', St p l e R s m args below meth c own bytes maxL ret nm Z EL nw us bs T' h cells slots → Goes p e below s Z EL nw Q kk nn (T'.setTop (mkF m pc' Ls (.ref a :: st)))) : Goes p e below s Z EL nw Q kk nn (T.setTop (mkF m pc Ls (.ref a :: st))) := by
  subst hp
  obtain ⟨cx, vm0, locs, Y, N, eT, hS, hZ, hown, r⟩ := X
  obtain ⟨T', Y', e', stp⟩ := castY Y cx.1 hZ hown w eT F (g := mkF m pc Ls (.ref a :: st)) rfl rfl (hb cx.2.1 hd)
  exact (K T' ⟨cx, vm0, locs, Y', N, e', hS, hZ, hown, r⟩).step stp
theorem g_instY (X : St p l e R s m args below meth c own bytes maxL ret nm Z EL nw us bs T h cells slots) {C : String} {ix : Nat} {a : Addr} (w : (Jvm.Cond.classLink own ix C).before a0 Z = true) (F : Ins Z h a C true) (hd : decode bytes pc = .ok (.instanceof ix, 3)) (pc' : Nat) (hp : pc + 3 = pc')
    (K : ∀ T', St p l e R s m args below meth c own bytes maxL ret nm Z EL nw us bs T' h cells slots → Goes p e below s Z EL nw Q kk nn (T'.setTop (mkF m pc' Ls (.int 1 :: st)))) : Goes p e below s Z EL nw Q kk nn (T.setTop (mkF m pc Ls (.ref a :: st))) := by
  subst hp
  obtain ⟨cx, vm0, locs, Y, N, eT, hS, hZ, hown, r⟩ := X
  obtain ⟨T', Y', e', stp⟩ := instY Y cx.1 hZ hown w eT F (g := mkF m pc Ls (.ref a :: st)) rfl rfl (hb cx.2.1 hd)
  exact (K T' ⟨cx, vm0, locs, Y', N, e', hS, hZ, hown, r⟩).step stp
theorem g_instNo (X : St p l e R s m args below meth c own bytes maxL ret nm Z EL nw us bs T h cells slots) {C D : String} {ix : Nat} {a : Addr} (w : (Jvm.Cond.classLink own ix D).before a0 Z = true) (E : Exa Z h a C) (F : ∃ c t, Z.vm.findClass C = some c ∧ Z.vm.findClass D = some t ∧ Z.vm.assignable c t = false) (hd : decode bytes pc = .ok (.instanceof ix, 3)) (pc' : Nat) (hp : pc + 3 = pc')
    (K : ∀ T', St p l e R s m args below meth c own bytes maxL ret nm Z EL nw us bs T' h cells slots → Goes p e below s Z EL nw Q kk nn (T'.setTop (mkF m pc' Ls (.int 0 :: st)))) : Goes p e below s Z EL nw Q kk nn (T.setTop (mkF m pc Ls (.ref a :: st))) := by
  subst hp
  obtain ⟨cx, vm0, locs, Y, N, eT, hS, hZ, hown, r⟩ := X
  obtain ⟨T', Y', e', stp⟩ := instNo Y cx.1 hZ hown w eT E F (g := mkF m pc Ls (.ref a :: st)) rfl rfl (hb cx.2.1 hd)
  exact (K T' ⟨cx, vm0, locs, Y', N, e', hS, hZ, hown, r⟩).step stp
/-- 'new': the new object is under construction -/
theorem g_new (X : St p l e R s m args below meth c own bytes maxL ret nm Z EL nw us bs T h cells slots) {C : String} {ix k : Nat} (w : (Jvm.Cond.classLink own ix C).before a0 Z = true) (wi : (Jvm.Cond.instantiable C k).before a0 Z = true) (wz : (Jvm.Cond.initialized C).before a0 Z = true)
    (hd : decode bytes pc = .ok (.new ix, 3)) {ck cs : Nat} (hck : cells + 1 = ck) (hcs : slots + k = cs) (hc : ck ≤ R.cells) (hl : cs ≤ R.slots) (pc' : Nat) (hp : pc + 3 = pc')
    (K : ∀ a T' h', a = h.size → St p l e R s m args below meth c own bytes maxL ret nm Z EL nw (a :: us) bs T' h' ck cs → Ext h h' → Exa Z h' a C →
      (∀ {O n d : String} {ty : FieldType}, Laid Z a0 C O n d → parseFieldDescriptor d = some ty → Fld Z h' a O n d (defaultValue ty)) → Goes p e below s Z EL nw Q kk nn (T'.setTop (mkF m pc' Ls (.ref a :: st)))) : Goes p e below s Z EL nw Q kk nn (T.setTop (mkF m pc Ls st)) := by
  subst hp hck hcs
  obtain ⟨cx, vm0, locs, Y, N, eT, hS, hZ, hown, hE, hC, hU, hW⟩ := X
  obtain ⟨T', h', Y', e', E, A, D, -, stp⟩ := newO Y cx.1 hZ hown w wi wz eT (g := mkF m pc Ls st) rfl (hb cx.2.1 hd) hc hl
  refine (K h.size T' h' rfl ⟨cx, vm0, locs, Y', N, e', ⟨hS.1, hS.2.mono E.1⟩, hZ, hown, hE.trans E, hC.trans (CHr.ext E hC.1), ?_, hW⟩ E A (fun L q => D L q)).step stp
  intro x hx
  rcases List.mem_cons.mp hx with rfl | hx
  · exact ⟨hE.1, A.lt, Safe.ext E hC.1 (Safe.new (Nat.le_refl _))⟩
  · obtain ⟨q1, q2, q3⟩ := hU x hx
    exact ⟨q1, Nat.lt_of_lt_of_le q2 E.1, Safe.ext E hC.1 q3⟩
/-- an array of a primitive kind, new -/
theorem g_newP (X : St p l e R s m args below meth c own bytes maxL ret nm Z EL nw us bs T h cells slots) {aty : ArrayType} {z : Int32} (w : (Jvm.Cond.arrayClass (newarray.typeOf aty)).before a0 Z = true) (hd : decode bytes pc = .ok (.newarray aty, 2)) (hn : ¬ z < 0) (cap : Nat) (hcap : z.toNatClampNeg ≤ cap) (hb' : cap * 8 ≤ 536870912)
    {ck cs : Nat} (hck : cells + 1 = ck) (hcs : slots + cap = cs) (hc : ck ≤ R.cells) (hl : cs ≤ R.slots) (pc' : Nat) (hp : pc + 2 = pc')
    (K : ∀ a T' h' k, a = h.size → St p l e R s m args below meth c own bytes maxL ret nm Z EL nw (a :: us) bs T' h' ck cs → Ext h h' → Arv Z h' a k (newarray.typeOf aty) z [] (defaultValue (newarray.typeOf aty)) →
      Goes p e below s Z EL nw Q kk nn (T'.setTop (mkF m pc' Ls (.ref a :: st)))) : Goes p e below s Z EL nw Q kk nn (T.setTop (mkF m pc Ls (.int z :: st))) := by
  subst hp hck hcs
  obtain ⟨cx, vm0, locs, Y, N, eT, hS, hZ, hown, hE, hC, hU, hW⟩ := X
  obtain ⟨T', h', cA, Y', e', E, A, stp⟩ := newP Y cx.1 hZ w eT (g := mkF m pc Ls (.int z :: st)) rfl (hb cx.2.1 hd) rfl hn hcap hb' hc hl
  refine (K h.size T' h' cA rfl ⟨cx, vm0, locs, Y', N, e', ⟨hS.1, hS.2.mono E.1⟩, hZ, hown, hE.trans E, hC.trans (CHr.ext E hC.1), ?_, hW⟩ E (Arv.new A hn)).step stp
  intro x hx
  rcases List.mem_cons.mp hx with rfl | hx
  · exact ⟨hE.1, A.lt, Safe.ext E hC.1 (Safe.new (Nat.le_refl _))⟩
  · obtain ⟨q1, q2, q3⟩ := hU x hx
    exact ⟨q1, Nat.lt_of_lt_of_le q2 E.1, Safe.ext E hC.1 q3⟩
/-- a store's part that is common -/
theorem St.wrote {vm0 : Vm} {locs : List Loc} {T' : State} {h' : Heap} {a : Addr} {sl : Nat} {v : Value}
    (cx : p.tables.exec = Jvm.exec ∧ c.code = bytes ∧ c.maxLocals = maxL ∧ meth.sig.returnType = ret ∧ meth.name = nm ∧ meth.locks = false ∧ ∃ a0, EW Z a0 EL)
    (Y : Stand p l e R (s.setVm vm0) m args below meth c T' (locs ++ [⟨a, sl⟩]) cells slots) (N : Fr Z.heap.size locs) (eT : T'.heap = h') (hS : s.Since vm0 h.size) (hZ : Z.Warmed39 vm0) (hown : vm0.findClass own = some m.cls) (hE : Ext Z.heap h) (hC : CHr Z EL s.vm s.heap vm0 h)
    (hU : ∀ x ∈ us, Z.heap.size ≤ x ∧ x < h.size ∧ Safe Z EL vm0 h x) (hW : (nw = true → s.WarmedH vm0) ∧ ∀ q ∈ bs, Lit (s.setVm vm0) q.1 q.2.1 q.2.2) (W : Wr h h' a sl v) (ha : a ∈ us) : St p l e R s m args below meth c own bytes maxL ret nm Z EL nw us bs T' h' cells slots := by
  obtain ⟨q1, q2, q3⟩ := hU a ha
  refine ⟨cx, vm0, locs ++ [⟨a, sl⟩], Y, Fr.snoc Y N q1, eT, ⟨hS.1, hS.2.mono (Nat.le_of_eq W.size.symm)⟩, hZ, hown, ext_wr hE W q1, hC.trans (CHr.wr W q3 hC.1), fun x hx => ?_, hW⟩
  obtain ⟨r1, r2, r3⟩ := hU x hx
  exact ⟨r1, by rw [W.size]; exact r2, Safe.wr W q3 hC.1 r3⟩
theorem g_putF (X : St p l e R s m args below meth c own bytes maxL ret nm Z EL nw us bs T h cells slots) {R0 O n d host C : String} {ix k : Nat} {ty : FieldType} {a : Addr} {v old : Value} (w : (Jvm.Cond.fieldLink own ix R0 n d).before a0 Z = true ∨ (Jvm.Cond.fieldLinkNest own ix R0 n d host).before a0 Z = true) (via : Via Z R0 O n d) (F : Fld Z h a O n d old) (E : Exa Z h a C)
    (L : (Jvm.Cond.lays C O n d).before a0 Z = true ∨ ((Jvm.Cond.laysFinal C O n d).before a0 Z = true ∧ own = O ∧ nm = "<init>")) (wi : (Jvm.Cond.instantiable C k).before a0 Z = true) (hty : parseFieldDescriptor d = some ty) (hn : narrow ty v = v) (hf : fits ty v = true) (ha : a ∈ us)
    (hd : decode bytes pc = .ok (.putfield ix, 3)) (pc' : Nat) (hp : pc + 3 = pc')
    (K : ∀ T' h', St p l e R s m args below meth c own bytes maxL ret nm Z EL nw us bs T' h' cells slots → Wr h h' a (Jvm.RoadKit.slotOf Z O n d) v → Fld Z h' a O n d v → Exa Z h' a C → Goes p e below s Z EL nw Q kk nn (T'.setTop (mkF m pc' Ls st))) : Goes p e below s Z EL nw Q kk nn (T.setTop (mkF m pc Ls (v :: .ref a :: st))) := by
  subst hp
  obtain ⟨cx, vm0, locs, Y, N, eT, hS, hZ, hown, hE, hC, hU, hW⟩ := X
  have L' : (Jvm.Cond.lays C O n d).before a0 Z = true ∨ ((Jvm.Cond.laysFinal C O n d).before a0 Z = true ∧ own = O ∧ meth.name = "<init>") := by
    rcases L with L | ⟨L1, L2, L3⟩
    · exact Or.inl L
    · exact Or.inr ⟨L1, L2, by rw [cx.2.2.2.2.1]; exact L3⟩
  obtain ⟨T', h', Y', e', W, stp⟩ := putF Y cx.1 hZ hown w via eT F E L' wi hty hn hf (g := mkF m pc Ls (v :: .ref a :: st)) rfl rfl (hb cx.2.1 hd)
  exact (K T' h' (St.wrote cx Y' N e' hS hZ hown hE hC hU hW W ha) W (F.same W) (E.wr W)).step stp
theorem g_castore (X : St p l e R s m args below meth c own bytes maxL ret nm Z EL nw us bs T h cells slots) {a : Addr} {k : ClassId} {z j x : Int32} {vs : List Value} {dv : Value} (A : Arv Z h a k .char z vs dv) (i : Nat) (hj : j.toNatClampNeg = i) (hj0 : ¬ j < 0) (hz : j < z) (hi : i < vs.length) (w : Int32) (hw : nar .char x = w) (ha : a ∈ us)
    (hd : decode bytes pc = .ok (.castore, 1)) (pc' : Nat) (hp : pc + 1 = pc')
    (K : ∀ T' h', St p l e R s m args below meth c own bytes maxL ret nm Z EL nw us bs T' h' cells slots → Wr h h' a i (.int w) → Arv Z h' a k .char z (vs.set i (.int w)) dv → Goes p e below s Z EL nw Q kk nn (T'.setTop (mkF m pc' Ls st))) : Goes p e below s Z EL nw Q kk nn (T.setTop (mkF m pc Ls (.int x :: .int j :: .ref a :: st))) := by
  subst hp hj hw
  obtain ⟨cx, vm0, locs, Y, N, eT, hS, hZ, hown, hE, hC, hU, hW⟩ := X
  obtain ⟨cl, Ar, q1, Sz, q3, H, Gt⟩ := A
  obtain ⟨T', h', Y', e', W, stp⟩ := stC Y cx.1 hZ eT Ar (inb_of Sz ⟨hj0, hz⟩) (g := mkF m pc Ls (.int x :: .int j :: .ref a :: st)) rfl rfl (hb cx.2.1 hd)
  exact (K T' h' (St.wrote cx Y' N e' hS hZ hown hE hC hU hW W ha) W (Arv.set Ar q1 Sz q3 H Gt (fits_nar_char x) W _ rfl hi)).step stp
theorem g_bastore (X : St p l e R s m args below meth c own bytes maxL ret nm Z EL nw us bs T h cells slots) {a : Addr} {k : ClassId} {z j x : Int32} {vs : List Value} {dv : Value} (A : Arv Z h a k .byte z vs dv) (i : Nat) (hj : j.toNatClampNeg = i) (hj0 : ¬ j < 0) (hz : j < z) (hi : i < vs.length) (w : Int32) (hw : nar .byte x = w) (ha : a ∈ us)
    (hd : decode bytes pc = .ok (.bastore, 1)) (pc' : Nat) (hp : pc + 1 = pc')
    (K : ∀ T' h', St p l e R s m args below meth c own bytes maxL ret nm Z EL nw us bs T' h' cells slots → Wr h h' a i (.int w) → Arv Z h' a k .byte z (vs.set i (.int w)) dv → Goes p e below s Z EL nw Q kk nn (T'.setTop (mkF m pc' Ls st))) : Goes p e below s Z EL nw Q kk nn (T.setTop (mkF m pc Ls (.int x :: .int j :: .ref a :: st))) := by
  subst hp hj hw
  obtain ⟨cx, vm0, locs, Y, N, eT, hS, hZ, hown, hE, hC, hU, hW⟩ := X
  obtain ⟨cl, Ar, q1, Sz, q3, H, Gt⟩ := A
  obtain ⟨T', h', Y', e', W, stp⟩ := stB Y cx.1 hZ eT Ar (inb_of Sz ⟨hj0, hz⟩) (g := mkF m pc Ls (.int x :: .int j :: .ref a :: st)) rfl rfl (hb cx.2.1 hd)
  exact (K T' h' (St.wrote cx Y' N e' hS hZ hown hE hC hU hW W ha) W (Arv.set Ar q1 Sz q3 H Gt (fits_nar_byte x) W _ rfl hi)).step stp
theorem arrOf {vm0 : Vm} {cl : Cell} {ty : FieldType} (hZ : Z.Warmed39 vm0) (q : Z.isArrayOf cl ty) : (s.setVm vm0).isArrayOf cl ty := State.isArrayOf_alike (show Z.vm.Alike (s.setVm vm0).vm from hZ.alike) q
theorem g_arrlen (X : St p l e R s m args below meth c own bytes maxL ret nm Z EL nw us bs T h cells slots) {a : Addr} {k : ClassId} {ty : FieldType} {z : Int32} {vs : List Value} {dv : Value} (A : Arv Z h a k ty z vs dv) (hd : decode bytes pc = .ok (.arraylength, 1)) (pc' : Nat) (hp : pc + 1 = pc')
    (K : Goes p e below s Z EL nw Q kk nn (T.setTop (mkF m pc' Ls (.int z :: st)))) : Goes p e below s Z EL nw Q kk nn (T.setTop (mkF m pc Ls (.ref a :: st))) := by
  subst hp
  obtain ⟨cx, vm0, locs, Y, N, eT, hS, hZ, r⟩ := X
  obtain ⟨cl, Ar, q1, Sz, q3, H, Gt⟩ := A
  refine K.step fun t k => Y.arraylength cx.1 (cell := cl) (by rw [eT]; exact Ar.1) (arrOf hZ Ar.2.1) (g := mkF m pc Ls (.ref a :: st)) rfl rfl (hb cx.2.1 hd) t ?_
  rw [len_of Sz q3]; exact k
theorem g_caload (X : St p l e R s m args below meth c own bytes maxL ret nm Z EL nw us bs T h cells slots) {a : Addr} {k : ClassId} {z j : Int32} {vs : List Value} {dv : Value} (A : Arv Z h a k .char z vs dv) (hj0 : ¬ j < 0) (hz : j < z) (v : Value) (hv : vs.getD j.toNatClampNeg dv = v) (hd : decode bytes pc = .ok (.caload, 1)) (pc' : Nat) (hp : pc + 1 = pc')
    (K : Goes p e below s Z EL nw Q kk nn (T.setTop (mkF m pc' Ls (v :: st)))) : Goes p e below s Z EL nw Q kk nn (T.setTop (mkF m pc Ls (.int j :: .ref a :: st))) := by
  subst hp
  obtain ⟨cx, vm0, locs, Y, N, eT, hS, hZ, r⟩ := X
  obtain ⟨cl, Ar, q1, Sz, q3, H, Gt⟩ := A
  have hin := inb_of Sz ⟨hj0, hz⟩
  exact K.step fun t k => Y.caload cx.1 (cell := cl) (by rw [eT]; exact Ar.1) (arrOf hZ Ar.2.1) Ar.2.2 hin (H.at hin hv) (g := mkF m pc Ls (.int j :: .ref a :: st)) rfl rfl (hb cx.2.1 hd) t k
theorem g_baload (X : St p l e R s m args below meth c own bytes maxL ret nm Z EL nw us bs T h cells slots) {a : Addr} {k : ClassId} {z j : Int32} {vs : List Value} {dv : Value} (A : Arv Z h a k .byte z vs dv) (hj0 : ¬ j < 0) (hz : j < z) (v : Value) (hv : vs.getD j.toNatClampNeg dv = v) (hd : decode bytes pc = .ok (.baload, 1)) (pc' : Nat) (hp : pc + 1 = pc')
    (K : Goes p e below s Z EL nw Q kk nn (T.setTop (mkF m pc' Ls (v :: st)))) : Goes p e below s Z EL nw Q kk nn (T.setTop (mkF m pc Ls (.int j :: .ref a :: st))) := by
  subst hp
  obtain ⟨cx, vm0, locs, Y, N, eT, hS, hZ, r⟩ := X
  obtain ⟨cl, Ar, q1, Sz, q3, H, Gt⟩ := A
  have hin := inb_of Sz ⟨hj0, hz⟩
  exact K.step fun t k => Y.baloadBytes cx.1 (cell := cl) (by rw [eT]; exact Ar.1) (arrOf hZ Ar.2.1) Ar.2.2 hin (H.at hin hv) (g := mkF m pc Ls (.int j :: .ref a :: st)) rfl rfl (hb cx.2.1 hd) t k
theorem g_aaload (X : St p l e R s m args below meth c own bytes maxL ret nm Z EL nw us bs T h cells slots) {a : Addr} {k : ClassId} {ty : FieldType} {z j : Int32} {vs : List Value} {dv : Value} (A : Arv Z h a k ty z vs dv) (hty : ty.isReference = true) (hj0 : ¬ j < 0) (hz : j < z) (v : Value) (hv : vs.getD j.toNatClampNeg dv = v) (hd : decode bytes pc = .ok (.aaload, 1)) (pc' : Nat) (hp : pc + 1 = pc')
    (K : Goes p e below s Z EL nw Q kk nn (T.setTop (mkF m pc' Ls (v :: st)))) : Goes p e below s Z EL nw Q kk nn (T.setTop (mkF m pc Ls (.int j :: .ref a :: st))) := by
  subst hp
  obtain ⟨cx, vm0, locs, Y, N, eT, hS, hZ, r⟩ := X
  obtain ⟨cl, Ar, q1, Sz, q3, H, Gt⟩ := A
  have hin := inb_of Sz ⟨hj0, hz⟩
  exact K.step fun t k => Y.aaload cx.1 (cell := cl) (by rw [eT]; exact Ar.1) (arrOf hZ Ar.2.1) hty Ar.2.2 hin (H.at hin hv) (g := mkF m pc Ls (.int j :: .ref a :: st)) rfl rfl (hb cx.2.1 hd) t k
theorem g_aaloadA (X : St p l e R s m args below meth c own bytes maxL ret nm Z EL nw us bs T h cells slots) {a : Addr} {cl : Cell} {ty : FieldType} {j : Int32} (A : Arr Z h a cl ty) (hty : ty.isReference = true) (hin : ¬ (j < 0 ∨ cl.slots.size ≤ j.toNatClampNeg)) {v : Value} (hv : cl.slots[j.toNatClampNeg]? = some v) (hd : decode bytes pc = .ok (.aaload, 1)) (pc' : Nat) (hp : pc + 1 = pc')
    (K : Goes p e below s Z EL nw Q kk nn (T.setTop (mkF m pc' Ls (v :: st)))) : Goes p e below s Z EL nw Q kk nn (T.setTop (mkF m pc Ls (.int j :: .ref a :: st))) := by
  subst hp
  obtain ⟨cx, vm0, locs, Y, N, eT, hS, hZ, r⟩ := X
  exact K.step fun t k => Y.aaload cx.1 (cell := cl) (by rw [eT]; exact A.1) (arrOf hZ A.2.1) hty A.2.2 hin hv (g := mkF m pc Ls (.int j :: .ref a :: st)) rfl rfl (hb cx.2.1 hd) t k
/-- System.arraycopy between two arrays of one primitive kind -/
theorem g_arrcopy (X : St p l e R s m args below meth c own bytes maxL ret nm Z EL nw us bs T h cells slots) {ix : Nat} {a b : Addr} {k k' : ClassId} {ty : FieldType} {z z' sp dp nn0 : Int32} {vs vd : List Value} {dv dd : Value} (w1 : (Jvm.Cond.methodLink own ix Jvm.Stand.acN).before a0 Z = true) (w2 : (Jvm.Cond.native Jvm.Stand.acN).before a0 Z = true) (w3 : (Jvm.Cond.static Jvm.Stand.acN).before a0 Z = true) (w4 : (Jvm.Cond.initialized "java/lang/System").before a0 Z = true)
    (A : Arv Z h a k ty z vs dv) (B : Arv Z h b k' ty z' vd dd) (hty : refKind ty = false) (h1 : ¬ sp < 0) (h2 : ¬ dp < 0) (h3 : ¬ nn0 < 0) (h4 : sp.toNatClampNeg + nn0.toNatClampNeg ≤ z.toNatClampNeg) (h5 : dp.toNatClampNeg + nn0.toNatClampNeg ≤ z'.toNatClampNeg) (hl : dp.toNatClampNeg + nn0.toNatClampNeg ≤ vd.length)
    (vr : List Value) (hvr : vd.take dp.toNatClampNeg ++ ((List.range nn0.toNatClampNeg).map fun i => vs.getD (sp.toNatClampNeg + i) dv) ++ vd.drop (dp.toNatClampNeg + nn0.toNatClampNeg) = vr) (hb' : b ∈ us) (hsize : Ls.size = maxL) (hd : decode bytes pc = .ok (.invokestatic ix, 3))
    (hf : 1 ≤ R.frames) (W : Nat) (hW : (st.map fun v => v.category).sum ≤ W) (hlo : W + (nativeFrameWords "java/lang/System" "arraycopy" 5 + 11) ≤ R.locals) (pc' : Nat) (hp : pc + 3 = pc')
    (K : ∀ T' h', St p l e R s m args below meth c own bytes maxL ret nm Z EL nw us bs T' h' cells slots → Keep h h' [b] → Arv Z h' b k' ty z' vr dd → Goes p e below s Z EL nw Q kk nn (T'.setTop (mkF m pc' Ls st))) : Goes p e below s Z EL nw Q kk nn (T.setTop (mkF m pc Ls (.int nn0 :: .int dp :: .ref b :: .int sp :: .ref a :: st))) := by
  subst hp hvr
  obtain ⟨cx, vm0, locs, Y, N, eT, hS, hZ, hown, hE, hC, hU, hWn⟩ := X
  obtain ⟨u1, u2, u3⟩ := hU b hb'
  obtain ⟨T', h', L, Y', e', N', K', A', stp⟩ := cpA Y cx.1 hZ hown w1 w2 w3 w4 eT A B (Or.inl ⟨rfl, hty⟩) h1 h2 h3 h4 h5 rfl hl N u1 (g := mkF m pc Ls (.int nn0 :: .int dp :: .ref b :: .int sp :: .ref a :: st)) rfl (by rw [cx.2.2.1]; exact hsize) rfl (hb cx.2.1 hd) hf (W := W) (by show 2 * 0 + _ ≤ _; omega) hlo
  have hsf : ∀ x ∈ [b], Safe Z EL vm0 h x := fun x hx => by cases List.mem_singleton.mp hx; exact u3
  exact (K T' h' ⟨cx, vm0, L, Y', N', e', ⟨hS.1, hS.2.mono K'.1⟩, hZ, hown, ext_keep hE K' (fun x hx => by cases List.mem_singleton.mp hx; exact u1), hC.trans (CHr.keep K' hsf hC.1), fun x hx => ⟨(hU x hx).1, Nat.lt_of_lt_of_le (hU x hx).2.1 K'.1, Safe.keep K' hsf hC.1 (hU x hx).2.2⟩, hWn⟩ K' A').step stp
/-- Object's constructor -/
theorem g_initO (X : St p l e R s m args below meth c own bytes maxL ret nm Z EL nw us bs T h cells slots) {ix : Nat} {a : Addr} (w1 : (Jvm.Cond.methodLink own ix Lib.objectInit).before a0 Z = true) (w2 : (Jvm.Cond.instanceMethod Lib.objectInit).before a0 Z = true) (w3 : (Jvm.Cond.code Lib.objectInit ⟨#[0xb1]⟩ 1 none).before a0 Z = true) (hsize : Ls.size = maxL)
    (hd : decode bytes pc = .ok (.invokespecial ix, 3)) (hf : 1 ≤ R.frames) (W : Nat) (hW : (st.map fun v => v.category).sum ≤ W) (hl : W + 12 ≤ R.locals) (pc' : Nat) (hp : pc + 3 = pc')
    (K : ∀ T', St p l e R s m args below meth c own bytes maxL ret nm Z EL nw us bs T' h cells slots → Goes p e below s Z EL nw Q kk nn (T'.setTop (mkF m pc' Ls st))) : Goes p e below s Z EL nw Q kk nn (T.setTop (mkF m pc Ls (.ref a :: st))) := by
  subst hp
  obtain ⟨cx, vm0, locs, Y, N, eT, hS, hZ, hown, r⟩ := X
  obtain ⟨T', Y', e', stp⟩ := initO Y cx.1 hZ hown w1 w2 w3 eT (g := mkF m pc Ls (.ref a :: st)) rfl (by rw [cx.2.2.1]; exact hsize) rfl (hb cx.2.1 hd) hf (W := W) (by show 2 * 0 + _ ≤ _; omega) hl
  exact (K T' ⟨cx, vm0, locs, Y', N, e', hS, hZ, hown, r⟩).step stp
/-- an array's clone -/
theorem g_clone (X : St p l e R s m args below meth c own bytes maxL ret nm Z EL nw us bs T h cells slots) {ad : String} {ix : Nat} {a : Addr} {k : ClassId} {ty : FieldType} {z : Int32} {vs : List Value} {dv : Value}
    (w1 : (Jvm.Cond.methodLink own ix ⟨ad, "clone", "()Ljava/lang/Object;"⟩).before a0 Z = true) (w2 : (Jvm.Cond.sameMethod ad "java/lang/Object" "clone" "()Ljava/lang/Object;").before a0 Z = true) (w3 : (Jvm.Cond.native ⟨"java/lang/Object", "clone", "()Ljava/lang/Object;"⟩).before a0 Z = true)
    (w4 : (Jvm.Cond.instanceMethod ⟨"java/lang/Object", "clone", "()Ljava/lang/Object;"⟩).before a0 Z = true) (w5 : (Jvm.Cond.selects ad ⟨ad, "clone", "()Ljava/lang/Object;"⟩ ⟨"java/lang/Object", "clone", "()Ljava/lang/Object;"⟩).before a0 Z = true) (w6 : (Jvm.Cond.castable ad "java/lang/Cloneable").before a0 Z = true)
    (A : Arv Z h a k ty z vs dv) (E : Exa Z h a ad) (hsize : Ls.size = maxL) (hd : decode bytes pc = .ok (.invokevirtual ix, 3)) (hf : 1 ≤ R.frames) (W : Nat) (hW : (st.map fun v => v.category).sum ≤ W) (hl : W + 14 ≤ R.locals) (cap : Nat) (hcap : z.toNatClampNeg ≤ cap)
    {ck cs : Nat} (hck : cells + 1 = ck) (hcs : slots + cap = cs) (hc : ck ≤ R.cells) (hs : cs ≤ R.slots) (pc' : Nat) (hp : pc + 3 = pc')
    (K : ∀ a' T' h', a' = h.size → St p l e R s m args below meth c own bytes maxL ret nm Z EL nw (a' :: us) bs T' h' ck cs → Ext h h' → Arv Z h' a' k ty z vs dv → Exa Z h' a' ad → Goes p e below s Z EL nw Q kk nn (T'.setTop (mkF m pc' Ls (.ref a' :: st)))) : Goes p e below s Z EL nw Q kk nn (T.setTop (mkF m pc Ls (.ref a :: st))) := by
  subst hp hck hcs
  obtain ⟨cx, vm0, locs, Y, N, eT, hS, hZ, hown, hE, hC, hU, hWn⟩ := X
  obtain ⟨T', h', Y', e', Ex, A', E', stp⟩ := cloneH Y cx.1 hZ hown w1 w2 w3 w4 w5 w6 eT A.arh E (g := mkF m pc Ls (.ref a :: st)) rfl (by rw [cx.2.2.1]; exact hsize) rfl (hb cx.2.1 hd) hf (W := W) (by show 2 * 0 + _ ≤ _; omega) hl hcap hc hs
  obtain ⟨cl, q1, q2, q3, q4, q5, q6⟩ := A'
  refine (K h.size T' h' rfl ⟨cx, vm0, locs, Y', N, e', ⟨hS.1, hS.2.mono Ex.1⟩, hZ, hown, hE.trans Ex, hC.trans (CHr.ext Ex hC.1), ?_, hWn⟩ Ex ⟨cl, q1, q2, q3, q4, fun i hi => q5 i hi, fun i hi => q6 i hi⟩ E').step stp
  intro x hx
  rcases List.mem_cons.mp hx with rfl | hx
  · exact ⟨hE.1, E'.lt, Safe.ext Ex hC.1 (Safe.new (Nat.le_refl _))⟩
  · obtain ⟨q1, q2, q3⟩ := hU x hx
    exact ⟨q1, Nat.lt_of_lt_of_le q2 Ex.1, Safe.ext Ex hC.1 q3⟩
end HeapOps
section CallOps
variable {p : Program} {l : Launch} {e : Env} {R : Room} {s : State} {m : MethodId} {args : Array Value} {below : List Frame} {meth : Method} {c : Code}
  {own : String} {bytes : ByteArray} {maxL : Nat} {ret : Option FieldType} {nm : String} {Z : State} {EL : List (String × Nat)} {nw : Bool} {us : List Addr} {bs : List (String × Nat × Addr)}
  {T : State} {h : Heap} {cells slots : Nat} {Q : Option Value → Heap → Prop} {kk nn : Nat} {a0 : Array Value} {pc : Nat} {Ls : Array Slot} {st : List Value}

/-- who pays a call: the callee's contract -/
theorem backC {y : MethodName} {cb : ByteArray} {cm : Nat} {cr : Option FieldType} {rm : Room} {len W : Nat} {as' : Array Value} {us' : List Addr} {Qc : Option Value → Heap → Prop} {vm0 : Vm}
    (hM : Ctr l Z EL nw y cb cm cr rm as' h us' Qc) (hZ : Z.Warmed39 vm0) (wc : (Jvm.Cond.code y cb cm cr).before a0 Z = true) (wz : (Jvm.Cond.initialized y.cls).before a0 Z = true) (hf : rm.frames + 1 ≤ R.frames) (hl : W + (cm + 11) + rm.locals ≤ R.locals)
    {a1 : Array Value} (hEL : EW Z a1 EL) (hE : Ext Z.heap h) (H : CHv Z EL vm0 h) (hU : ∀ x ∈ us', Z.heap.size ≤ x ∧ x < h.size ∧ Safe Z EL vm0 h x) :
    BackS l R p e below (s.setVm vm0) args y len W (fun A a => a = as' ∧ A.U.heap = h ∧ A.cells + rm.cells ≤ R.cells ∧ A.slots + rm.slots ≤ R.slots)
      (fun A _ v B => ∃ L, Qc v B.U.heap ∧ Fr Z.heap.size L ∧ Ext Z.heap B.U.heap ∧ B.locs = A.locs ++ L ∧ B.cells = A.cells + rm.cells ∧ B.slots = A.slots + rm.slots ∧ CHr Z EL vm0 h B.U.vm B.U.heap ∧ (nw = true → (s.setVm vm0).WarmedH B.U.vm)) :=
  BackS.of_freeW (bytes := cb) (maxL := cm) (ret := cr)
    (E := fun _ first o t L k n => k = rm.cells ∧ n = rm.slots ∧ (∃ v, o = .returned v ∧ Qc v t.heap) ∧ Fr Z.heap.size L ∧ Ext Z.heap t.heap ∧ CHr Z EL first.vm first.heap t.vm t.heap ∧ (nw = true → first.WarmedH t.vm)) (hM []) hf hl
    (fun m meth c A a Y hp => have hU : Z.Warmed39 A.U.vm := wtrans (s := s.setVm vm0) hZ Y.warmed
      ⟨by show (Jvm.Cond.and _ .tt).before a A.U = true; rw [Jvm.Cond.before_and, mv hU wc]; rfl, mv hU wc, mv hU wz, hp.2.2.1, hp.2.2.2⟩)
    (fun m meth c A a g mk Y hp => ⟨hp.1, wtrans (s := s.setVm vm0) hZ Y.warmed, hp.2.1, hE, (CHv.at Y hZ hEL H).1, fun x hx => ⟨(hU x hx).1, (hU x hx).2.1, (CHv.at Y hZ hEL H).safe (hU x hx).2.1 (hU x hx).2.2⟩⟩) (fun _ _ _ _ _ _ _ _ _ => trivial)
    (fun _ _ _ _ ⟨v, L, h1, h2, h3, h4, h5, h6, h7⟩ => ⟨L, _, _, h6, rfl, rfl, ⟨v, h1, h2⟩, h3, h4, h5, h7⟩)
    (fun m meth c A a g mk v t L k n Y hp _ _ ⟨e1, e2, ⟨v', e3, e4⟩, e5, e6, e7, e8⟩ => by
      cases e3; subst e1 e2
      refine ⟨L, e4, e5, e6, rfl, rfl, rfl, (CHv.at Y hZ hEL H).trans ?_, fun q => State.WarmedH.trans (t := A.U) Y.warmed (e8 q)⟩
      rw [← hp.2.1]; exact e7)
/-- behind a call -/
theorem St.back {vm0 : Vm} {locs : List Loc} {B : Pt} {L : List Loc} {ck cs : Nat}
    (cx : p.tables.exec = Jvm.exec ∧ c.code = bytes ∧ c.maxLocals = maxL ∧ meth.sig.returnType = ret ∧ meth.name = nm ∧ meth.locks = false ∧ ∃ a0, EW Z a0 EL)
    (N : Fr Z.heap.size locs) (hS : s.Since vm0 h.size) (hZ : Z.Warmed39 vm0) (hown : vm0.findClass own = some m.cls) (hC : CHr Z EL s.vm s.heap vm0 h)
    (hU : ∀ x ∈ us, Z.heap.size ≤ x ∧ x < h.size ∧ Safe Z EL vm0 h x) (hW : (nw = true → s.WarmedH vm0) ∧ ∀ q ∈ bs, Lit (s.setVm vm0) q.1 q.2.1 q.2.2)
    (Y : Stand p l e R ((s.setVm vm0).setVm B.U.vm) m args below meth c B.U B.locs B.cells B.slots) (h2 : (s.setVm vm0).Since B.U.vm B.U.heap.size) (hg : h.size ≤ B.U.heap.size)
    (N' : Fr Z.heap.size L) (hE : Ext Z.heap B.U.heap) (l1 : B.locs = locs ++ L) (l2 : B.cells = ck) (l3 : B.slots = cs) (hC' : CHr Z EL vm0 h B.U.vm B.U.heap) (hW' : nw = true → (s.setVm vm0).WarmedH B.U.vm) :
    St p l e R s m args below meth c own bytes maxL ret nm Z EL nw us bs B.U B.U.heap ck cs := by
  subst l2 l3
  rw [l1] at Y
  exact ⟨cx, B.U.vm, locs ++ L, Y, N.app N', rfl, hS.trans h2 hg, State.Warmed39.trans hZ h2.1, (h2.1.alike.findClass _ _).trans hown, hE, hC.trans hC', fun x hx => ⟨(hU x hx).1, Nat.lt_of_lt_of_le (hU x hx).2.1 hg, hC'.safe (hU x hx).2.1 (hU x hx).2.2⟩, fun q => State.WarmedH.trans (t := s.setVm vm0) (hW.1 q) (hW' q), fun q hq => (hW.2 q hq).stays h2.1⟩
theorem g_callS (X : St p l e R s m args below meth c own bytes maxL ret nm Z EL nw us bs T h cells slots) {y : MethodName} {cb : ByteArray} {cm : Nat} {cr : Option FieldType} {rm : Room} {as' : Array Value} {us' : List Addr} {Qc : Option Value → Heap → Prop} {ix : Nat}
    (w1 : (Jvm.Cond.methodLink own ix y).before a0 Z = true) (w2 : (Jvm.Cond.static y).before a0 Z = true) (w3 : (Jvm.Cond.initialized y.cls).before a0 Z = true) (w4 : (Jvm.Cond.code y cb cm cr).before a0 Z = true)
    (hy : y.cls ≠ "java/lang/invoke/MethodHandle" ∧ y.cls ≠ "java/lang/invoke/VarHandle") (hM : Ctr l Z EL nw y cb cm cr rm as' h us' Qc) (hus : ∀ x ∈ us', x ∈ us)
    {argsL rest : List Value} {ps : List FieldType} {rt : Option FieldType} (hpd : parseMethodDescriptor y.desc = some ⟨ps, rt⟩) (hlen : argsL.length = ps.length) (has : argsL.toArray = as') (hst : st = argsL.reverse ++ rest) (hsize : Ls.size = maxL)
    (W : Nat) (hW : (rest.map fun v => v.category).sum ≤ W) (hf : rm.frames + 1 ≤ R.frames) (hl : W + (cm + 11) + rm.locals ≤ R.locals) {ck cs : Nat} (hck : cells + rm.cells = ck) (hcs : slots + rm.slots = cs) (hc : ck ≤ R.cells) (hs : cs ≤ R.slots)
    (hd : decode bytes pc = .ok (.invokestatic ix, 3)) (pc' : Nat) (hp : pc + 3 = pc')
    (K : ∀ v T' h', St p l e R s m args below meth c own bytes maxL ret nm Z EL nw us bs T' h' ck cs → Qc v h' → Goes p e below s Z EL nw Q kk nn (T'.setTop (mkF m pc' Ls (v.toList ++ rest)))) : Goes p e below s Z EL nw Q kk nn (T.setTop (mkF m pc Ls st)) := by
  subst hp hck hcs
  obtain ⟨cx, vm0, locs, Y, N, eT, hS, hZ, hown, hE, hC, hU, hWn⟩ := X
  obtain ⟨a1, hEL⟩ := cx.2.2.2.2.2.2
  have w4' := mvT (s := s.setVm vm0) (args := args) hZ w4
  obtain ⟨mk, hnamed⟩ := Jvm.Cond.code_named w4'
  obtain ⟨methM, cM, hmethM, -, -, -, -, -, -, hsigM⟩ := Jvm.Cond.code_spec hnamed w4'
  obtain ⟨v, vm₁, B, -, Y', h2, hg, ⟨L, q1, q2, q3, q4, q5, q6, q7, q8⟩, stp⟩ := Y.staticBackS cx.1 (own := own) (index := ix) (y := y) hown (mvT (s := s.setVm vm0) hZ w1) (mvT (s := s.setVm vm0) hZ w2) (mvT (s := s.setVm vm0) hZ w3) hnamed hmethM hsigM hy
    (backC (W := W) hM hZ w4 w3 hf hl hEL hE hC.1 fun x hx => hU x (hus x hx)) (g := mkF m pc Ls st) rfl (by rw [cx.2.2.1]; exact hsize) (Steps.refl _) (argsL := argsL) (rest := rest) (lenOf hpd hlen) hst (by show 2 * 0 + _ ≤ _; omega) (hb cx.2.1 hd)
    (fun _ _ => ⟨has, eT, hc, hs⟩)
  exact (K v B.U B.U.heap (St.back cx N hS hZ hown hC hU hWn Y' h2 (by rw [← eT]; exact hg) q2 q3 q4 q5 q6 q7 q8) q1).step fun t k => stp.trans k
theorem g_callI (X : St p l e R s m args below meth c own bytes maxL ret nm Z EL nw us bs T h cells slots) {y : MethodName} {cb : ByteArray} {cm : Nat} {rm : Room} {as' : Array Value} {us' : List Addr} {Qc : Option Value → Heap → Prop} {ix : Nat} (hy1 : y.name = "<init>")
    (w1 : (Jvm.Cond.methodLink own ix y).before a0 Z = true) (w2 : (Jvm.Cond.instanceMethod y).before a0 Z = true) (w3 : (Jvm.Cond.initialized y.cls).before a0 Z = true) (w4 : (Jvm.Cond.code y cb cm none).before a0 Z = true)
    (hy : y.cls ≠ "java/lang/invoke/MethodHandle" ∧ y.cls ≠ "java/lang/invoke/VarHandle") (hM : Ctr l Z EL nw y cb cm none rm as' h us' Qc) (hus : ∀ x ∈ us', x ∈ us)
    {a : Addr} {argsL rest : List Value} {ps : List FieldType} {rt : Option FieldType} (hpd : parseMethodDescriptor y.desc = some ⟨ps, rt⟩) (hlen : argsL.length = ps.length) (has : (.ref a :: argsL).toArray = as') (hst : st = argsL.reverse ++ .ref a :: rest) (hsize : Ls.size = maxL)
    (W : Nat) (hW : (rest.map fun v => v.category).sum ≤ W) (hf : rm.frames + 1 ≤ R.frames) (hl : W + (cm + 11) + rm.locals ≤ R.locals) {ck cs : Nat} (hck : cells + rm.cells = ck) (hcs : slots + rm.slots = cs) (hc : ck ≤ R.cells) (hs : cs ≤ R.slots)
    (hd : decode bytes pc = .ok (.invokespecial ix, 3)) (pc' : Nat) (hp : pc + 3 = pc')
    (K : ∀ v T' h', St p l e R s m args below meth c own bytes maxL ret nm Z EL nw us bs T' h' ck cs → Qc v h' → Goes p e below s Z EL nw Q kk nn (T'.setTop (mkF m pc' Ls (v.toList ++ rest)))) : Goes p e below s Z EL nw Q kk nn (T.setTop (mkF m pc Ls st)) := by
  subst hp hck hcs
  obtain ⟨cx, vm0, locs, Y, N, eT, hS, hZ, hown, hE, hC, hU, hWn⟩ := X
  obtain ⟨a1, hEL⟩ := cx.2.2.2.2.2.2
  obtain ⟨v, vm₁, B, -, Y', h2, hg, ⟨L, q1, q2, q3, q4, q5, q6, q7, q8⟩, stp⟩ := Y.specialBackS cx.1 (own := own) (index := ix) (y := y) hy1 hown (mvT (s := s.setVm vm0) hZ w1) (mvT (s := s.setVm vm0) hZ w2) (mvT (s := s.setVm vm0) hZ w4) hy
    (backC (W := W) hM hZ w4 w3 hf hl hEL hE hC.1 fun x hx => hU x (hus x hx)) (g := mkF m pc Ls st) rfl (by rw [cx.2.2.1]; exact hsize) (Steps.refl _) (a := a) (argsL := argsL) (rest := rest) (lenOf hpd hlen) hst (by show 2 * 0 + _ ≤ _; omega) (hb cx.2.1 hd)
    (fun _ _ => ⟨has, eT, hc, hs⟩)
  exact (K v B.U B.U.heap (St.back cx N hS hZ hown hC hU hWn Y' h2 (by rw [← eT]; exact hg) q2 q3 q4 q5 q6 q7 q8) q1).step fun t k => stp.trans k
theorem nfSel {C : String} {y : MethodName} (w : (Jvm.Cond.selects C y y).before a0 Z = true) : ∀ s' : State, Z.Warmed39 s'.vm → NotFace s' y := fun s' hZ => notFace_of_selects (args := #[]) (mvT (s := s') hZ w)
theorem g_callV (X : St p l e R s m args below meth c own bytes maxL ret nm Z EL nw us bs T h cells slots) {C : String} {y z : MethodName} {cb : ByteArray} {cm : Nat} {cr : Option FieldType} {rm : Room} {as' : Array Value} {us' : List Addr} {Qc : Option Value → Heap → Prop} {ix : Nat}
    (w1 : (Jvm.Cond.methodLink own ix y).before a0 Z = true) (w2 : (Jvm.Cond.declares y).before a0 Z = true) (w3 : (Jvm.Cond.selects C y z).before a0 Z = true) (w4 : (Jvm.Cond.instanceMethod z).before a0 Z = true) (w5 : (Jvm.Cond.initialized z.cls).before a0 Z = true) (w6 : (Jvm.Cond.code z cb cm cr).before a0 Z = true)
    (hnf : ∀ s' : State, Z.Warmed39 s'.vm → NotFace s' y) (hy : y.cls ≠ "java/lang/invoke/MethodHandle" ∧ y.cls ≠ "java/lang/invoke/VarHandle") {a : Addr} (Ex : Exa Z h a C) (hM : Ctr l Z EL nw z cb cm cr rm as' h us' Qc) (hus : ∀ x ∈ us', x ∈ us)
    {argsL rest : List Value} {ps : List FieldType} {rt : Option FieldType} (hpd : parseMethodDescriptor y.desc = some ⟨ps, rt⟩) (hlen : argsL.length = ps.length) (has : (.ref a :: argsL).toArray = as') (hst : st = argsL.reverse ++ .ref a :: rest) (hsize : Ls.size = maxL)
    (W : Nat) (hW : (rest.map fun v => v.category).sum ≤ W) (hf : rm.frames + 1 ≤ R.frames) (hl : W + (cm + 11) + rm.locals ≤ R.locals) {ck cs : Nat} (hck : cells + rm.cells = ck) (hcs : slots + rm.slots = cs) (hc : ck ≤ R.cells) (hs : cs ≤ R.slots)
    (hd : decode bytes pc = .ok (.invokevirtual ix, 3)) (pc' : Nat) (hp : pc + 3 = pc')
    (K : ∀ v T' h', St p l e R s m args below meth c own bytes maxL ret nm Z EL nw us bs T' h' ck cs → Qc v h' → Goes p e below s Z EL nw Q kk nn (T'.setTop (mkF m pc' Ls (v.toList ++ rest)))) : Goes p e below s Z EL nw Q kk nn (T.setTop (mkF m pc Ls st)) := by
  subst hp hck hcs
  obtain ⟨cx, vm0, locs, Y, N, eT, hS, hZ, hown, hE, hC, hU, hWn⟩ := X
  obtain ⟨a1, hEL⟩ := cx.2.2.2.2.2.2
  obtain ⟨cq, kq, qa, qb, qc⟩ := isOf (s := s.setVm vm0) hZ eT Ex
  obtain ⟨v, vm₁, B, -, Y', h2, hg, ⟨L, q1, q2, q3, q4, q5, q6, q7, q8⟩, stp⟩ := Y.virtualBackS cx.1 (own := own) (index := ix) (y := y) (z := z) hown (mvT (s := s.setVm vm0) hZ w1) (mvT (s := s.setVm vm0) hZ w2) (hnf (s.setVm vm0) hZ) (mvT (s := s.setVm vm0) hZ w3) (mvT (s := s.setVm vm0) hZ w4) hy
    (backC (W := W) hM hZ w6 w5 hf hl hEL hE hC.1 fun x hx => hU x (hus x hx)) qa qc (g := mkF m pc Ls st) rfl (by rw [cx.2.2.1]; exact hsize) (Steps.refl _) (argsL := argsL) (rest := rest) (lenOf hpd hlen) hst (by show 2 * 0 + _ ≤ _; omega) (hb cx.2.1 hd)
    (fun _ _ => ⟨has, eT, hc, hs⟩)
  exact (K v B.U B.U.heap (St.back cx N hS hZ hown hC hU hWn Y' h2 (by rw [← eT]; exact hg) q2 q3 q4 q5 q6 q7 q8) q1).step fun t k => stp.trans k
theorem g_callSp (X : St p l e R s m args below meth c own bytes maxL ret nm Z EL nw us bs T h cells slots) {y : MethodName} {cb : ByteArray} {cm : Nat} {cr : Option FieldType} {rm : Room} {as' : Array Value} {us' : List Addr} {Qv : Value → Prop} {ix : Nat}
    (w1 : (Jvm.Cond.methodLink own ix y).before a0 Z = true) (w2 : (Jvm.Cond.static y).before a0 Z = true) (w3 : (Jvm.Cond.initialized y.cls).before a0 Z = true) (w4 : (Jvm.Cond.code y cb cm cr).before a0 Z = true)
    (hy : y.cls ≠ "java/lang/invoke/MethodHandle" ∧ y.cls ≠ "java/lang/invoke/VarHandle") (hM : Ctr l Z EL nw y cb cm cr rm as' h us' (PureQ h Qv)) (hus : ∀ x ∈ us', x ∈ us)
    {argsL rest : List Value} {ps : List FieldType} {rt : Option FieldType} (hpd : parseMethodDescriptor y.desc = some ⟨ps, rt⟩) (hlen : argsL.length = ps.length) (has : argsL.toArray = as') (hst : st = argsL.reverse ++ rest) (hsize : Ls.size = maxL)
    (W : Nat) (hW : (rest.map fun v => v.category).sum ≤ W) (hf : rm.frames + 1 ≤ R.frames) (hl : W + (cm + 11) + rm.locals ≤ R.locals) {ck cs : Nat} (hck : cells + rm.cells = ck) (hcs : slots + rm.slots = cs) (hc : ck ≤ R.cells) (hs : cs ≤ R.slots)
    (hd : decode bytes pc = .ok (.invokestatic ix, 3)) (pc' : Nat) (hp : pc + 3 = pc')
    (K : ∀ w T', St p l e R s m args below meth c own bytes maxL ret nm Z EL nw us bs T' h ck cs → Qv w → Goes p e below s Z EL nw Q kk nn (T'.setTop (mkF m pc' Ls (w :: rest)))) : Goes p e below s Z EL nw Q kk nn (T.setTop (mkF m pc Ls st)) :=
  g_callS X w1 w2 w3 w4 hy hM hus hpd hlen has hst hsize W hW hf hl hck hcs hc hs hd pc' hp (by
    intro v T' h' X' hq
    obtain ⟨rfl, w, rfl, hw⟩ := hq
    exact K w T' X' hw)
theorem g_callSv (X : St p l e R s m args below meth c own bytes maxL ret nm Z EL nw us bs T h cells slots) {y : MethodName} {cb : ByteArray} {cm : Nat} {cr : Option FieldType} {rm : Room} {as' : Array Value} {us' : List Addr} {Qv : Value → Heap → Prop} {ix : Nat}
    (w1 : (Jvm.Cond.methodLink own ix y).before a0 Z = true) (w2 : (Jvm.Cond.static y).before a0 Z = true) (w3 : (Jvm.Cond.initialized y.cls).before a0 Z = true) (w4 : (Jvm.Cond.code y cb cm cr).before a0 Z = true)
    (hy : y.cls ≠ "java/lang/invoke/MethodHandle" ∧ y.cls ≠ "java/lang/invoke/VarHandle") (hM : Ctr l Z EL nw y cb cm cr rm as' h us' (ValQ Qv)) (hus : ∀ x ∈ us', x ∈ us)
    {argsL rest : List Value} {ps : List FieldType} {rt : Option FieldType} (hpd : parseMethodDescriptor y.desc = some ⟨ps, rt⟩) (hlen : argsL.length = ps.length) (has : argsL.toArray = as') (hst : st = argsL.reverse ++ rest) (hsize : Ls.size = maxL)
    (W : Nat) (hW : (rest.map fun v => v.category).sum ≤ W) (hf : rm.frames + 1 ≤ R.frames) (hl : W + (cm + 11) + rm.locals ≤ R.locals) {ck cs : Nat} (hck : cells + rm.cells = ck) (hcs : slots + rm.slots = cs) (hc : ck ≤ R.cells) (hs : cs ≤ R.slots)
    (hd : decode bytes pc = .ok (.invokestatic ix, 3)) (pc' : Nat) (hp : pc + 3 = pc')
    (K : ∀ w T' h', St p l e R s m args below meth c own bytes maxL ret nm Z EL nw us bs T' h' ck cs → Qv w h' → Goes p e below s Z EL nw Q kk nn (T'.setTop (mkF m pc' Ls (w :: rest)))) : Goes p e below s Z EL nw Q kk nn (T.setTop (mkF m pc Ls st)) :=
  g_callS X w1 w2 w3 w4 hy hM hus hpd hlen has hst hsize W hW hf hl hck hcs hc hs hd pc' hp (by
    intro v T' h' X' hq
    obtain ⟨w, rfl, hw⟩ := hq
    exact K w T' h' X' hw)
theorem g_callSn (X : St p l e R s m args below meth c own bytes maxL ret nm Z EL nw us bs T h cells slots) {y : MethodName} {cb : ByteArray} {cm : Nat} {cr : Option FieldType} {rm : Room} {as' : Array Value} {us' : List Addr} {Qn : Heap → Prop} {ix : Nat}
    (w1 : (Jvm.Cond.methodLink own ix y).before a0 Z = true) (w2 : (Jvm.Cond.static y).before a0 Z = true) (w3 : (Jvm.Cond.initialized y.cls).before a0 Z = true) (w4 : (Jvm.Cond.code y cb cm cr).before a0 Z = true)
    (hy : y.cls ≠ "java/lang/invoke/MethodHandle" ∧ y.cls ≠ "java/lang/invoke/VarHandle") (hM : Ctr l Z EL nw y cb cm cr rm as' h us' (VoidQ Qn)) (hus : ∀ x ∈ us', x ∈ us)
    {argsL rest : List Value} {ps : List FieldType} {rt : Option FieldType} (hpd : parseMethodDescriptor y.desc = some ⟨ps, rt⟩) (hlen : argsL.length = ps.length) (has : argsL.toArray = as') (hst : st = argsL.reverse ++ rest) (hsize : Ls.size = maxL)
    (W : Nat) (hW : (rest.map fun v => v.category).sum ≤ W) (hf : rm.frames + 1 ≤ R.frames) (hl : W + (cm + 11) + rm.locals ≤ R.locals) {ck cs : Nat} (hck : cells + rm.cells = ck) (hcs : slots + rm.slots = cs) (hc : ck ≤ R.cells) (hs : cs ≤ R.slots)
    (hd : decode bytes pc = .ok (.invokestatic ix, 3)) (pc' : Nat) (hp : pc + 3 = pc')
    (K : ∀ T' h', St p l e R s m args below meth c own bytes maxL ret nm Z EL nw us bs T' h' ck cs → Qn h' → Goes p e below s Z EL nw Q kk nn (T'.setTop (mkF m pc' Ls rest))) : Goes p e below s Z EL nw Q kk nn (T.setTop (mkF m pc Ls st)) :=
  g_callS X w1 w2 w3 w4 hy hM hus hpd hlen has hst hsize W hW hf hl hck hcs hc hs hd pc' hp (by
    intro v T' h' X' hq
    obtain ⟨rfl, hw⟩ := hq
    exact K T' h' X' hw)
theorem g_callIn (X : St p l e R s m args below meth c own bytes maxL ret nm Z EL nw us bs T h cells slots) {y : MethodName} {cb : ByteArray} {cm : Nat} {rm : Room} {as' : Array Value} {us' : List Addr} {Qn : Heap → Prop} {ix : Nat} (hy1 : y.name = "<init>")
    (w1 : (Jvm.Cond.methodLink own ix y).before a0 Z = true) (w2 : (Jvm.Cond.instanceMethod y).before a0 Z = true) (w3 : (Jvm.Cond.initialized y.cls).before a0 Z = true) (w4 : (Jvm.Cond.code y cb cm none).before a0 Z = true)
    (hy : y.cls ≠ "java/lang/invoke/MethodHandle" ∧ y.cls ≠ "java/lang/invoke/VarHandle") (hM : Ctr l Z EL nw y cb cm none rm as' h us' (VoidQ Qn)) (hus : ∀ x ∈ us', x ∈ us)
    {a : Addr} {argsL rest : List Value} {ps : List FieldType} {rt : Option FieldType} (hpd : parseMethodDescriptor y.desc = some ⟨ps, rt⟩) (hlen : argsL.length = ps.length) (has : (.ref a :: argsL).toArray = as') (hst : st = argsL.reverse ++ .ref a :: rest) (hsize : Ls.size = maxL)
    (W : Nat) (hW : (rest.map fun v => v.category).sum ≤ W) (hf : rm.frames + 1 ≤ R.frames) (hl : W + (cm + 11) + rm.locals ≤ R.locals) {ck cs : Nat} (hck : cells + rm.cells = ck) (hcs : slots + rm.slots = cs) (hc : ck ≤ R.cells) (hs : cs ≤ R.slots)
    (hd : decode bytes pc = .ok (.invokespecial ix, 3)) (pc' : Nat) (hp : pc + 3 = pc')
    (K : ∀ T' h', St p l e R s m args below meth c own bytes maxL ret nm Z EL nw us bs T' h' ck cs → Qn h' → Goes p e below s Z EL nw Q kk nn (T'.setTop (mkF m pc' Ls rest))) : Goes p e below s Z EL nw Q kk nn (T.setTop (mkF m pc Ls st)) :=
  g_callI X hy1 w1 w2 w3 w4 hy hM hus hpd hlen has hst hsize W hW hf hl hck hcs hc hs hd pc' hp (by
    intro v T' h' X' hq
    obtain ⟨rfl, hw⟩ := hq
    exact K T' h' X' hw)
theorem g_callVp (X : St p l e R s m args below meth c own bytes maxL ret nm Z EL nw us bs T h cells slots) {C : String} {y z : MethodName} {cb : ByteArray} {cm : Nat} {cr : Option FieldType} {rm : Room} {as' : Array Value} {us' : List Addr} {Qv : Value → Prop} {ix : Nat}
    (w1 : (Jvm.Cond.methodLink own ix y).before a0 Z = true) (w2 : (Jvm.Cond.declares y).before a0 Z = true) (w3 : (Jvm.Cond.selects C y z).before a0 Z = true) (w4 : (Jvm.Cond.instanceMethod z).before a0 Z = true) (w5 : (Jvm.Cond.initialized z.cls).before a0 Z = true) (w6 : (Jvm.Cond.code z cb cm cr).before a0 Z = true)
    (hnf : ∀ s' : State, Z.Warmed39 s'.vm → NotFace s' y) (hy : y.cls ≠ "java/lang/invoke/MethodHandle" ∧ y.cls ≠ "java/lang/invoke/VarHandle") {a : Addr} (Ex : Exa Z h a C) (hM : Ctr l Z EL nw z cb cm cr rm as' h us' (PureQ h Qv)) (hus : ∀ x ∈ us', x ∈ us)
    {argsL rest : List Value} {ps : List FieldType} {rt : Option FieldType} (hpd : parseMethodDescriptor y.desc = some ⟨ps, rt⟩) (hlen : argsL.length = ps.length) (has : (.ref a :: argsL).toArray = as') (hst : st = argsL.reverse ++ .ref a :: rest) (hsize : Ls.size = maxL)
    (W : Nat) (hW : (rest.map fun v => v.category).sum ≤ W) (hf : rm.frames + 1 ≤ R.frames) (hl : W + (cm + 11) + rm.locals ≤ R.locals) {ck cs : Nat} (hck : cells + rm.cells = ck) (hcs : slots + rm.slots = cs) (hc : ck ≤ R.cells) (hs : cs ≤ R.slots)
    (hd : decode bytes pc = .ok (.invokevirtual ix, 3)) (pc' : Nat) (hp : pc + 3 = pc')
    (K : ∀ w T', St p l e R s m args below meth c own bytes maxL ret nm Z EL nw us bs T' h ck cs → Qv w → Goes p e below s Z EL nw Q kk nn (T'.setTop (mkF m pc' Ls (w :: rest)))) : Goes p e below s Z EL nw Q kk nn (T.setTop (mkF m pc Ls st)) :=
  g_callV X w1 w2 w3 w4 w5 w6 hnf hy Ex hM hus hpd hlen has hst hsize W hW hf hl hck hcs hc hs hd pc' hp (by
    intro v T' h' X' hq
    obtain ⟨rfl, w, rfl, hw⟩ := hq
    exact K w T' X' hw)
theorem g_callVv (X : St p l e R s m args below meth c own bytes maxL ret nm Z EL nw us bs T h cells slots) {C : String} {y z : MethodName} {cb : ByteArray} {cm : Nat} {cr : Option FieldType} {rm : Room} {as' : Array Value} {us' : List Addr} {Qv : Value → Heap → Prop} {ix : Nat}
    (w1 : (Jvm.Cond.methodLink own ix y).before a0 Z = true) (w2 : (Jvm.Cond.declares y).before a0 Z = true) (w3 : (Jvm.Cond.selects C y z).before a0 Z = true) (w4 : (Jvm.Cond.instanceMethod z).before a0 Z = true) (w5 : (Jvm.Cond.initialized z.cls).before a0 Z = true) (w6 : (Jvm.Cond.code z cb cm cr).before a0 Z = true)
    (hnf : ∀ s' : State, Z.Warmed39 s'.vm → NotFace s' y) (hy : y.cls ≠ "java/lang/invoke/MethodHandle" ∧ y.cls ≠ "java/lang/invoke/VarHandle") {a : Addr} (Ex : Exa Z h a C) (hM : Ctr l Z EL nw z cb cm cr rm as' h us' (ValQ Qv)) (hus : ∀ x ∈ us', x ∈ us)
    {argsL rest : List Value} {ps : List FieldType} {rt : Option FieldType} (hpd : parseMethodDescriptor y.desc = some ⟨ps, rt⟩) (hlen : argsL.length = ps.length) (has : (.ref a :: argsL).toArray = as') (hst : st = argsL.reverse ++ .ref a :: rest) (hsize : Ls.size = maxL)
    (W : Nat) (hW : (rest.map fun v => v.category).sum ≤ W) (hf : rm.frames + 1 ≤ R.frames) (hl : W + (cm + 11) + rm.locals ≤ R.locals) {ck cs : Nat} (hck : cells + rm.cells = ck) (hcs : slots + rm.slots = cs) (hc : ck ≤ R.cells) (hs : cs ≤ R.slots)
    (hd : decode bytes pc = .ok (.invokevirtual ix, 3)) (pc' : Nat) (hp : pc + 3 = pc')
    (K : ∀ w T' h', St p l e R s m args below meth c own bytes maxL ret nm Z EL nw us bs T' h' ck cs → Qv w h' → Goes p e below s Z EL nw Q kk nn (T'.setTop (mkF m pc' Ls (w :: rest)))) : Goes p e below s Z EL nw Q kk nn (T.setTop (mkF m pc Ls st)) :=
  g_callV X w1 w2 w3 w4 w5 w6 hnf hy Ex hM hus hpd hlen has hst hsize W hW hf hl hck hcs hc hs hd pc' hp (by
    intro v T' h' X' hq
    obtain ⟨w, rfl, hw⟩ := hq
    exact K w T' h' X' hw)
theorem g_callVn (X : St p l e R s m args below meth c own bytes maxL ret nm Z EL nw us bs T h cells slots) {C : String} {y z : MethodName} {cb : ByteArray} {cm : Nat} {cr : Option FieldType} {rm : Room} {as' : Array Value} {us' : List Addr} {Qn : Heap → Prop} {ix : Nat}
    (w1 : (Jvm.Cond.methodLink own ix y).before a0 Z = true) (w2 : (Jvm.Cond.declares y).before a0 Z = true) (w3 : (Jvm.Cond.selects C y z).before a0 Z = true) (w4 : (Jvm.Cond.instanceMethod z).before a0 Z = true) (w5 : (Jvm.Cond.initialized z.cls).before a0 Z = true) (w6 : (Jvm.Cond.code z cb cm cr).before a0 Z = true)
    (hnf : ∀ s' : State, Z.Warmed39 s'.vm → NotFace s' y) (hy : y.cls ≠ "java/lang/invoke/MethodHandle" ∧ y.cls ≠ "java/lang/invoke/VarHandle") {a : Addr} (Ex : Exa Z h a C) (hM : Ctr l Z EL nw z cb cm cr rm as' h us' (VoidQ Qn)) (hus : ∀ x ∈ us', x ∈ us)
    {argsL rest : List Value} {ps : List FieldType} {rt : Option FieldType} (hpd : parseMethodDescriptor y.desc = some ⟨ps, rt⟩) (hlen : argsL.length = ps.length) (has : (.ref a :: argsL).toArray = as') (hst : st = argsL.reverse ++ .ref a :: rest) (hsize : Ls.size = maxL)
    (W : Nat) (hW : (rest.map fun v => v.category).sum ≤ W) (hf : rm.frames + 1 ≤ R.frames) (hl : W + (cm + 11) + rm.locals ≤ R.locals) {ck cs : Nat} (hck : cells + rm.cells = ck) (hcs : slots + rm.slots = cs) (hc : ck ≤ R.cells) (hs : cs ≤ R.slots)
    (hd : decode bytes pc = .ok (.invokevirtual ix, 3)) (pc' : Nat) (hp : pc + 3 = pc')
    (K : ∀ T' h', St p l e R s m args below meth c own bytes maxL ret nm Z EL nw us bs T' h' ck cs → Qn h' → Goes p e below s Z EL nw Q kk nn (T'.setTop (mkF m pc' Ls rest))) : Goes p e below s Z EL nw Q kk nn (T.setTop (mkF m pc Ls st)) :=
  g_callV X w1 w2 w3 w4 w5 w6 hnf hy Ex hM hus hpd hlen has hst hsize W hW hf hl hck hcs hc hs hd pc' hp (by
    intro v T' h' X' hq
    obtain ⟨rfl, hw⟩ := hq
    exact K T' h' X' hw)
end CallOps
end Jvm.OwnKit
namespace Jvm.OwnKit
open Sem ClassFile Op Lib Jvm.Stand Jvm.Free Jvm.LawKit Jvm.RoadKit
/-- a method's first frame, where every argument takes one local -/
theorem locals1 : ∀ (vs : List Value) (acc : Array Slot), (∀ v ∈ vs, v.category = 1) → vs.foldl (fun acc v => if v.category = 2 then (acc.push (.val v)).push .second else acc.push (.val v)) acc = acc ++ (vs.map Slot.val).toArray
  | [], acc, _ => by simp
  | v :: r, acc, h => by
    rw [List.foldl_cons, if_neg (by rw [h v (List.mem_cons_self ..)]; decide), locals1 r _ fun x hx => h x (List.mem_cons_of_mem _ hx)]
    simp
theorem entry1 (m : MethodId) (vs : List Value) (n : Nat) (hv : ∀ v ∈ vs, v.category = 1) {Ls : Array Slot} (e : (vs.map Slot.val ++ List.replicate (n - vs.length) Slot.unset).toArray = Ls) : entryFrame m vs.toArray n = mkF m 0 Ls [] := by
  have q : argsToLocals vs.toArray n = Ls := by
    rw [← e, argsToLocals, List.foldl_toArray, locals1 vs #[] hv]
    simp
  rw [entryFrame, q]
section StartFacts
variable {args : Array Value} {s : State} {t X F : Term} {a y : Addr}
theorem own_eqr (hF : F.eval args s none [] s = some (.ref y)) (h : (Jvm.Cond.eq X F).value args s none s [] = some true) : X.eval args s none [] s = some (.ref y) := by
  obtain ⟨x, y', e1, e2, k1, k2⟩ := cmp_v (Or.inl h)
  cases hF.symm.trans e2
  have hx : x.isRef = true := by cases x <;> simp_all [Jvm.Cond.value, Value.isRef]
  have q := gotT (eq_R e1 hF hx rfl) h
  rw [e1, q]
theorem own_fldI {C n d : String} {v : Int32} (ht : t.eval args s none [] s = some (.ref a)) (h : (Jvm.Cond.eq (.field t C n d) (.int v)).value args s none s [] = some true) : Fld s s.heap a C n d (.int v) := by
  have e := eqv_i (Term.int_eval v) h
  rw [fld_at ht] at e
  exact Fld.start e
theorem own_fld0 {C n d : String} (ht : t.eval args s none [] s = some (.ref a)) (h : (Jvm.Cond.eq (.field t C n d) .null).value args s none s [] = some true) : Fld s s.heap a C n d .null := by
  have e := null_v h
  rw [fld_at ht] at e
  exact Fld.start e
theorem own_fldR {C n d : String} {F : Term} (ht : t.eval args s none [] s = some (.ref a)) (hF : F.eval args s none [] s = some (.ref y)) (h : (Jvm.Cond.eq (.field t C n d) F).value args s none s [] = some true) : Fld s s.heap a C n d (.ref y) := by
  have e := own_eqr hF h
  rw [fld_at ht] at e
  exact Fld.start e
theorem own_len {cl : Cell} {ty : FieldType} {z : Int32} (A : Arr s s.heap a cl ty) (ht : t.eval args s none [] s = some (.ref a)) (h : (Jvm.Cond.eq (.length t) (.int z)).value args s none s [] = some true) : cl.slots.size < 2 ^ 31 ∧ cl.slots.size.toInt32 = z := by
  have e := eqv_i (Term.int_eval z) h
  have ha := Arr.fin (U := s) (Vm.Alike.refl _) A
  have e2 : (Term.length t).eval args s none [] s = if cl.slots.size < 2 ^ 31 then some (.int cl.slots.size.toInt32) else none := by simp [Term.eval, ht, ha]
  rw [e2] at e
  by_cases q : cl.slots.size < 2 ^ 31
  · rw [if_pos q] at e
    exact ⟨q, Value.int.inj (Option.some.inj e)⟩
  · rw [if_neg q] at e; cases e
theorem own_elem {cl : Cell} {ty : FieldType} {j : Int32} {F : Term} (A : Arr s s.heap a cl ty) (ht : t.eval args s none [] s = some (.ref a)) (hF : F.eval args s none [] s = some (.ref y)) (h : (Jvm.Cond.eq (.elem t (.int j)) F).value args s none s [] = some true) : cl.slots[j.toNatClampNeg]? = some (.ref y) :=
  (elem_in (own_eqr hF h) ht (Term.int_eval j) A.1).2
end StartFacts
end Jvm.OwnKit
namespace Jvm.OwnKit
open Sem ClassFile Op Lib Jvm.Stand Jvm.Free Jvm.LawKit Jvm.RoadKit
/-- a String of the signs cs (each 0 to 255), apart from what is under construction -/
def Str (Z : State) (h : Heap) (us : List Addr) (a : Addr) (cs : List Int32) : Prop :=
  ∃ (t : Addr) (kb : ClassId), Exa Z h a "java/lang/String" ∧ Fld Z h a "java/lang/String" "coder" "B" (.int 0) ∧ Fld Z h a "java/lang/String" "value" "[B" (.ref t) ∧
    Arv Z h t kb .byte (Int32.ofNat cs.length) ((cs.map fun c => c.toInt8.toInt32).map Value.int) (.int 0) ∧ (∀ c ∈ cs, ¬ c < 0 ∧ ¬ (255 : Int32) < c) ∧ cs.length ≤ 4000 ∧ ∀ x ∈ us, x ≠ a ∧ x ≠ t
section StrFacts
variable {Z : State} {h h' : Heap} {us us' ws : List Addr} {a b : Addr} {cs : List Int32} {sl : Nat} {v : Value}
theorem Str.ext (F : Str Z h us a cs) (E : Ext h h') : Str Z h' us a cs := by
  obtain ⟨t, kb, h1, h2, h3, h4, h5, h6, h7⟩ := F
  exact ⟨t, kb, h1.ext E, h2.ext E, h3.ext E, h4.ext E, h5, h6, h7⟩
theorem Str.keep (F : Str Z h us a cs) (K : Keep h h' ws) (q : ∀ x ∈ ws, x ∈ us) : Str Z h' us a cs := by
  obtain ⟨t, kb, h1, h2, h3, h4, h5, h6, h7⟩ := F
  have na : a ∉ ws := fun r => (h7 a (q a r)).1 rfl
  have nt : t ∉ ws := fun r => (h7 t (q t r)).2 rfl
  exact ⟨t, kb, h1.keep K, h2.keep K na, h3.keep K na, h4.keep K nt, h5, h6, h7⟩
theorem Str.wr (F : Str Z h us a cs) (W : Wr h h' b sl v) (q : b ∈ us) : Str Z h' us a cs := F.keep (Keep.of_wr W) (fun x hx => by cases List.mem_singleton.mp hx; exact q)
theorem Str.sub (F : Str Z h us a cs) (q : ∀ x ∈ us', x ∈ us) : Str Z h us' a cs := by
  obtain ⟨t, kb, h1, h2, h3, h4, h5, h6, h7⟩ := F
  exact ⟨t, kb, h1, h2, h3, h4, h5, h6, fun x hx => h7 x (q x hx)⟩
theorem Str.grow (F : Str Z h us a cs) (E : Ext h h') (q : b = h.size) : Str Z h' (b :: us) a cs := by
  obtain ⟨t, kb, h1, h2, h3, h4, h5, h6, h7⟩ := F
  refine ⟨t, kb, h1.ext E, h2.ext E, h3.ext E, h4.ext E, h5, h6, fun x hx => ?_⟩
  rcases List.mem_cons.mp hx with rfl | hx
  · subst q; exact ⟨Nat.ne_of_gt h1.lt, Nat.ne_of_gt h4.lt⟩
  · exact h7 x hx
theorem Str.exa (F : Str Z h us a cs) : Exa Z h a "java/lang/String" := by obtain ⟨t, kb, h1, -⟩ := F; exact h1
theorem Str.lt (F : Str Z h us a cs) : a < h.size := F.exa.lt
theorem Str.ne (F : Str Z h us a cs) {x : Addr} (q : x ∈ us) : x ≠ a := by obtain ⟨t, kb, h1, h2, h3, h4, h5, h6, h7⟩ := F; exact (h7 x q).1
theorem str_of {h0 : Heap} (q : ∃ (t : Addr) (kb : ClassId), Exa Z h' a "java/lang/String" ∧ Fld Z h' a "java/lang/String" "coder" "B" (.int 0) ∧ Fld Z h' a "java/lang/String" "value" "[B" (.ref t) ∧ Arv Z h' t kb .byte (Int32.ofNat cs.length) ((cs.map fun c => c.toInt8.toInt32).map Value.int) (.int 0) ∧ (∀ c ∈ cs, ¬ c < 0 ∧ ¬ (255 : Int32) < c) ∧ cs.length ≤ 4000 ∧ h.size ≤ t)
    (hx : ∀ x ∈ us, x < h0.size) (h1 : h0.size ≤ a) (h2 : h0.size ≤ h.size) : Str Z h' us a cs := by
  obtain ⟨t, kb, e1, e2, e3, e4, e5, e6, e7⟩ := q
  exact ⟨t, kb, e1, e2, e3, e4, e5, e6, fun x q => ⟨Nat.ne_of_lt (Nat.lt_of_lt_of_le (hx x q) h1), Nat.ne_of_lt (Nat.lt_of_lt_of_le (hx x q) (Nat.le_trans h2 e7))⟩⟩
theorem and255 (x : Int32) : ¬ (x &&& 255) < 0 ∧ ¬ (255 : Int32) < (x &&& 255) := by
  have h := c_and x 255 (by decide)
  rw [Int32.lt_iff_toInt_lt, Int32.lt_iff_toInt_lt]
  have h2 : (255 : Int32).toInt = 255 := by decide
  have h3 : (0 : Int32).toInt = 0 := by decide
  omega
theorem nar255 {c : Int32} (h : ¬ c < 0 ∧ ¬ (255 : Int32) < c) : nar .char c = c := by
  obtain ⟨h1, h2⟩ := h
  have q := c_i2c c
  rw [Int32.lt_iff_toInt_lt] at h1 h2
  have e2 : (255 : Int32).toInt = 255 := by decide
  have e3 : (0 : Int32).toInt = 0 := by decide
  have : c.toUInt32.toUInt16.toUInt32.toInt32.toInt = c.toInt := by omega
  exact Int32.toInt_inj.mp this
/-- made since the heap h0: apart from whatever stood there -/
def StrN (Z : State) (h0 h : Heap) (a : Addr) (cs : List Int32) : Prop :=
  ∃ (t : Addr) (kb : ClassId), Exa Z h a "java/lang/String" ∧ Fld Z h a "java/lang/String" "coder" "B" (.int 0) ∧ Fld Z h a "java/lang/String" "value" "[B" (.ref t) ∧
    Arv Z h t kb .byte (Int32.ofNat cs.length) ((cs.map fun c => c.toInt8.toInt32).map Value.int) (.int 0) ∧ (∀ c ∈ cs, ¬ c < 0 ∧ ¬ (255 : Int32) < c) ∧ cs.length ≤ 4000 ∧ h0.size ≤ a ∧ h0.size ≤ t
theorem StrN.str {h0 : Heap} (F : StrN Z h0 h a cs) (q : ∀ x ∈ us, x < h0.size) : Str Z h us a cs := by
  obtain ⟨t, kb, h1, h2, h3, h4, h5, h6, h7, h8⟩ := F
  exact ⟨t, kb, h1, h2, h3, h4, h5, h6, fun x hx => ⟨Nat.ne_of_lt (Nat.lt_of_lt_of_le (q x hx) h7), Nat.ne_of_lt (Nat.lt_of_lt_of_le (q x hx) h8)⟩⟩
end StrFacts
section StrOps
variable {p : Program} {l : Launch} {e : Env} {R : Room} {s : State} {m : MethodId} {args : Array Value} {below : List Frame} {meth : Method} {c : Code}
  {own : String} {bytes : ByteArray} {maxL : Nat} {ret : Option FieldType} {nm : String} {Z : State} {EL : List (String × Nat)} {nw : Bool} {us : List Addr} {bs : List (String × Nat × Addr)}
  {T : State} {h : Heap} {cells slots : Nat} {Q : Option Value → Heap → Prop} {kk nn : Nat} {a0 : Array Value} {pc : Nat} {Ls : Array Slot} {st : List Value}

theorem St.news (X : St p l e R s m args below meth c own bytes maxL ret nm Z EL nw us bs T h cells slots) : ∀ x ∈ us, x < h.size := fun x hx => (X.new hx).2
theorem lt_ofNat {n : Nat} (q : n ≤ 4000) : ¬ (Int32.ofNat n) < 0 ∧ (Int32.ofNat n).toNatClampNeg = n := by
  have h1 : (Int32.ofNat n).toInt = n := by rw [Int32.toInt_ofNat_of_lt]; omega
  exact ⟨by rw [Int32.lt_iff_toInt_lt, h1]; simp, by simp [Int32.toNatClampNeg, h1]⟩
/-- ldc of a String constant -/
theorem g_ldcS (X : St p l e R s m args below meth c own bytes maxL ret nm Z EL nw us bs T h cells slots) {ix : Nat} {text : String} {cs : List Int32} (hnw : nw = false) (w : (Jvm.Cond.stringLink own ix text).before a0 Z = true) (wS : ∀ a ∈ Bundle.stringAtoms, a.before a0 Z = true) (hmem : (own, ix) ∈ EL)
    (ht : (∀ c ∈ text.toList, c.toNat < 256) ∧ text.toList.map (fun c => Value.int (Jvm.Lit.byteI c.toNat.toUInt16)) = (cs.map fun c => c.toInt8.toInt32).map Value.int) (hcs : ∀ c ∈ cs, ¬ c < 0 ∧ ¬ (255 : Int32) < c) (hlen : cs.length ≤ 4000)
    (hd : decode bytes pc = .ok (.ldc ix, 2)) (n : Nat) (hn : 4 * text.toList.length ≤ n) (hbig : n ≤ 536870912) {ck cs' : Nat} (hck : cells + 2 = ck) (hcs' : slots + (n + 4) = cs') (hc : ck ≤ R.cells) (hl : cs' ≤ R.slots) (pc' : Nat) (hp : pc + 2 = pc')
    (K : ∀ a T' h', St p l e R s m args below meth c own bytes maxL ret nm Z EL nw us ((own, ix, a) :: bs) T' h' ck cs' → Ext h h' → Str Z h' us a cs → Goes p e below s Z EL nw Q kk nn (T'.setTop (mkF m pc' Ls (.ref a :: st)))) : Goes p e below s Z EL nw Q kk nn (T.setTop (mkF m pc Ls st)) := by
  subst hp hck hcs'
  obtain ⟨cx, vm0, locs, Y, N, eT, hS, hZ, hown, hE, hC, hU, hW⟩ := X
  obtain ⟨a1, hEL⟩ := cx.2.2.2.2.2.2
  have hl32 : ¬ (Int32.ofNat cs.length) < 0 ∧ (Int32.ofNat cs.length).toNatClampNeg = ((cs.map fun c => c.toInt8.toInt32).map Value.int).length := by
    have := lt_ofNat hlen; simpa using this
  obtain ⟨a, T', h', k1, b, k, Y', e', E, hS2, hk1, hZ', hown', q1, q2, q3, q4, q5, q6, hC', hLit, hsafe, stp⟩ := ldcCH (s := s.setVm vm0) Y cx.1 hZ hown w wS eT ((State.WarmedH.refl (s.setVm vm0)).since h.size) (Nat.le_refl _) hEL hmem hC.1 ht hl32.1 hl32.2 (g := mkF m pc Ls st) rfl (hb cx.2.1 hd) hn hbig hc hl
  have hU' : ∀ x ∈ us, Z.heap.size ≤ x ∧ x < h'.size ∧ Safe Z EL T'.vm h' x := fun x hx => ⟨(hU x hx).1, Nat.lt_of_lt_of_le (hU x hx).2.1 E.1, hC'.safe (hU x hx).2.1 (hU x hx).2.2⟩
  have hS3 : s.Since T'.vm h'.size := hS.trans ⟨hS2.1, hS2.2.mono hk1⟩ E.1
  have hB : ∀ q ∈ (own, ix, a) :: bs, Lit (s.setVm T'.vm) q.1 q.2.1 q.2.2 := fun q hq => by
    rcases List.mem_cons.mp hq with rfl | hq
    · exact hLit
    · exact (hW.2 q hq).stays hS2.1
  exact (K a T' h' ⟨cx, T'.vm, locs, Y', N, e', hS3, hZ', hown', hE.trans E, hC.trans hC', hU', (fun q => by rw [hnw] at q; cases q), hB⟩ E ⟨b, k, q1, q2, q3, q4, hcs, hlen, fun x hx => hsafe x (hU' x hx).2.2⟩).step stp
/-- ldc of a String constant that this walk has loaded -/
theorem g_ldcA (X : St p l e R s m args below meth c own bytes maxL ret nm Z EL nw us bs T h cells slots) {ix : Nat} {text : String} {a : Addr} (w : (Jvm.Cond.stringLink own ix text).before a0 Z = true) (hm : (own, ix, a) ∈ bs) (hd : decode bytes pc = .ok (.ldc ix, 2)) (pc' : Nat) (hp : pc + 2 = pc')
    (K : Goes p e below s Z EL nw Q kk nn (T.setTop (mkF m pc' Ls (.ref a :: st)))) : Goes p e below s Z EL nw Q kk nn (T.setTop (mkF m pc Ls st)) := by
  subst hp
  obtain ⟨cx, vm0, locs, Y, N, eT, hS, hZ, hown, hE, hC, hU, hW⟩ := X
  exact K.step (ldcAgain Y cx.1 hZ hown w (hW.2 _ hm) (g := mkF m pc Ls st) rfl (hb cx.2.1 hd))
end StrOps
end Jvm.OwnKit
namespace Jvm.OwnKit
open Sem ClassFile Op Lib Jvm.Stand Jvm.Free Jvm.LawKit Jvm.RoadKit
section Bytes
abbrev lo (c : Int32) : Int32 := c.toInt8.toInt32
abbrev bys (cs : List Int32) : List Value := (cs.map fun c => c.toInt8.toInt32).map Value.int
theorem i0 : (0 : Int32).toInt = 0 := by decide
theorem i255 : (255 : Int32).toInt = 255 := by decide
theorem lo_mask {c : Int32} (h : ¬ c < 0 ∧ ¬ (255 : Int32) < c) : lo c &&& 255 = c := by
  obtain ⟨h1, h2⟩ := h
  rw [Int32.lt_iff_toInt_lt, i0] at h1
  rw [Int32.lt_iff_toInt_lt, i255] at h2
  have q := c_i2b c
  have r := c_mask (lo c) 255 8 (by decide) (by decide)
  apply Int32.toInt_inj.mp
  rw [r]
  have e : ((2 ^ 8 : Nat) : Int) = 256 := by decide
  rw [e]; simp only [lo]; omega
theorem lo_inj {c d : Int32} (h : ¬ c < 0 ∧ ¬ (255 : Int32) < c) (h' : ¬ d < 0 ∧ ¬ (255 : Int32) < d) (e : lo c = lo d) : c = d := by rw [← lo_mask h, ← lo_mask h', e]
theorem of_toInt {n : Nat} (h : n ≤ 4000) : (Int32.ofNat n).toInt = n := by rw [Int32.toInt_ofNat_of_lt]; omega
theorem of_nat {n : Nat} (h : n ≤ 4000) : (Int32.ofNat n).toNatClampNeg = n := by simp [Int32.toNatClampNeg, of_toInt h]
theorem of_nn {n : Nat} (h : n ≤ 4000) : ¬ Int32.ofNat n < 0 := by rw [Int32.lt_iff_toInt_lt, of_toInt h, i0]; omega
theorem of_lt {i n : Nat} (h : i < n) (hn : n ≤ 4000) : Int32.ofNat i < Int32.ofNat n := by rw [Int32.lt_iff_toInt_lt, of_toInt hn, of_toInt (by omega)]; omega
theorem of_le {i n : Nat} (h : n ≤ i) (hn : i ≤ 4000) : ¬ Int32.ofNat i < Int32.ofNat n := by rw [Int32.lt_iff_toInt_lt, of_toInt hn, of_toInt (by omega)]; omega
theorem of_succ (i : Nat) : Int32.ofNat i + 1 = Int32.ofNat (i + 1) := by simp [Int32.ofNat_add]
theorem of_eq {i n : Nat} (hi : i ≤ 4000) (hn : n ≤ 4000) (e : Int32.ofNat i = Int32.ofNat n) : i = n := by
  have := congrArg Int32.toInt e; rw [of_toInt hi, of_toInt hn] at this; omega
theorem bys_at (cs : List Int32) (i : Nat) (h : i ≤ 4000) : (bys cs).getD (Int32.ofNat i).toNatClampNeg (.int 0) = .int (lo (cs.getD i 0)) := by
  rw [of_nat h]
  by_cases q : i < cs.length
  · simp [List.getD, q]
  · have e : cs.getD i 0 = 0 := by simp [List.getD, q]
    rw [e]
    simp [List.getD, q]
    decide
theorem shr0 (x : Int32) : x >>> ((0 : Int32) &&& 31) = x := by
  apply Int32.toInt_inj.mp
  rw [c_ishr x 0 0 (by decide)]
  simp
theorem take_eq {cs ds : List Int32} (hl : cs.length = ds.length) (h : cs.take cs.length = ds.take cs.length) : cs = ds := by
  rw [List.take_length] at h; rw [hl, List.take_length] at h; exact h
theorem take_more {cs ds : List Int32} {i : Nat} (hi : i < cs.length) (hj : i < ds.length) (h : cs.take i = ds.take i) (e : cs.getD i 0 = ds.getD i 0) : cs.take (i + 1) = ds.take (i + 1) := by
  simp only [List.getD, List.getElem?_eq_getElem hi, List.getElem?_eq_getElem hj, Option.getD_some] at e
  rw [List.take_succ_eq_append_getElem hi, List.take_succ_eq_append_getElem hj, h, e]
theorem mem_at {cs : List Int32} {i : Nat} (hi : i < cs.length) : cs.getD i 0 ∈ cs := by
  simp [List.getD, List.getElem?_eq_getElem hi]
theorem str_inj {Z : State} {h : Heap} {us us' : List Addr} {a b : Addr} {cs ds : List Int32} (F : Str Z h us a cs) (G : Str Z h us' b ds) (q : a = b) : cs = ds := by
  subst q
  obtain ⟨t, kb, -, -, f3, f4, f5, f6, -⟩ := F
  obtain ⟨u, kb', -, -, g3, g4, g5, g6, -⟩ := G
  have e : t = u := Classical.byContradiction fun n => (Fld.ne f3 g3 (fun r => n (Value.ref.inj r))) rfl
  subst e
  have hl : cs.length = ds.length := Classical.byContradiction fun n => (arv_ne f4 g4 (Or.inl (by rw [of_nat f6, of_nat g6]; exact n))) rfl
  refine List.ext_getElem hl fun i hi hj => ?_
  have e2 : (bys cs).getD i (.int 0) = (bys ds).getD i (.int 0) := Classical.byContradiction fun n => (arv_ne f4 g4 (Or.inr ⟨i, by rw [of_nat f6]; exact hi, n⟩)) rfl
  simp [List.getD, hi, hj] at e2
  exact lo_inj (f5 _ (List.getElem_mem hi)) (g5 _ (List.getElem_mem hj)) e2
end Bytes
end Jvm.OwnKit
namespace Jvm.OwnKit
open Sem ClassFile Op Lib Jvm.Stand Jvm.Free Jvm.LawKit Jvm.RoadKit
section SbFacts
def padB (cap : Nat) (cs : List Int32) : List Value := bys cs ++ List.replicate (cap - cs.length) (.int (0 : Int32))
theorem padB_len {cap : Nat} {cs : List Int32} (h : cs.length ≤ cap) : (padB cap cs).length = cap := by
  unfold padB
  rw [List.length_append, List.length_map, List.length_map, List.length_replicate]; omega
theorem of_add (n m : Nat) : Int32.ofNat n + Int32.ofNat m = Int32.ofNat (n + m) := by simp [Int32.ofNat_add]
theorem of_sub {n m : Nat} (h : m ≤ n) (hn : n ≤ 4000) : Int32.ofNat n - Int32.ofNat m = Int32.ofNat (n - m) := by
  apply Int32.toInt_inj.mp
  have q := c_isub (Int32.ofNat n) (Int32.ofNat m)
  have l1 := Int32.toInt_lt (Int32.ofNat n - Int32.ofNat m)
  have l2 := Int32.le_toInt (Int32.ofNat n - Int32.ofNat m)
  rw [of_toInt hn, of_toInt (by omega)] at q
  rw [of_toInt (by omega)]
  omega
theorem sub_le {k cap : Nat} (h : k ≤ cap) (hc : cap ≤ 4000) : ¬ (0 : Int32) < Int32.ofNat k - Int32.ofNat cap := by
  have q := c_isub (Int32.ofNat k) (Int32.ofNat cap)
  have l1 := Int32.toInt_lt (Int32.ofNat k - Int32.ofNat cap)
  have l2 := Int32.le_toInt (Int32.ofNat k - Int32.ofNat cap)
  rw [of_toInt hc, of_toInt (by omega)] at q
  rw [Int32.lt_iff_toInt_lt, i0]
  omega
theorem sub_gt {k cap : Nat} (h : cap < k) (hc : k ≤ 4000) : (0 : Int32) < Int32.ofNat k - Int32.ofNat cap := by
  rw [of_sub (by omega) hc, Int32.lt_iff_toInt_lt, i0, of_toInt (by omega)]; omega
theorem shl0 (x : Int32) : x <<< ((0 : Int32) &&& 31) = x := by
  apply Int32.toInt_inj.mp
  have q := c_ishl x 0 0 (by decide)
  have l1 := Int32.toInt_lt (x <<< ((0 : Int32) &&& 31))
  have l2 := Int32.le_toInt (x <<< ((0 : Int32) &&& 31))
  have l3 := Int32.toInt_lt x
  have l4 := Int32.le_toInt x
  have e : ((2 ^ 0 : Nat) : Int) = 1 := by decide
  rw [e] at q
  omega
theorem clamp0 : (0 : Int32).toNatClampNeg = 0 := by decide
theorem range_get (l l' : List Value) (d : Value) : (List.range l.length).map (fun i => (l ++ l').getD (0 + i) d) = l := by
  refine List.ext_getElem (by simp) fun i h1 h2 => ?_
  rw [List.getElem_map, List.getElem_range]
  simp only [Nat.zero_add, List.getD, List.getElem?_append_left h2, List.getElem?_eq_getElem h2, Option.getD_some]
theorem bys_len (cs : List Int32) : (bys cs).length = cs.length := by rw [List.length_map, List.length_map]
theorem bys_app (cs ds : List Int32) : bys (cs ++ ds) = bys cs ++ bys ds := by simp [bys]
theorem pad_put {cap : Nat} {cs ds : List Int32} (h : cs.length + ds.length ≤ cap) (hc : cap ≤ 4000) :
    (padB cap cs).take (Int32.ofNat cs.length).toNatClampNeg ++ ((List.range (Int32.ofNat ds.length).toNatClampNeg).map fun i => (bys ds).getD ((0 : Int32).toNatClampNeg + i) (.int (0 : Int32))) ++ (padB cap cs).drop ((Int32.ofNat cs.length).toNatClampNeg + (Int32.ofNat ds.length).toNatClampNeg) = padB cap (cs ++ ds) := by
  rw [of_nat (by omega), of_nat (by omega), clamp0]
  have r : (List.range ds.length).map (fun i => (bys ds).getD (0 + i) (.int (0 : Int32))) = bys ds := by
    have q := range_get (bys ds) [] (.int (0 : Int32))
    rw [List.append_nil, bys_len] at q
    exact q
  have t : (padB cap cs).take cs.length = bys cs := List.take_left' (bys_len cs)
  have d : (padB cap cs).drop (cs.length + ds.length) = List.replicate (cap - (cs ++ ds).length) (.int (0 : Int32)) := by
    unfold padB
    rw [List.drop_append, List.drop_eq_nil_of_le (by rw [bys_len]; omega), List.nil_append, List.drop_replicate, bys_len, List.length_append]
    congr 1
    omega
  rw [r, t, d, ← bys_app]; rfl
theorem pad_get {cap : Nat} {cs : List Int32} (h : cs.length ≤ cap) (hc : cap ≤ 4000) (n0 : Nat) (hn : n0 = cs.length) :
    (List.replicate n0 (Value.int (0 : Int32))).take (0 : Int32).toNatClampNeg ++ ((List.range (Int32.ofNat cs.length).toNatClampNeg).map fun i => (padB cap cs).getD ((0 : Int32).toNatClampNeg + i) (.int (0 : Int32))) ++ (List.replicate n0 (Value.int (0 : Int32))).drop ((0 : Int32).toNatClampNeg + (Int32.ofNat cs.length).toNatClampNeg) = bys cs := by
  subst hn
  rw [of_nat (by omega), clamp0]
  have r : (List.range cs.length).map (fun i => (padB cap cs).getD (0 + i) (.int (0 : Int32))) = bys cs := by
    have q := range_get (bys cs) (List.replicate (cap - cs.length) (.int (0 : Int32))) (.int (0 : Int32))
    rw [bys_len] at q
    exact q
  rw [r, List.take_zero, List.nil_append, List.drop_eq_nil_of_le (by rw [List.length_replicate]; omega), List.append_nil]
theorem of_big {n : Nat} {M : Int32} (h : n ≤ 4000) (hM : 4000 ≤ M.toInt) : ¬ M < Int32.ofNat n := by
  rw [Int32.lt_iff_toInt_lt, of_toInt h]; omega
theorem of_ne {n : Nat} {M : Int32} (h : n ≤ 4000) (hM : 4000 < M.toInt) : ¬ Int32.ofNat n = M := fun q => by
  have e := congrArg Int32.toInt q
  rw [of_toInt h] at e; omega
theorem pad_grow {cap cp : Nat} {cs : List Int32} (h : cs.length ≤ cap) (hc : cap ≤ cp) (hp : cp ≤ 4000) :
    (List.replicate cp (Value.int (0 : Int32))).take (0 : Int32).toNatClampNeg ++ ((List.range (Int32.ofNat cap).toNatClampNeg).map fun i => (padB cap cs).getD ((0 : Int32).toNatClampNeg + i) (.int (0 : Int32))) ++ (List.replicate cp (Value.int (0 : Int32))).drop ((0 : Int32).toNatClampNeg + (Int32.ofNat cap).toNatClampNeg) = padB cp cs := by
  rw [of_nat (by omega), clamp0]
  have r : (List.range cap).map (fun i => (padB cap cs).getD (0 + i) (.int (0 : Int32))) = padB cap cs := by
    have q := range_get (padB cap cs) [] (.int (0 : Int32))
    rw [List.append_nil, padB_len h] at q
    exact q
  rw [r, List.take_zero, List.nil_append, Nat.zero_add, List.drop_replicate]
  unfold padB
  rw [List.append_assoc, List.replicate_append_replicate]
  congr 2
  omega
/-- a StringBuilder of the signs cs (each 0 to 255), its array of cap bytes -/
def Sb (Z : State) (h : Heap) (a b : Addr) (kb : ClassId) (cap : Nat) (cs : List Int32) : Prop :=
  Exa Z h a "java/lang/StringBuilder" ∧ Fld Z h a "java/lang/AbstractStringBuilder" "coder" "B" (.int (0 : Int32)) ∧ Fld Z h a "java/lang/AbstractStringBuilder" "count" "I" (.int (Int32.ofNat cs.length)) ∧ Fld Z h a "java/lang/AbstractStringBuilder" "value" "[B" (.ref b) ∧
    Arv Z h b kb .byte (Int32.ofNat cap) (padB cap cs) (.int (0 : Int32)) ∧ (∀ c ∈ cs, ¬ c < 0 ∧ ¬ (255 : Int32) < c) ∧ cs.length ≤ cap ∧ cap ≤ 4000 ∧ a ≠ b
variable {Z : State} {h h' h0 : Heap} {us ws : List Addr} {a b : Addr} {kb : ClassId} {cap : Nat} {cs ds : List Int32}
theorem Sb.ext (F : Sb Z h a b kb cap cs) (E : Ext h h') : Sb Z h' a b kb cap cs := by
  obtain ⟨h1, h2, h3, h4, h5, r⟩ := F
  exact ⟨h1.ext E, h2.ext E, h3.ext E, h4.ext E, h5.ext E, r⟩
theorem Sb.keep (F : Sb Z h a b kb cap cs) (K : Keep h h' ws) (qa : a ∉ ws) (qb : b ∉ ws) : Sb Z h' a b kb cap cs := by
  obtain ⟨h1, h2, h3, h4, h5, r⟩ := F
  exact ⟨h1.keep K, h2.keep K qa, h3.keep K qa, h4.keep K qa, h5.keep K qb, r⟩
theorem Sb.lt (F : Sb Z h a b kb cap cs) : a < h.size := F.1.lt
theorem Sb.arv (F : Sb Z h a b kb cap cs) : Arv Z h b kb .byte (Int32.ofNat cap) (padB cap cs) (.int (0 : Int32)) := F.2.2.2.2.1
theorem ok_app (h1 : ∀ c ∈ cs, ¬ c < 0 ∧ ¬ (255 : Int32) < c) (h2 : ∀ c ∈ ds, ¬ c < 0 ∧ ¬ (255 : Int32) < c) : ∀ c ∈ cs ++ ds, ¬ c < 0 ∧ ¬ (255 : Int32) < c := fun c hc => (List.mem_append.mp hc).elim (h1 c) (h2 c)
theorem Str.growK (F : Str Z h us a cs) (K : Keep h h' ws) (q : ∀ x ∈ ws, x ∈ us) (hb : h.size ≤ b) : Str Z h' (b :: us) a cs := by
  have G := F.keep K q
  obtain ⟨t, kb, h1, h2, h3, h4, h5, h6, h7⟩ := F
  obtain ⟨t', kb', g1, g2, g3, g4, g5, g6, g7⟩ := G
  have e : t' = t := by
    have na : a ∉ ws := fun r => (h7 a (q a r)).1 rfl
    have g3' := h3.keep K na
    exact Classical.byContradiction fun n => (Fld.ne g3 g3' (fun r => n (Value.ref.inj r))) rfl
  subst e
  refine ⟨t', kb', g1, g2, g3, g4, g5, g6, fun x hx => ?_⟩
  rcases List.mem_cons.mp hx with rfl | hx
  · exact ⟨Nat.ne_of_gt (Nat.lt_of_lt_of_le h1.lt hb), Nat.ne_of_gt (Nat.lt_of_lt_of_le h4.lt hb)⟩
  · exact g7 x hx
theorem StrN.mono {h1 : Heap} (F : StrN Z h0 h a cs) (q : h1.size ≤ h0.size) : StrN Z h1 h a cs := by
  obtain ⟨t, kb, e1, e2, e3, e4, e5, e6, e7, e8⟩ := F
  exact ⟨t, kb, e1, e2, e3, e4, e5, e6, Nat.le_trans q e7, Nat.le_trans q e8⟩
theorem strN_of {h1 : Heap} (q : ∃ (t : Addr) (kb : ClassId), Exa Z h' a "java/lang/String" ∧ Fld Z h' a "java/lang/String" "coder" "B" (.int (0 : Int32)) ∧ Fld Z h' a "java/lang/String" "value" "[B" (.ref t) ∧ Arv Z h' t kb .byte (Int32.ofNat cs.length) (bys cs) (.int (0 : Int32)) ∧ (∀ c ∈ cs, ¬ c < 0 ∧ ¬ (255 : Int32) < c) ∧ cs.length ≤ 4000 ∧ h1.size ≤ t)
    (l1 : h0.size ≤ a) (l2 : h0.size ≤ h1.size) : StrN Z h0 h' a cs := by
  obtain ⟨t, kb, e1, e2, e3, e4, e5, e6, e7⟩ := q
  exact ⟨t, kb, e1, e2, e3, e4, e5, e6, l1, Nat.le_trans l2 e7⟩
end SbFacts
end Jvm.OwnKit
namespace Jvm.OwnKit
open Sem ClassFile Op Lib Jvm.Stand Jvm.Free Jvm.LawKit Jvm.RoadKit Bundle
section UpOps
variable {p : Program} {l : Launch} {e : Env} {R : Room} {s : State} {m : MethodId} {args : Array Value} {below : List Frame} {meth : Method} {c : Code}
  {own : String} {bytes : ByteArray} {maxL : Nat} {ret : Option FieldType} {nm : String} {Z : State} {EL : List (String × Nat)} {nw : Bool} {us : List Addr} {bs : List (String × Nat × Addr)}
  {T : State} {h : Heap} {cells slots : Nat} {Q : Option Value → Heap → Prop} {kk nn : Nat} {a0 : Array Value} {pc : Nat} {Ls : Array Slot} {st : List Value}

/-- an instance method with code is declared -/
theorem own_declares {y : MethodName} {cb : ByteArray} {cm : Nat} {cr : Option FieldType} (wi : (Jvm.Cond.instanceMethod y).before a0 Z = true) (wc : (Jvm.Cond.code y cb cm cr).before a0 Z = true) : (Jvm.Cond.declares y).before a0 Z = true := by
  obtain ⟨mk, methM, hnamed, hmethM, hst, -⟩ := Jvm.Cond.instanceMethod_spec wi
  obtain ⟨m2, cM, q1, -, -, -, -, -, -, hsig⟩ := Jvm.Cond.code_spec hnamed wc
  cases hmethM.symm.trans q1
  simp [Jvm.Cond.before, Jvm.Cond.holds, Jvm.Cond.value, hnamed, hmethM, hst, hsig]
/-- a class that declares a method itself finds it; it is no interface, since a call lands in it -/
theorem own_same {C : String} {y z : MethodName} (wi : (Jvm.Cond.instanceMethod y).before a0 Z = true) (ws : (Jvm.Cond.selects C z z).before a0 Z = true) (hz : z.cls = y.cls) (hy : y.cls ≠ "java/lang/invoke/MethodHandle" ∧ y.cls ≠ "java/lang/invoke/VarHandle") : (Jvm.Cond.sameMethod y.cls y.cls y.name y.desc).before a0 Z = true := by
  obtain ⟨mk, methM, hnamed, -⟩ := Jvm.Cond.instanceMethod_spec wi
  obtain ⟨c2, r2, m2, -, -, q3, -, kP, hkP, hkPi⟩ := Jvm.Cond.selects_spec ws
  have h1 := findClass_of_methodNamed q3
  have h2 := findClass_of_methodNamed hnamed
  rw [hz] at h1
  have e : m2.cls = mk.cls := Option.some.inj (h1.symm.trans h2)
  rw [e] at hkP
  have hf := State.methodFound?_of_named hnamed hy
  have hn' : Z.methodNamed? ⟨y.cls, y.name, y.desc⟩ = some mk := hnamed
  simp [Jvm.Cond.before, Jvm.Cond.holds, Jvm.Cond.value, h2, hf, hnamed, hn', hkP, hkPi]
theorem nfOf {C : String} {y z : MethodName} (ws : (Jvm.Cond.selects C z z).before a0 Z = true) (hz : z.cls = y.cls) : ∀ s' : State, Z.Warmed39 s'.vm → NotFace s' y := fun s' hZ r0 h0 => by
  obtain ⟨c2, r2, m2, -, -, q3, -, kP, hkP, hkPi⟩ := Jvm.Cond.selects_spec (mvT (s := s') (args := #[]) hZ ws)
  have h1 := findClass_of_methodNamed q3
  have h2 := findClass_of_methodNamed h0
  rw [hz] at h1
  have e : m2.cls = r0.cls := Option.some.inj (h1.symm.trans h2)
  exact ⟨kP, e ▸ hkP, hkPi⟩
/-- 'invokespecial' of a superclass's method (super.m(..)) by a contract -/
theorem g_callU (X : St p l e R s m args below meth c own bytes maxL ret nm Z EL nw us bs T h cells slots) {C : String} {y : MethodName} {cb : ByteArray} {cm : Nat} {cr : Option FieldType} {rm : Room} {as' : Array Value} {us' : List Addr} {Qc : Option Value → Heap → Prop} {ix : Nat} (hy1 : y.name ≠ "<init>")
    (w1 : (Jvm.Cond.methodLink own ix y).before a0 Z = true) (w2 : (Jvm.Cond.sameMethod y.cls y.cls y.name y.desc).before a0 Z = true) (w3 : (Jvm.Cond.instanceMethod y).before a0 Z = true) (w4 : (Jvm.Cond.superclass own y.cls).before a0 Z = true) (w5 : (Jvm.Cond.initialized y.cls).before a0 Z = true) (w6 : (Jvm.Cond.code y cb cm cr).before a0 Z = true)
    {a : Addr} (Ex : Exa Z h a C) (hM : Ctr l Z EL nw y cb cm cr rm as' h us' Qc) (hus : ∀ x ∈ us', x ∈ us)
    {argsL rest : List Value} {ps : List FieldType} {rt : Option FieldType} (hpd : parseMethodDescriptor y.desc = some ⟨ps, rt⟩) (hlen : argsL.length = ps.length) (has : (.ref a :: argsL).toArray = as') (hst : st = argsL.reverse ++ .ref a :: rest) (hsize : Ls.size = maxL)
    (W : Nat) (hW : (rest.map fun v => v.category).sum ≤ W) (hf : rm.frames + 1 ≤ R.frames) (hl : W + (cm + 11) + rm.locals ≤ R.locals) {ck cs : Nat} (hck : cells + rm.cells = ck) (hcs : slots + rm.slots = cs) (hc : ck ≤ R.cells) (hs : cs ≤ R.slots)
    (hd : decode bytes pc = .ok (.invokespecial ix, 3)) (pc' : Nat) (hp : pc + 3 = pc')
    (K : ∀ v T' h', St p l e R s m args below meth c own bytes maxL ret nm Z EL nw us bs T' h' ck cs → Qc v h' → Goes p e below s Z EL nw Q kk nn (T'.setTop (mkF m pc' Ls (v.toList ++ rest)))) : Goes p e below s Z EL nw Q kk nn (T.setTop (mkF m pc Ls st)) := by
  subst hp hck hcs
  obtain ⟨cx, vm0, locs, Y, N, eT, hS, hZ, hown, hE, hC, hU, hWn⟩ := X
  obtain ⟨a1, hEL⟩ := cx.2.2.2.2.2.2
  obtain ⟨v, vm₁, B, -, Y', h2, hg, ⟨L, q1, q2, q3, q4, q5, q6, q7, q8⟩, stp⟩ := superBackS (s := s.setVm vm0) Y cx.1 hZ (own := own) (index := ix) (y := y) hown w1 w2 w3 w4 hy1
    (backC (W := W) hM hZ w6 w5 hf hl hEL hE hC.1 fun x hx => hU x (hus x hx)) eT (Ins.self Ex) (g := mkF m pc Ls st) rfl (by rw [cx.2.2.1]; exact hsize) w6 (argsL := argsL) (rest := rest) (lenOf hpd hlen) hst (by show 2 * 0 + _ ≤ _; omega) (hb cx.2.1 hd)
    (fun _ _ => ⟨has, eT, hc, hs⟩)
  exact (K v B.U B.U.heap (St.back cx N hS hZ hown hC hU hWn Y' h2 (by rw [← eT]; exact hg) q2 q3 q4 q5 q6 q7 q8) q1).step fun t k => stp.trans k
theorem g_callUp (X : St p l e R s m args below meth c own bytes maxL ret nm Z EL nw us bs T h cells slots) {C : String} {y : MethodName} {cb : ByteArray} {cm : Nat} {cr : Option FieldType} {rm : Room} {as' : Array Value} {us' : List Addr} {Qv : Value → Prop} {ix : Nat} (hy1 : y.name ≠ "<init>")
    (w1 : (Jvm.Cond.methodLink own ix y).before a0 Z = true) (w2 : (Jvm.Cond.sameMethod y.cls y.cls y.name y.desc).before a0 Z = true) (w3 : (Jvm.Cond.instanceMethod y).before a0 Z = true) (w4 : (Jvm.Cond.superclass own y.cls).before a0 Z = true) (w5 : (Jvm.Cond.initialized y.cls).before a0 Z = true) (w6 : (Jvm.Cond.code y cb cm cr).before a0 Z = true)
    {a : Addr} (Ex : Exa Z h a C) (hM : Ctr l Z EL nw y cb cm cr rm as' h us' (PureQ h Qv)) (hus : ∀ x ∈ us', x ∈ us)
    {argsL rest : List Value} {ps : List FieldType} {rt : Option FieldType} (hpd : parseMethodDescriptor y.desc = some ⟨ps, rt⟩) (hlen : argsL.length = ps.length) (has : (.ref a :: argsL).toArray = as') (hst : st = argsL.reverse ++ .ref a :: rest) (hsize : Ls.size = maxL)
    (W : Nat) (hW : (rest.map fun v => v.category).sum ≤ W) (hf : rm.frames + 1 ≤ R.frames) (hl : W + (cm + 11) + rm.locals ≤ R.locals) {ck cs : Nat} (hck : cells + rm.cells = ck) (hcs : slots + rm.slots = cs) (hc : ck ≤ R.cells) (hs : cs ≤ R.slots)
    (hd : decode bytes pc = .ok (.invokespecial ix, 3)) (pc' : Nat) (hp : pc + 3 = pc')
    (K : ∀ w T', St p l e R s m args below meth c own bytes maxL ret nm Z EL nw us bs T' h ck cs → Qv w → Goes p e below s Z EL nw Q kk nn (T'.setTop (mkF m pc' Ls (w :: rest)))) : Goes p e below s Z EL nw Q kk nn (T.setTop (mkF m pc Ls st)) :=
  g_callU X hy1 w1 w2 w3 w4 w5 w6 Ex hM hus hpd hlen has hst hsize W hW hf hl hck hcs hc hs hd pc' hp (by
    intro v T' h' X' hq
    obtain ⟨rfl, w, rfl, hw⟩ := hq
    exact K w T' X' hw)
theorem g_callUv (X : St p l e R s m args below meth c own bytes maxL ret nm Z EL nw us bs T h cells slots) {C : String} {y : MethodName} {cb : ByteArray} {cm : Nat} {cr : Option FieldType} {rm : Room} {as' : Array Value} {us' : List Addr} {Qv : Value → Heap → Prop} {ix : Nat} (hy1 : y.name ≠ "<init>")
    (w1 : (Jvm.Cond.methodLink own ix y).before a0 Z = true) (w2 : (Jvm.Cond.sameMethod y.cls y.cls y.name y.desc).before a0 Z = true) (w3 : (Jvm.Cond.instanceMethod y).before a0 Z = true) (w4 : (Jvm.Cond.superclass own y.cls).before a0 Z = true) (w5 : (Jvm.Cond.initialized y.cls).before a0 Z = true) (w6 : (Jvm.Cond.code y cb cm cr).before a0 Z = true)
    {a : Addr} (Ex : Exa Z h a C) (hM : Ctr l Z EL nw y cb cm cr rm as' h us' (ValQ Qv)) (hus : ∀ x ∈ us', x ∈ us)
    {argsL rest : List Value} {ps : List FieldType} {rt : Option FieldType} (hpd : parseMethodDescriptor y.desc = some ⟨ps, rt⟩) (hlen : argsL.length = ps.length) (has : (.ref a :: argsL).toArray = as') (hst : st = argsL.reverse ++ .ref a :: rest) (hsize : Ls.size = maxL)
    (W : Nat) (hW : (rest.map fun v => v.category).sum ≤ W) (hf : rm.frames + 1 ≤ R.frames) (hl : W + (cm + 11) + rm.locals ≤ R.locals) {ck cs : Nat} (hck : cells + rm.cells = ck) (hcs : slots + rm.slots = cs) (hc : ck ≤ R.cells) (hs : cs ≤ R.slots)
    (hd : decode bytes pc = .ok (.invokespecial ix, 3)) (pc' : Nat) (hp : pc + 3 = pc')
    (K : ∀ w T' h', St p l e R s m args below meth c own bytes maxL ret nm Z EL nw us bs T' h' ck cs → Qv w h' → Goes p e below s Z EL nw Q kk nn (T'.setTop (mkF m pc' Ls (w :: rest)))) : Goes p e below s Z EL nw Q kk nn (T.setTop (mkF m pc Ls st)) :=
  g_callU X hy1 w1 w2 w3 w4 w5 w6 Ex hM hus hpd hlen has hst hsize W hW hf hl hck hcs hc hs hd pc' hp (by
    intro v T' h' X' hq
    obtain ⟨w, rfl, hw⟩ := hq
    exact K w T' h' X' hw)
/-- a byte array whose length no constant's text has is no constant's array -/
theorem safe_len {vm : Vm} {x : Addr} {k : ClassId} {z : Int32} {vs : List Value} {dv : Value} (hZ : Z.Warmed39 vm) (w : ∀ p ∈ EL, ∃ text : String, (Jvm.Cond.stringLink p.1 p.2 text).before a0 Z = true ∧ (∀ c ∈ text.toList, c.toNat < 256) ∧ text.toList.length ≠ z.toNatClampNeg) (A : Arv Z h x k .byte z vs dv) : Safe Z EL vm h x := fun B => by
  have hal : Z.vm.Alike vm := hZ.alike
  obtain ⟨cl, ⟨A1, ⟨_, kA, hkA, compA, hkindA⟩, _⟩, _, hsz, _⟩ := A
  obtain ⟨kA', hkA', ekA⟩ := hal.2.2 _ _ hkA
  obtain ⟨p, hp, u, a, hb, q, hq, F, hy⟩ := B
  obtain ⟨text, wl, ht, hl⟩ := w p hp
  rcases hy with rfl | rfl
  · cases (show h[q.sa]? = some q.sC from F.ha).symm.trans A1
    obtain ⟨cS, ⟨-, -, e⟩, ⟨kS, g1, g2, -⟩, -⟩ := F
    subst e
    cases (show vm.classes[q.sC.cls]? = some kS from g1).symm.trans hkA'
    rw [ekA] at g2
    have := hkindA.symm.trans g2
    cases this
  · cases (show h[q.sd]? = some q.SA from F.hd).symm.trans A1
    obtain ⟨c, k', cf, i, hc', hk', hcf', hpool, hu, -⟩ := hb
    have wl' : (Jvm.Cond.stringLink p.1 p.2 text).before a0 (Wst Z vm h) = true := mvS (s := { Z with heap := h }) hZ wl
    obtain ⟨k2, cf0, i0, units0, hk, hcf, hp0, hu0, hnm, htext, -⟩ := Jvm.Cond.stringLink_spec (s := Wst Z vm h) hc' wl'
    cases hk'.symm.trans hk
    cases hcf'.symm.trans hcf
    cases hpool.symm.trans hp0
    cases hu.symm.trans hu0
    obtain ⟨cS, -, -, -, hbyt⟩ := F
    have hs2 : q.SA.slots.size = u.size := by rw [hbyt, Jvm.Free.SBG.stringBytes_lat (Jvm.ClassFile.lat_of_text htext ht), Array.size_map]
    have e2 : u.toList.length = text.toList.length := by rw [Jvm.ClassFile.units_of_text htext ht, List.length_map]
    rw [Array.length_toList] at e2
    exact hl (by rw [← e2, ← hs2]; exact hsz)
/-- an array that a callee has made may be written from now on -/
theorem St.add (X : St p l e R s m args below meth c own bytes maxL ret nm Z EL nw us bs T h cells slots) {b : Addr} {k : ClassId} {z : Int32} {vs : List Value} {dv : Value} (w : ∀ p ∈ EL, ∃ text : String, (Jvm.Cond.stringLink p.1 p.2 text).before a0 Z = true ∧ (∀ c ∈ text.toList, c.toNat < 256) ∧ text.toList.length ≠ z.toNatClampNeg) (A : Arv Z h b k .byte z vs dv) (hb' : Z.heap.size ≤ b) :
    St p l e R s m args below meth c own bytes maxL ret nm Z EL nw (b :: us) bs T h cells slots := by
  obtain ⟨cx, vm0, locs, Y, N, eT, hS, hZ, hown, hE, hC, hU, hWn⟩ := X
  refine ⟨cx, vm0, locs, Y, N, eT, hS, hZ, hown, hE, hC, ?_, hWn⟩
  intro x hx
  rcases List.mem_cons.mp hx with rfl | hx
  · exact ⟨hb', A.lt, safe_len hZ w A⟩
  · exact hU x hx
/-- an object of a class that is neither String nor byte[] may be written from now on -/
theorem St.addO (X : St p l e R s m args below meth c own bytes maxL ret nm Z EL nw us bs T h cells slots) {b : Addr} {C : String} (E : Exa Z h b C) (h1 : C ≠ "java/lang/String") (h2 : C ≠ "[B") (hb' : Z.heap.size ≤ b) :
    St p l e R s m args below meth c own bytes maxL ret nm Z EL nw (b :: us) bs T h cells slots := by
  obtain ⟨cx, vm0, locs, Y, N, eT, hS, hZ, hown, hE, hC, hU, hWn⟩ := X
  refine ⟨cx, vm0, locs, Y, N, eT, hS, hZ, hown, hE, hC, ?_, hWn⟩
  intro x hx
  rcases List.mem_cons.mp hx with rfl | hx
  · exact ⟨hb', E.lt, Safe.exa hZ.alike E h1 h2⟩
  · exact hU x hx
end UpOps
end Jvm.OwnKit
namespace Jvm.OwnKit
open Sem ClassFile Op Lib Jvm.Stand Jvm.Free Jvm.LawKit Jvm.RoadKit Bundle Jvm.Free.Exc
/-- the contract of a method that asks K of the frames beneath and of the state -/
def CtrK (K : List Frame → State → Prop) (l : Launch) (Z : State) (EL : List (String × Nat)) (nw : Bool) (y : MethodName) (bytes : ByteArray) (maxL : Nat) (ret : Option FieldType) (rm : Room) (as' : Array Value) (h : Heap) (us : List Addr)
    (Q : Option Value → Heap → Prop) : Prop :=
  ∀ ws : List Jvm.Cond, MetFree l y (head1 (Jvm.Cond.code y bytes maxL ret :: ws) rm)
    (fun a U => a = as' ∧ Z.Warmed39 U.vm ∧ U.heap = h ∧ Ext Z.heap h ∧ CHv Z EL U.vm h ∧ ∀ x ∈ us, Z.heap.size ≤ x ∧ x < h.size ∧ Safe Z EL U.vm h x)
    (fun _ _ bl s _ => K bl s)
    (fun _ U o U' => ∃ v L, o = .returned v ∧ Q v U'.heap ∧ Fr Z.heap.size L ∧ Ext Z.heap U'.heap ∧ CHr Z EL U.vm U.heap U'.vm U'.heap ∧ ReturnedEndW U o U' L rm.cells rm.slots ∧ (nw = true → U.WarmedH U'.vm))

/-- the methods of the tables and the frames beneath are known -/
abbrev KnownK : List Frame → State → Prop := fun bl s => s.vm.MethodsKnown ∧ s.vm.FramesKnown bl
section KnownOps
variable {p : Program} {l : Launch} {e : Env} {R : Room} {s : State} {m : MethodId} {args : Array Value} {below : List Frame} {meth : Method} {c : Code}
  {own : String} {bytes : ByteArray} {maxL : Nat} {ret : Option FieldType} {nm : String} {Z : State} {EL : List (String × Nat)} {nw : Bool} {us : List Addr} {bs : List (String × Nat × Addr)}
  {T : State} {h : Heap} {cells slots : Nat} {Q : Option Value → Heap → Prop} {kk nn : Nat} {a0 : Array Value} {pc : Nat} {Ls : Array Slot} {st : List Value}

/-- entering a method whose contract asks K of the start -/
theorem CtrK.enter {K : List Frame → State → Prop} {y : MethodName} {rm : Room} {as' : Array Value} (h1 : y.cls = own) (h2 : y.name = nm) (hEL : EW Z a0 EL) (hn : plainFor y = true) (Ls : Array Slot) (ef : ∀ m, entryFrame m as' maxL = mkF m 0 Ls [])
    (body : ∀ (p : Program) (e : Env) (s : State) (m : MethodId) (below : List Frame) (meth : Method) (c : Code) (T : State), (∃ as0, s.frames = .invoking m as0 :: below) → K below s → Ext Z.heap s.heap →
      St p l e rm s m as' below meth c own bytes maxL ret nm Z EL nw us [] T h 0 0 → Goes p e below s Z EL nw Q rm.cells rm.slots (T.setTop (mkF m 0 Ls []))) :
    CtrK K l Z EL nw y bytes maxL ret rm as' h us Q := by
  subst h1 h2
  intro ws
  refine MetFree.of_bodySF hn hisR ?_
  intro p e s m args below meth c s₁ Bd hml0 hP hKn
  obtain ⟨rfl, hZ, hh, hE, hC, hU⟩ := hP
  have hnm := (name_of_methodNamed Bd.named Bd.method).1
  have hown : s.vm.findClass y.cls = some m.cls := findClass_of_methodNamed Bd.named
  have e0 : s₁.heap = h := by rw [← hh, Bd.state]; rfl
  have X0 : Stand p l e rm (s.setVm s.vm) m args below meth c s₁ [] 0 0 := Stand.of_body Bd
  have X : St p l e rm s m args below meth c y.cls bytes maxL ret y.name Z EL nw us [] s₁ h 0 0 :=
    ⟨⟨Bd.exec, Bd.bytes, hml0, Bd.returns, hnm, Bd.notSynchronized, a0, hEL⟩, s.vm, [], X0, Fr.nil _, e0, (State.WarmedH.refl s).since _, hZ, hown, hE, by rw [hh]; exact CHr.refl hC, hU, fun _ => State.WarmedH.refl s, fun _ q => by cases q⟩
  obtain ⟨U, o, h1, h2, h3, h4⟩ := body p e s m below meth c s₁ ⟨_, X0.frames⟩ hKn (by rw [hh]; exact hE) X
  refine ⟨U, o, ?_, h2, h3, h4⟩
  rw [ef m]; exact h1

/-- who pays a call: the callee's contract -/
theorem backCK {y : MethodName} {cb : ByteArray} {cm : Nat} {cr : Option FieldType} {rm : Room} {len W : Nat} {as' : Array Value} {us' : List Addr} {Qc : Option Value → Heap → Prop} {vm0 : Vm}
    (hM : CtrK KnownK l Z EL nw y cb cm cr rm as' h us' Qc) (hZ : Z.Warmed39 vm0) (wc : (Jvm.Cond.code y cb cm cr).before a0 Z = true) (wz : (Jvm.Cond.initialized y.cls).before a0 Z = true) (hf : rm.frames + 1 ≤ R.frames) (hl : W + (cm + 11) + rm.locals ≤ R.locals)
    (hTK : vm0.MethodsKnown) (hBelow : vm0.FramesKnown below) {a1 : Array Value} (hEL : EW Z a1 EL) (hE : Ext Z.heap h) (H : CHv Z EL vm0 h) (hU : ∀ x ∈ us', Z.heap.size ≤ x ∧ x < h.size ∧ Safe Z EL vm0 h x) :
    BackS l R p e below (s.setVm vm0) args y len W (fun A a => a = as' ∧ A.U.heap = h ∧ A.cells + rm.cells ≤ R.cells ∧ A.slots + rm.slots ≤ R.slots)
      (fun A _ v B => ∃ L, Qc v B.U.heap ∧ Fr Z.heap.size L ∧ Ext Z.heap B.U.heap ∧ B.locs = A.locs ++ L ∧ B.cells = A.cells + rm.cells ∧ B.slots = A.slots + rm.slots ∧ CHr Z EL vm0 h B.U.vm B.U.heap ∧ (nw = true → (s.setVm vm0).WarmedH B.U.vm)) :=
  BackS.of_freeWG (bytes := cb) (maxL := cm) (ret := cr)
    (E := fun _ first o t L k n => k = rm.cells ∧ n = rm.slots ∧ (∃ v, o = .returned v ∧ Qc v t.heap) ∧ Fr Z.heap.size L ∧ Ext Z.heap t.heap ∧ CHr Z EL first.vm first.heap t.vm t.heap ∧ (nw = true → first.WarmedH t.vm)) (hM []) hf hl
    (fun m meth c A a Y hp => have hU : Z.Warmed39 A.U.vm := wtrans (s := s.setVm vm0) hZ Y.warmed
      ⟨by show (Jvm.Cond.and _ .tt).before a A.U = true; rw [Jvm.Cond.before_and, mv hU wc]; rfl, mv hU wc, mv hU wz, hp.2.2.1, hp.2.2.2⟩)
    (fun m meth c A a g mk Y hp => ⟨hp.1, wtrans (s := s.setVm vm0) hZ Y.warmed, hp.2.1, hE, (CHv.at Y hZ hEL H).1, fun x hx => ⟨(hU x hx).1, (hU x hx).2.1, (CHv.at Y hZ hEL H).safe (hU x hx).2.1 (hU x hx).2.2⟩⟩) (fun m meth c A a g mk Y _ hg => known_frames Y hg hTK hBelow)
    (fun _ _ _ _ ⟨v, L, h1, h2, h3, h4, h5, h6, h7⟩ => ⟨L, _, _, h6, rfl, rfl, ⟨v, h1, h2⟩, h3, h4, h5, h7⟩)
    (fun m meth c A a g mk v t L k n Y hp _ _ ⟨e1, e2, ⟨v', e3, e4⟩, e5, e6, e7, e8⟩ => by
      cases e3; subst e1 e2
      refine ⟨L, e4, e5, e6, rfl, rfl, rfl, (CHv.at Y hZ hEL H).trans ?_, fun q => State.WarmedH.trans (t := A.U) Y.warmed (e8 q)⟩
      rw [← hp.2.1]; exact e7)
theorem g_callSK (X : St p l e R s m args below meth c own bytes maxL ret nm Z EL nw us bs T h cells slots) (hkn : KnownK below s) {y : MethodName} {cb : ByteArray} {cm : Nat} {cr : Option FieldType} {rm : Room} {as' : Array Value} {us' : List Addr} {Qc : Option Value → Heap → Prop} {ix : Nat}
    (w1 : (Jvm.Cond.methodLink own ix y).before a0 Z = true) (w2 : (Jvm.Cond.static y).before a0 Z = true) (w3 : (Jvm.Cond.initialized y.cls).before a0 Z = true) (w4 : (Jvm.Cond.code y cb cm cr).before a0 Z = true)
    (hy : y.cls ≠ "java/lang/invoke/MethodHandle" ∧ y.cls ≠ "java/lang/invoke/VarHandle") (hM : CtrK KnownK l Z EL nw y cb cm cr rm as' h us' Qc) (hus : ∀ x ∈ us', x ∈ us)
    {argsL rest : List Value} {ps : List FieldType} {rt : Option FieldType} (hpd : parseMethodDescriptor y.desc = some ⟨ps, rt⟩) (hlen : argsL.length = ps.length) (has : argsL.toArray = as') (hst : st = argsL.reverse ++ rest) (hsize : Ls.size = maxL)
    (W : Nat) (hW : (rest.map fun v => v.category).sum ≤ W) (hf : rm.frames + 1 ≤ R.frames) (hl : W + (cm + 11) + rm.locals ≤ R.locals) {ck cs : Nat} (hck : cells + rm.cells = ck) (hcs : slots + rm.slots = cs) (hc : ck ≤ R.cells) (hs : cs ≤ R.slots)
    (hd : decode bytes pc = .ok (.invokestatic ix, 3)) (pc' : Nat) (hp : pc + 3 = pc')
    (K : ∀ v T' h', St p l e R s m args below meth c own bytes maxL ret nm Z EL nw us bs T' h' ck cs → Qc v h' → Goes p e below s Z EL nw Q kk nn (T'.setTop (mkF m pc' Ls (v.toList ++ rest)))) : Goes p e below s Z EL nw Q kk nn (T.setTop (mkF m pc Ls st)) := by
  subst hp hck hcs
  obtain ⟨cx, vm0, locs, Y, N, eT, hS, hZ, hown, hE, hC, hU, hWn⟩ := X
  obtain ⟨a1, hEL⟩ := cx.2.2.2.2.2.2
  have w4' := mvT (s := s.setVm vm0) (args := args) hZ w4
  obtain ⟨mk, hnamed⟩ := Jvm.Cond.code_named w4'
  obtain ⟨methM, cM, hmethM, -, -, -, -, -, -, hsigM⟩ := Jvm.Cond.code_spec hnamed w4'
  obtain ⟨v, vm₁, B, -, Y', h2, hg, ⟨L, q1, q2, q3, q4, q5, q6, q7, q8⟩, stp⟩ := Y.staticBackS cx.1 (own := own) (index := ix) (y := y) hown (mvT (s := s.setVm vm0) hZ w1) (mvT (s := s.setVm vm0) hZ w2) (mvT (s := s.setVm vm0) hZ w3) hnamed hmethM hsigM hy
    (backCK (W := W) hM hZ w4 w3 hf hl (Vm.MethodsKnown.alikeC hS.1.alike hkn.1) (Vm.FramesKnown.alikeC hS.1.alike hkn.2) hEL hE hC.1 fun x hx => hU x (hus x hx)) (g := mkF m pc Ls st) rfl (by rw [cx.2.2.1]; exact hsize) (Steps.refl _) (argsL := argsL) (rest := rest) (lenOf hpd hlen) hst (by show 2 * 0 + _ ≤ _; omega) (hb cx.2.1 hd)
    (fun _ _ => ⟨has, eT, hc, hs⟩)
  exact (K v B.U B.U.heap (St.back cx N hS hZ hown hC hU hWn Y' h2 (by rw [← eT]; exact hg) q2 q3 q4 q5 q6 q7 q8) q1).step fun t k => stp.trans k
theorem g_callSvK (X : St p l e R s m args below meth c own bytes maxL ret nm Z EL nw us bs T h cells slots) (hkn : KnownK below s) {y : MethodName} {cb : ByteArray} {cm : Nat} {cr : Option FieldType} {rm : Room} {as' : Array Value} {us' : List Addr} {Qv : Value → Heap → Prop} {ix : Nat}
    (w1 : (Jvm.Cond.methodLink own ix y).before a0 Z = true) (w2 : (Jvm.Cond.static y).before a0 Z = true) (w3 : (Jvm.Cond.initialized y.cls).before a0 Z = true) (w4 : (Jvm.Cond.code y cb cm cr).before a0 Z = true)
    (hy : y.cls ≠ "java/lang/invoke/MethodHandle" ∧ y.cls ≠ "java/lang/invoke/VarHandle") (hM : CtrK KnownK l Z EL nw y cb cm cr rm as' h us' (ValQ Qv)) (hus : ∀ x ∈ us', x ∈ us)
    {argsL rest : List Value} {ps : List FieldType} {rt : Option FieldType} (hpd : parseMethodDescriptor y.desc = some ⟨ps, rt⟩) (hlen : argsL.length = ps.length) (has : argsL.toArray = as') (hst : st = argsL.reverse ++ rest) (hsize : Ls.size = maxL)
    (W : Nat) (hW : (rest.map fun v => v.category).sum ≤ W) (hf : rm.frames + 1 ≤ R.frames) (hl : W + (cm + 11) + rm.locals ≤ R.locals) {ck cs : Nat} (hck : cells + rm.cells = ck) (hcs : slots + rm.slots = cs) (hc : ck ≤ R.cells) (hs : cs ≤ R.slots)
    (hd : decode bytes pc = .ok (.invokestatic ix, 3)) (pc' : Nat) (hp : pc + 3 = pc')
    (K : ∀ w T' h', St p l e R s m args below meth c own bytes maxL ret nm Z EL nw us bs T' h' ck cs → Qv w h' → Goes p e below s Z EL nw Q kk nn (T'.setTop (mkF m pc' Ls (w :: rest)))) : Goes p e below s Z EL nw Q kk nn (T.setTop (mkF m pc Ls st)) :=
  g_callSK X hkn w1 w2 w3 w4 hy hM hus hpd hlen has hst hsize W hW hf hl hck hcs hc hs hd pc' hp (by
    intro v T' h' X' hq
    obtain ⟨w, rfl, hw⟩ := hq
    exact K w T' h' X' hw)
theorem g_callW (X : St p l e R s m args below meth c own bytes maxL ret nm Z EL nw us bs T h cells slots) {C owner : String} {y z : MethodName} {cb : ByteArray} {cm : Nat} {cr : Option FieldType} {rm : Room} {as' : Array Value} {us' : List Addr} {Qc : Option Value → Heap → Prop} {ix : Nat}
    (w1 : (Jvm.Cond.methodLink own ix y).before a0 Z = true) (w2s : (Jvm.Cond.sameMethod y.cls owner y.name y.desc).before a0 Z = true) (w2 : (Jvm.Cond.declares ⟨owner, y.name, y.desc⟩).before a0 Z = true) (w3 : (Jvm.Cond.selects C y z).before a0 Z = true) (w4 : (Jvm.Cond.instanceMethod z).before a0 Z = true) (w5 : (Jvm.Cond.initialized z.cls).before a0 Z = true) (w6 : (Jvm.Cond.code z cb cm cr).before a0 Z = true)
    (hy : owner ≠ "java/lang/invoke/MethodHandle" ∧ owner ≠ "java/lang/invoke/VarHandle") {a : Addr} (Ex : Exa Z h a C) (hM : Ctr l Z EL nw z cb cm cr rm as' h us' Qc) (hus : ∀ x ∈ us', x ∈ us)
    {argsL rest : List Value} {ps : List FieldType} {rt : Option FieldType} (hpd : parseMethodDescriptor y.desc = some ⟨ps, rt⟩) (hlen : argsL.length = ps.length) (has : (.ref a :: argsL).toArray = as') (hst : st = argsL.reverse ++ .ref a :: rest) (hsize : Ls.size = maxL)
    (W : Nat) (hW : (rest.map fun v => v.category).sum ≤ W) (hf : rm.frames + 1 ≤ R.frames) (hl : W + (cm + 11) + rm.locals ≤ R.locals) {ck cs : Nat} (hck : cells + rm.cells = ck) (hcs : slots + rm.slots = cs) (hc : ck ≤ R.cells) (hs : cs ≤ R.slots)
    (hd : decode bytes pc = .ok (.invokevirtual ix, 3)) (pc' : Nat) (hp : pc + 3 = pc')
    (K : ∀ v T' h', St p l e R s m args below meth c own bytes maxL ret nm Z EL nw us bs T' h' ck cs → Qc v h' → Goes p e below s Z EL nw Q kk nn (T'.setTop (mkF m pc' Ls (v.toList ++ rest)))) : Goes p e below s Z EL nw Q kk nn (T.setTop (mkF m pc Ls st)) := by
  subst hp hck hcs
  obtain ⟨cx, vm0, locs, Y, N, eT, hS, hZ, hown, hE, hC, hU, hWn⟩ := X
  obtain ⟨a1, hEL⟩ := cx.2.2.2.2.2.2
  obtain ⟨cq, kq, qa, qb, qc⟩ := isOf (s := s.setVm vm0) hZ eT Ex
  obtain ⟨v, vm₁, B, -, Y', h2, hg, ⟨L, q1, q2, q3, q4, q5, q6, q7, q8⟩, stp⟩ := Y.virtualBackUpS cx.1 (own := own) (owner := owner) (index := ix) (x := y) (y := z) hown (mvT (s := s.setVm vm0) hZ w1) (mvT (s := s.setVm vm0) hZ w2s) (mvT (s := s.setVm vm0) hZ w2) hy (mvT (s := s.setVm vm0) hZ w3) (mvT (s := s.setVm vm0) hZ w4)
    (backC (W := W) hM hZ w6 w5 hf hl hEL hE hC.1 fun x hx => hU x (hus x hx)) qa qc (g := mkF m pc Ls st) rfl (by rw [cx.2.2.1]; exact hsize) (Steps.refl _) (argsL := argsL) (rest := rest) (lenOf hpd hlen) hst (by show 2 * 0 + _ ≤ _; omega) (hb cx.2.1 hd)
    (fun _ _ => ⟨has, eT, hc, hs⟩)
  exact (K v B.U B.U.heap (St.back cx N hS hZ hown hC hU hWn Y' h2 (by rw [← eT]; exact hg) q2 q3 q4 q5 q6 q7 q8) q1).step fun t k => stp.trans k
theorem g_callWp (X : St p l e R s m args below meth c own bytes maxL ret nm Z EL nw us bs T h cells slots) {C owner : String} {y z : MethodName} {cb : ByteArray} {cm : Nat} {cr : Option FieldType} {rm : Room} {as' : Array Value} {us' : List Addr} {Qv : Value → Prop} {ix : Nat}
    (w1 : (Jvm.Cond.methodLink own ix y).before a0 Z = true) (w2s : (Jvm.Cond.sameMethod y.cls owner y.name y.desc).before a0 Z = true) (w2 : (Jvm.Cond.declares ⟨owner, y.name, y.desc⟩).before a0 Z = true) (w3 : (Jvm.Cond.selects C y z).before a0 Z = true) (w4 : (Jvm.Cond.instanceMethod z).before a0 Z = true) (w5 : (Jvm.Cond.initialized z.cls).before a0 Z = true) (w6 : (Jvm.Cond.code z cb cm cr).before a0 Z = true)
    (hy : owner ≠ "java/lang/invoke/MethodHandle" ∧ owner ≠ "java/lang/invoke/VarHandle") {a : Addr} (Ex : Exa Z h a C) (hM : Ctr l Z EL nw z cb cm cr rm as' h us' (PureQ h Qv)) (hus : ∀ x ∈ us', x ∈ us)
    {argsL rest : List Value} {ps : List FieldType} {rt : Option FieldType} (hpd : parseMethodDescriptor y.desc = some ⟨ps, rt⟩) (hlen : argsL.length = ps.length) (has : (.ref a :: argsL).toArray = as') (hst : st = argsL.reverse ++ .ref a :: rest) (hsize : Ls.size = maxL)
    (W : Nat) (hW : (rest.map fun v => v.category).sum ≤ W) (hf : rm.frames + 1 ≤ R.frames) (hl : W + (cm + 11) + rm.locals ≤ R.locals) {ck cs : Nat} (hck : cells + rm.cells = ck) (hcs : slots + rm.slots = cs) (hc : ck ≤ R.cells) (hs : cs ≤ R.slots)
    (hd : decode bytes pc = .ok (.invokevirtual ix, 3)) (pc' : Nat) (hp : pc + 3 = pc')
    (K : ∀ w T', St p l e R s m args below meth c own bytes maxL ret nm Z EL nw us bs T' h ck cs → Qv w → Goes p e below s Z EL nw Q kk nn (T'.setTop (mkF m pc' Ls (w :: rest)))) : Goes p e below s Z EL nw Q kk nn (T.setTop (mkF m pc Ls st)) :=
  g_callW X w1 w2s w2 w3 w4 w5 w6 hy Ex hM hus hpd hlen has hst hsize W hW hf hl hck hcs hc hs hd pc' hp (by
    intro v T' h' X' hq
    obtain ⟨rfl, w, rfl, hw⟩ := hq
    exact K w T' X' hw)
theorem g_newU (X : St p l e R s m args below meth c own bytes maxL ret nm Z EL nw us bs T h cells slots) {C : String} {ix k : Nat} (w : (Jvm.Cond.classLink own ix C).before a0 Z = true) (wi : (Jvm.Cond.instantiable C k).before a0 Z = true) (wz : (Jvm.Cond.initialized C).before a0 Z = true)
    (hd : decode bytes pc = .ok (.new ix, 3)) {ck cs : Nat} (hck : cells + 1 = ck) (hcs : slots + k = cs) (hc : ck ≤ R.cells) (hl : cs ≤ R.slots) (pc' : Nat) (hp : pc + 3 = pc')
    (K : ∀ a T' h', a = h.size → St p l e R s m args below meth c own bytes maxL ret nm Z EL nw (a :: us) bs T' h' ck cs → Ext h h' → Exa Z h' a C →
      (∀ {O n d : String} {ty : FieldType}, Laid Z a0 C O n d → parseFieldDescriptor d = some ty → Fld Z h' a O n d (defaultValue ty)) → Unt h' a → Goes p e below s Z EL nw Q kk nn (T'.setTop (mkF m pc' Ls (.ref a :: st)))) : Goes p e below s Z EL nw Q kk nn (T.setTop (mkF m pc Ls st)) := by
  subst hp hck hcs
  obtain ⟨cx, vm0, locs, Y, N, eT, hS, hZ, hown, hE, hC, hU, hW⟩ := X
  obtain ⟨T', h', Y', e', E, A, D, hUn, stp⟩ := newO Y cx.1 hZ hown w wi wz eT (g := mkF m pc Ls st) rfl (hb cx.2.1 hd) hc hl
  refine (K h.size T' h' rfl ⟨cx, vm0, locs, Y', N, e', ⟨hS.1, hS.2.mono E.1⟩, hZ, hown, hE.trans E, hC.trans (CHr.ext E hC.1), ?_, hW⟩ E A (fun L q => D L q) hUn).step stp
  intro x hx
  rcases List.mem_cons.mp hx with rfl | hx
  · exact ⟨hE.1, A.lt, Safe.ext E hC.1 (Safe.new (Nat.le_refl _))⟩
  · obtain ⟨q1, q2, q3⟩ := hU x hx
    exact ⟨q1, Nat.lt_of_lt_of_le q2 E.1, Safe.ext E hC.1 q3⟩
end KnownOps
end Jvm.OwnKit
namespace Jvm.OwnKit
open Sem ClassFile Op Lib Jvm.Stand Jvm.Free Jvm.LawKit Jvm.RoadKit Bundle Jvm.Free.Exc
/-- the word on Throwable that the sheet lacks -/
abbrev lackW : Jvm.Cond := .lays tN tN "suppressedExceptions" listD
/-- the words on Throwable, all but lackW -/
abbrev ThW (rc : String) (a : Array Value) (s : State) : Prop := ∀ d ∈ excAtoms rc, d ≠ lackW → d.before a s = true
theorem ThW.at {rc : String} {args a0 : Array Value} {s Z : State} (hT : ThS Z s.heap) (hZ : Z.Warmed39 s.vm) (W : ThW rc a0 Z) : ThW rc args s := fun d q n => mvX hT hZ (List.all_eq_true.mp exc_ok d q) (W d q n)
/-- a method that is one of the class's own: the two ways to find it agree -/
theorem same_meth {s : State} {m : MethodId} {x y : Method} (h : s.vm.method? m = some x) (h' : s.vm.method? m = some y) : y = x := Option.some.inj (h'.symm.trans h)
theorem no_params {d : String} {sg : MethodDescriptor} {ps : List FieldType} (h : parseMethodDescriptor d = some sg) (q : (parseMethodDescriptor d).map (·.parameters) = some ps) : sg.parameters = ps := by
  rw [h] at q; exact Option.some.inj q
theorem thr_of {rc : String} (hrc : rc ≠ tN) {args : Array Value} {s : State} {pl : Platform} (p1 : pl.frameOwnsMonitors = true) (p2 : pl.finalization = false) (p3 : pl.magicAccessors = ({} : Platform).magicAccessors) (W : ThW rc args s) :
    ∃ T : ThrowableC, T.Links pl s ∧ s.vm.findClass tN = some T.cT ∧ s.methodNamed? tFill = some T.fill ∧ s.methodNamed? tFill0 = some T.fill0 ∧ s.fieldFound? tN "stackTrace" steD = some (T.cT, T.kT, T.i17, T.fStack) ∧
      T.fStack.name = "stackTrace" ∧ T.fStack.type = .array (.object "java/lang/StackTraceElement") ∧ s.fieldFound? tN "UNASSIGNED_STACK" steD = some (T.cT, T.kT, T.i13, T.fUnassigned) := by
  have g : ∀ d, d ∈ excAtoms rc → d ≠ lackW → d.holds args s none s [] = true := W
  have hnat := g (.native tFill0) (by simp [excAtoms, throwableAtoms]) nofun
  have hini := g (.initialized tN) (by simp [excAtoms, throwableAtoms]) nofun
  have hsup := g (.superclass tN "java/lang/Object") (by simp [excAtoms, throwableAtoms]) nofun
  have hfi := g (.instanceMethod tFill) (by simp [excAtoms, throwableAtoms]) nofun
  have hfc := g (.codeSync tFill LibCode.Throwable.Fill.code 1 (some (.object tN))) (by simp [excAtoms, throwableAtoms]) nofun
  have hf0 := g (.instanceMethod tFill0) (by simp [excAtoms, throwableAtoms]) nofun
  have hzi := g (.instanceMethod tInit0) (by simp [excAtoms, throwableAtoms]) nofun
  have hzc := g (.code tInit0 LibCode.Throwable.Init0.code 1 none) (by simp [excAtoms, throwableAtoms]) nofun
  have hoi := g (.instanceMethod oInit) (by simp [excAtoms, throwableAtoms]) nofun
  have hoc := g (.code oInit ⟨#[0xb1]⟩ 1 none) (by simp [excAtoms, throwableAtoms]) nofun
  have hm1 := g (.methodLink tN 1 oInit) (by simp [excAtoms, throwableAtoms]) nofun
  have hm27 := g (.methodLink tN 27 tFill) (by simp [excAtoms, throwableAtoms]) nofun
  have hm202 := g (.methodLink tN 202 tFill0) (by simp [excAtoms, throwableAtoms]) nofun
  have hl7 := g (.fieldLink tN 7 tN "cause" thD) (by simp [excAtoms, throwableAtoms]) nofun
  have hl17 := g (.fieldLink tN 17 tN "stackTrace" steD) (by simp [excAtoms, throwableAtoms]) nofun
  have hl24 := g (.fieldLink tN 24 tN "suppressedExceptions" listD) (by simp [excAtoms, throwableAtoms]) nofun
  have hl13 := g (.fieldLink tN 13 tN "UNASSIGNED_STACK" steD) (by simp [excAtoms, throwableAtoms]) nofun
  have hl20 := g (.fieldLink tN 20 tN "SUPPRESSED_SENTINEL" listD) (by simp [excAtoms, throwableAtoms]) nofun
  have hs13 := g (.laysStatic tN "UNASSIGNED_STACK" steD) (by simp [excAtoms, throwableAtoms]) nofun
  have hs20 := g (.laysStatic tN "SUPPRESSED_SENTINEL" listD) (by simp [excAtoms, throwableAtoms]) nofun
  have y7 := g (.lays rc tN "cause" thD) (by simp [excAtoms]) (by simp [lackW])
  have y17 := g (.lays rc tN "stackTrace" steD) (by simp [excAtoms]) (by simp [lackW])
  have y24 := g (.lays rc tN "suppressedExceptions" listD) (by simp [excAtoms]) (by simp [lackW, hrc])
  have yM := g (.lays rc tN "detailMessage" msgD) (by simp [excAtoms]) (by simp [lackW])
  -- the class
  obtain ⟨⟨c, j0⟩, M0, n0, v0, nat0, cod0, lck0, sg0⟩ := Jvm.Cond.native_spec hnat
  have hc : s.vm.findClass tN = some c := findClass_of_methodNamed n0
  obtain ⟨-, k, -, -, hk, -, -, -, -, hni⟩ := Jvm.Cond.superclass_spec hc hsup
  have hnm : k.name = tN := by
    obtain ⟨k', r1, r2⟩ := Vm.findClass_spec hc
    cases r1.symm.trans hk; exact r2
  -- its methods
  obtain ⟨jF, MF, nF, vF, aF, stF, abF, -, -⟩ := Jvm.Cond.ownMethod (x := tFill) hc hk hfi
  obtain ⟨MF', CF, vF', cF, bF, mF, rF, lF, -, sF⟩ := Jvm.Cond.codeSync_spec nF hfc
  cases same_meth vF vF'
  obtain ⟨j0', M0', n0', v0', a0', st0, ab0, nm0, ds0⟩ := Jvm.Cond.ownMethod (x := tFill0) hc hk hf0
  cases n0.symm.trans n0'
  cases same_meth v0 v0'
  obtain ⟨jZ, MZ, nZ, vZ, aZ, -⟩ := Jvm.Cond.ownMethod (x := tInit0) hc hk hzi
  obtain ⟨MZ', CZ, vZ', cZ, -⟩ := Jvm.Cond.code_spec nZ hzc
  cases same_meth vZ vZ'
  -- Object's constructor
  obtain ⟨mO, MO, nO, vO, stO, abO⟩ := Jvm.Cond.instanceMethod_spec hoi
  obtain ⟨MO', CO, vO', cO, bO, -, -, lO, -, sO⟩ := Jvm.Cond.code_spec nO hoc
  cases same_meth vO vO'
  obtain ⟨kO, kO1, kO2⟩ := Vm.findClass_spec (findClass_of_methodNamed nO)
  obtain ⟨nmO, dsO⟩ := name_of_methodNamed nO vO
  -- the links
  obtain ⟨x1, z1, cf, L1, R1, hcf, P1⟩ := Jvm.Cond.linkedMethod hc hk nO hm1 pl p3
  obtain ⟨x27, z27, cf2, L27, R27, hcf2, P27⟩ := Jvm.Cond.linkedMethod hc hk nF hm27 pl p3
  obtain ⟨x202, z202, cf3, L202, R202, hcf3, P202⟩ := Jvm.Cond.linkedMethod hc hk n0 hm202 pl p3
  cases hcf.symm.trans hcf2
  cases hcf.symm.trans hcf3
  obtain ⟨x7, i7, f7, L7, R7, A7, S7, N7, -⟩ := Jvm.Cond.ownField (t := .object tN) hc hk (by decide +kernel) hl7 y7 pl p3
  obtain ⟨x17, i17, f17, L17, R17, A17, S17, N17, nm17, ty17, F17⟩ := Jvm.Cond.ownField (t := .array (.object "java/lang/StackTraceElement")) hc hk (by decide +kernel) hl17 y17 pl p3
  obtain ⟨x24, i24, f24, L24, R24, A24, S24, N24, nm24, -, F24⟩ := Jvm.Cond.ownField (t := .object "java/util/List") hc hk (by decide +kernel) hl24 y24 pl p3
  obtain ⟨x13, i13, f13, aS, -, L13, R13, A13, S13, -, -, hst, -, -, -, -, F13⟩ := Jvm.Cond.ownStatic (t := .array (.object "java/lang/StackTraceElement")) hc hk (by decide +kernel) hl13 hs13 pl p3
  obtain ⟨x20, i20, f20, -, -, L20, R20, A20, S20, -⟩ := Jvm.Cond.ownStatic (t := .object "java/util/List") hc hk (by decide +kernel) hl20 hs20 pl p3
  obtain ⟨-, -, -, -, -, fM, -, -, -, SM, NM, -⟩ := Jvm.Cond.lays_spec yM
  -- two of its slots differ, as they lie in rc's objects
  have apart : f17.slot ≠ f24.slot := by
    obtain ⟨e, ke, -, -, -, -, he, hke, -⟩ := Jvm.Cond.lays_spec y17
    obtain ⟨-, d, hd, hdn⟩ := Jvm.Cond.laysAt he hke F17 y17
    obtain ⟨-, d2, hd2, hdn2⟩ := Jvm.Cond.laysAt he hke F24 y24
    exact Jvm.Cond.laysApart hd hd2 hdn hdn2 (by rw [nm17, nm24]; decide)
  refine ⟨{ cT := c, kT := k, cO := c, aS := aS, fillIdx := jF, fill0Idx := j0, initSIdx := jZ, obj := mO, kObj := kO, methFill := MF, methFill0 := M0, methInitS := MZ, methObj := MO, codeFill := CF, codeInitS := CZ, codeObj := CO, fBack := f7, fDepth := f7, fStack := f17, fCause := f7, fSupp := f24, fMsg := fM, fUnassigned := f13, fSentinel := f20, cfT := cf, ci1 := x1, n1 := z1, ci27 := x27, n27 := z27, ci202 := x202, n202 := z202, ci7 := x7, i7 := i7, ci13 := x13, i13 := i13, ci17 := x17, i17 := i17, ci20 := x20, i20 := i20, ci24 := x24, i24 := i24 }, ?_, hc, nF, n0, F17, nm17, ty17, F13⟩
  constructor
  case owns => exact p1
  case noFinalization => exact p2
  case boot => exact Vm.findClass_boot hc hk
  case initialized => exact Jvm.Cond.initialized_spec hc hk hini
  case fillParams => exact no_params sF (by decide +kernel)
  case fill0Params => exact no_params sg0 (by decide +kernel)
  case objParams => show MO.sig.parameters.length = 0; rw [no_params (ps := []) sO (by decide +kernel)]; rfl
  case objFound => show lookupSpecial s.vm mO.cls "<init>" MO.desc = _; rw [dsO]; exact lookupSpecial_of_named nO vO stO
  all_goals first | assumption | exact apart
theorem Unt.wrote {h h' : Heap} {a b : Addr} {sl : Nat} {v : Value} (W : Wr h h' b sl v) (N : Unt h a) : Unt h' a := by
  obtain ⟨c0, w1, w2, w3, rfl⟩ := W
  obtain ⟨c1, u1, u2, u3⟩ := N
  by_cases q : b = a
  · subst q
    cases w1.symm.trans u1
    exact ⟨c0.setSlot sl v, by rw [Array.getElem?_setIfInBounds_self_of_lt (Array.getElem?_eq_some_iff.mp w1).1], u2, u3⟩
  · exact ⟨c1, by rw [Array.getElem?_setIfInBounds_ne q]; exact u1, u2, u3⟩
theorem push_at {h : Heap} {x : Addr} {c d : Cell} (q : h[x]? = some c) : (h.push d)[x]? = some c := by
  have := (Array.getElem?_eq_some_iff.mp q).1
  rw [Array.getElem?_push, if_neg (by omega)]; exact q
section ThrOps
variable {p : Program} {l : Launch} {e : Env} {R : Room} {s : State} {m : MethodId} {args : Array Value} {below : List Frame} {meth : Method} {c : Code}
  {own : String} {bytes : ByteArray} {maxL : Nat} {ret : Option FieldType} {nm : String} {Z : State} {EL : List (String × Nat)} {nw : Bool} {us : List Addr} {bs : List (String × Nat × Addr)}
  {T : State} {h : Heap} {cells slots : Nat} {Q : Option Value → Heap → Prop} {kk nn : Nat} {a0 : Array Value} {pc : Nat} {Ls : Array Slot} {st : List Value}

theorem g_callIK (X : St p l e R s m args below meth c own bytes maxL ret nm Z EL nw us bs T h cells slots) (hkn : KnownK below s) {y : MethodName} {cb : ByteArray} {cm : Nat} {rm : Room} {as' : Array Value} {us' : List Addr} {Qn : Heap → Prop} {ix : Nat} (hy1 : y.name = "<init>")
    (w1 : (Jvm.Cond.methodLink own ix y).before a0 Z = true) (w2 : (Jvm.Cond.instanceMethod y).before a0 Z = true) (w3 : (Jvm.Cond.initialized y.cls).before a0 Z = true) (w4 : (Jvm.Cond.code y cb cm none).before a0 Z = true)
    (hy : y.cls ≠ "java/lang/invoke/MethodHandle" ∧ y.cls ≠ "java/lang/invoke/VarHandle") (hM : CtrK KnownK l Z EL nw y cb cm none rm as' h us' (VoidQ Qn)) (hus : ∀ x ∈ us', x ∈ us)
    {a : Addr} {argsL rest : List Value} {ps : List FieldType} {rt : Option FieldType} (hpd : parseMethodDescriptor y.desc = some ⟨ps, rt⟩) (hlen : argsL.length = ps.length) (has : (.ref a :: argsL).toArray = as') (hst : st = argsL.reverse ++ .ref a :: rest) (hsize : Ls.size = maxL)
    (W : Nat) (hW : (rest.map fun v => v.category).sum ≤ W) (hf : rm.frames + 1 ≤ R.frames) (hl : W + (cm + 11) + rm.locals ≤ R.locals) {ck cs : Nat} (hck : cells + rm.cells = ck) (hcs : slots + rm.slots = cs) (hc : ck ≤ R.cells) (hs : cs ≤ R.slots)
    (hd : decode bytes pc = .ok (.invokespecial ix, 3)) (pc' : Nat) (hp : pc + 3 = pc')
    (K : ∀ T' h', St p l e R s m args below meth c own bytes maxL ret nm Z EL nw us bs T' h' ck cs → Qn h' → Goes p e below s Z EL nw Q kk nn (T'.setTop (mkF m pc' Ls rest))) : Goes p e below s Z EL nw Q kk nn (T.setTop (mkF m pc Ls st)) := by
  subst hp hck hcs
  obtain ⟨cx, vm0, locs, Y, N, eT, hS, hZ, hown, hE, hC, hU, hWn⟩ := X
  obtain ⟨a1, hEL⟩ := cx.2.2.2.2.2.2
  obtain ⟨v, vm₁, B, -, Y', h2, hg, ⟨L, q1, q2, q3, q4, q5, q6, q7, q8⟩, stp⟩ := Y.specialBackS cx.1 (own := own) (index := ix) (y := y) hy1 hown (mvT (s := s.setVm vm0) hZ w1) (mvT (s := s.setVm vm0) hZ w2) (mvT (s := s.setVm vm0) hZ w4) hy
    (backCK (W := W) hM hZ w4 w3 hf hl (Vm.MethodsKnown.alikeC hS.1.alike hkn.1) (Vm.FramesKnown.alikeC hS.1.alike hkn.2) hEL hE hC.1 fun x hx => hU x (hus x hx)) (g := mkF m pc Ls st) rfl (by rw [cx.2.2.1]; exact hsize) (Steps.refl _) (a := a) (argsL := argsL) (rest := rest) (lenOf hpd hlen) hst (by show 2 * 0 + _ ≤ _; omega) (hb cx.2.1 hd)
    (fun _ _ => ⟨has, eT, hc, hs⟩)
  obtain ⟨rfl, q1⟩ := q1
  exact (K B.U B.U.heap (St.back cx N hS hZ hown hC hU hWn Y' h2 (by rw [← eT]; exact hg) q2 q3 q4 q5 q6 q7 q8) q1).step fun t k => stp.trans k
/-- fillInStackTrace() on an exception that the walk has made -/
theorem g_fill (X : St p l e R s m args below meth c own bytes maxL ret nm Z EL nw us bs T h cells slots) (ho : own = tN) (hkn : KnownK below s) (htr : l.stackTraces = true) (hZs : Ext Z.heap s.heap) {rc : String} {n : Nat} (hrc : rc ≠ tN) (W : ThW rc a0 Z) (wi : (Jvm.Cond.instantiable rc n).before a0 Z = true)
    {a u : Addr} (E : Exa Z h a rc) (N : Unt h a) (B : Fld Z h a tN "backtrace" obD .null) (S : Fld Z h a tN "stackTrace" steD (.ref u)) (SU : Sta Z h tN "UNASSIGNED_STACK" steD (.ref u)) (ha : a ∈ us) (hsize : Ls.size = maxL)
    (hd : decode bytes pc = .ok (.invokevirtual 27, 3)) (hf : 3 ≤ R.frames) (Wd : Nat) (hWd : (st.map fun v => v.category).sum ≤ Wd) (hlo : Wd + 42 ≤ R.locals) {ck cs : Nat} (hck : cells + 1 = ck) (hcs : slots + 2752 = cs) (hc : ck ≤ R.cells) (hs : cs ≤ R.slots) (pc' : Nat) (hp : pc + 3 = pc')
    (K : ∀ T' h' w, St p l e R s m args below meth c own bytes maxL ret nm Z EL nw us bs T' h' ck cs → Keep h h' [a] → Exa Z h' a rc → Fld Z h' a tN "detailMessage" msgD w → Goes p e below s Z EL nw Q kk nn (T'.setTop (mkF m pc' Ls (.ref a :: st)))) : Goes p e below s Z EL nw Q kk nn (T.setTop (mkF m pc Ls (.ref a :: st))) := by
  subst ho hp hck hcs
  obtain ⟨cx, vm0, locs, Y, Nn, eT, hS, hZ, hown, hE, hC, hU, hWn⟩ := X
  obtain ⟨u1, u2, u3⟩ := hU a ha
  have hpf : e.platform.frameOwnsMonitors = true ∧ e.platform.finalization = false ∧ e.platform.magicAccessors = ({} : Platform).magicAccessors ∧ e.platform.stackTraces = true := by
    rw [Y.admits.platform]; exact ⟨rfl, rfl, rfl, htr⟩
  have WS : ThW rc args (s.setVm vm0) := W.at (s := s.setVm vm0) (ThS.ext hZs ThS.start) hZ
  obtain ⟨Tc, L, tf, nF, n0, F17, nm17, ty17, F13⟩ := thr_of hrc (pl := e.platform) hpf.1 hpf.2.1 hpf.2.2.1 WS
  -- the receiver's cell
  obtain ⟨ce, kc, c1, c2, c3, -, c5⟩ := E
  obtain ⟨ce', n1, n2, n3⟩ := N
  cases c1.symm.trans n1
  obtain ⟨c4, k2, i1, i2, i3, -⟩ := Jvm.Cond.instantiable_spec (mvT (s := s.setVm vm0) (args := args) hZ wi)
  have hal := hZ.alike
  have hcl : vm0.findClass rc = some ce.cls := by rw [hal.findClass]; exact c2
  cases hcl.symm.trans i1
  obtain ⟨k3, e1, e2⟩ := hal.2.2 _ _ c3
  cases i2.symm.trans e1
  have hsz : ce.slots.size = k2.instanceTypes.size := by
    have q := c5 (by rw [e2] at i3; exact i3)
    rw [q, e2]
  have tk : ∀ {f : Field} {v : Value}, k2.instanceTypes[f.slot]? = some f.type → fits f.type v = true → Jvm.Takes (s.setVm vm0) ce f v := fun {f v} h1 h2 => by
    obtain ⟨q1, q2⟩ := Takes.of_laid (s := s.setVm vm0) (v := v) i2 i3 h1 h2
    exact ⟨by rw [hsz]; simpa using q1, by rw [n2]; exact q2⟩
  have g : ∀ d, d ∈ excAtoms rc → d ≠ lackW → d.holds args (s.setVm vm0) none (s.setVm vm0) [] = true := WS
  -- the fields
  have yS := g (.lays rc tN "stackTrace" steD) (by simp [excAtoms]) (by simp [lackW])
  have yB := g (.lays rc tN "backtrace" obD) (by simp [excAtoms]) (by simp [lackW])
  have yD := g (.lays rc tN "depth" "I") (by simp [excAtoms]) (by simp [lackW])
  obtain ⟨x198, j198, fB, L198, R198, A198, SB, -, nB, tB, FB⟩ := Jvm.Cond.ownField (t := .object "java/lang/Object") tf L.cls (by decide +kernel) (g (.fieldLink tN 198 tN "backtrace" obD) (by simp [excAtoms]) nofun) yB e.platform hpf.2.2.1
  obtain ⟨-, -, cD, kD, jD, fD, -, -, FD, SD, -, -, -, -⟩ := Jvm.Cond.lays_spec yD
  cases (Jvm.Cond.lays_declared yD FD).symm.trans tf
  obtain ⟨kD1, AD⟩ := State.fieldFound?_spec FD
  cases kD1.symm.trans L.cls
  obtain ⟨nD, tD⟩ := State.fieldFound?_type FD (t := .int) (by decide +kernel)
  have hfb := Jvm.Cond.soleField_find tf L.cls (g (.soleField tN "backtrace") (by simp [excAtoms]) nofun) A198 nB SB
  have hfd := Jvm.Cond.soleField_find tf L.cls (g (.soleField tN "depth") (by simp [excAtoms]) nofun) AD nD SD
  obtain ⟨tyS, -⟩ := Jvm.Cond.laysAt i1 i2 F17 yS
  obtain ⟨tyB, -⟩ := Jvm.Cond.laysAt i1 i2 FB yB
  obtain ⟨tyD, -⟩ := Jvm.Cond.laysAt i1 i2 FD yD
  -- what they hold
  have slotB : ce.slots[fB.slot]? = some .null := by
    obtain ⟨cl, cf, k, i, f, b1, b2, -, -, -, -, b7⟩ := B
    cases c1.symm.trans b1
    obtain ⟨_, _, _, r⟩ := Jvm.Free.BdW.found_ride (U := Z) (U' := s.setVm vm0) hal ⟨_, _, _, b2⟩
    cases FB.symm.trans r
    exact b7
  have slotS : ce.slots[Tc.fStack.slot]? = some (.ref u) := by
    obtain ⟨cl, cf, k, i, f, b1, b2, -, -, -, -, b7⟩ := S
    cases c1.symm.trans b1
    obtain ⟨_, _, _, r⟩ := Jvm.Free.BdW.found_ride (U := Z) (U' := s.setVm vm0) hal ⟨_, _, _, b2⟩
    have r2 := F17.symm.trans r
    simp only [Option.some.injEq, Prod.mk.injEq] at r2
    rw [r2.2.2.2]; exact b7
  obtain ⟨cellS, hcS, hiS, hvU⟩ : ∃ cellS : Cell, h[Tc.aS]? = some cellS ∧ cellS.vm.isStatics = true ∧ cellS.slots[Tc.fUnassigned.slot]? = some (.ref u) := by
    obtain ⟨cf, i, k, f, sa, cl, b1, -, -, b4, b5, b6, b7⟩ := SU
    obtain ⟨k', r, hek⟩ := State.fieldFound?_setVm hal b1
    have r2 := F13.symm.trans r
    simp only [Option.some.injEq, Prod.mk.injEq] at r2
    have r3 := L.statics
    rw [r2.2.1, hek] at r3
    cases b4.symm.trans r3
    exact ⟨cl, b5, b6, by rw [r2.2.2.2]; exact b7⟩
  have hneS : Tc.aS ≠ a := fun q => by
    rw [q] at hcS
    cases c1.symm.trans hcS
    rw [n2] at hiS; cases hiS
  have hsel : selectMethod e.platform vm0 ce.cls Tc.fill0 = .method Tc.fill0 := by
    obtain ⟨c6, r6, m6, q1, q2, q3, q4, -⟩ := Jvm.Cond.selects_spec (g (.selects rc tFill0 tFill0) (by simp [excAtoms]) nofun)
    cases q1.symm.trans i1
    cases q2.symm.trans (State.methodFound?_of_named n0 (by decide))
    cases q3.symm.trans n0
    rw [Launch.admits_selectMethod Y.admits]; exact q4
  obtain ⟨comp, cO, kO, -, -, hkO, hkindO, hO⟩ := Jvm.Cond.arrayOver_spec (g (.arrayOver (.object "java/lang/Object")) (by simp [excAtoms]) nofun)
  have hSE := WS (.selects rc tFill tFill) (by simp [excAtoms]) nofun
  obtain ⟨v, vm1, ⟨U, locs1, ck1, cs1⟩, -, Y1, ⟨rfl, vm2, lines, hln, -, hUh, hL1, hc1, hs1⟩, stp⟩ := Y.virtualBack cx.1 (own := tN) (C := rc) (index := 27) (y := tFill) (z := tFill) hown (WS (.methodLink tN 27 tFill) (by simp [excAtoms, throwableAtoms]) nofun) (WS (.declares tFill) (by simp [excAtoms]) nofun) (notFace_of_selects hSE) hSE (WS (.instanceMethod tFill) (by simp [excAtoms, throwableAtoms]) nofun) (by decide)
    (Jvm.Free.Str.fillPays (l := l) (W := Wd) cx.1 hpf.2.2.2 Tc L nF (u0 := ⟨.ref u, rfl⟩) nofun (self := a) (cell := ce) (cellS := cellS) (fun _ => by rw [n2]; simp) (by rw [n2]; simp) (by rw [n3]) (by rw [n3]) slotS hsel hneS (fun q => by rw [q] at hiS; cases hiS) hvU (tk tyS (by rw [ty17]; rfl))
      ⟨{ ci198 := x198, i198 := j198, fBack := fB }, ⟨L198, R198, A198, SB⟩, slotB⟩ (Vm.MethodsKnown.alikeC hS.1.alike hkn.1) (Vm.FramesKnown.alikeC hS.1.alike hkn.2) tf hO hkO hkindO hfb hfd (fun x => tk tyB (by rw [tB]; rfl)) (fun x => tk tyD (by rw [tD]; rfl)) (by omega) (by omega))
    (b := a) (cB := ce.cls) i1 ⟨ce, by rw [eT]; exact c1, rfl, by rw [n2]; rfl⟩ (g := mkF m pc Ls (.ref a :: st)) rfl (by rw [cx.2.2.1]; exact hsize) (Steps.refl _) (argsL := []) (rest := st)
    (fun sig q => by rw [show parseMethodDescriptor tFill.desc = some ⟨[], some (.object tN)⟩ from by decide +kernel] at q; rw [← Option.some.inj q]; rfl) rfl (by show 2 * 0 + _ ≤ _; omega) (hb cx.2.1 hd)
    (fun _ _ => ⟨rfl, hc, hs, by show T.heap[a]? = _; rw [eT]; exact c1, by show T.heap[Tc.aS]? = _; rw [eT]; exact hcS⟩)
  dsimp only [Pt.U, Pt.locs, Pt.cells, Pt.slots] at Y1 hUh hL1 hc1 hs1 stp
  subst hc1 hs1 hL1
  have hU1 : U.heap = (h.push (traceHolder cO lines)).setIfInBounds a (Jvm.Free.Str.filledOn Tc.toThrowableT fB fD ce ⟨.ref u, rfl⟩ T.heap.size lines.length.toInt32) := by rw [hUh, ← eT]; rfl
  have hlt : a < h.size := (Array.getElem?_eq_some_iff.mp c1).1
  have K' : Keep h U.heap [a] := by
    rw [hU1]
    refine ⟨by rw [Array.size_setIfInBounds, Array.size_push]; omega, fun x cx' q r => ?_, fun x cx' q => ?_⟩
    · have ne : a ≠ x := fun z => r (by rw [z]; exact List.mem_singleton.mpr rfl)
      rw [Array.getElem?_setIfInBounds_ne ne]; exact push_at q
    · by_cases z : a = x
      · subst z
        cases c1.symm.trans q
        exact ⟨_, Array.getElem?_setIfInBounds_self_of_lt (by rw [Array.size_push]; exact Nat.lt_succ_of_lt hlt), rfl, rfl, by simp [Jvm.Free.Str.filledOn, Cell.setSlot]⟩
      · refine ⟨cx', ?_, rfl, rfl, rfl⟩
        rw [Array.getElem?_setIfInBounds_ne z]; exact push_at q
  have hsf : ∀ x ∈ [a], Safe Z EL vm0 h x := fun x hx => by cases List.mem_singleton.mp hx; exact u3
  have E' : Exa Z U.heap a rc := Exa.keep ⟨ce, kc, c1, c2, c3, by rw [n2]; rfl, c5⟩ K'
  obtain ⟨c8, q8, -, r8, -⟩ := K'.2.2 a ce c1
  obtain ⟨w, Fw⟩ := fld_laid (O := tN) (n := "detailMessage") (d := msgD) E' ⟨c8, q8, by rw [r8, n2]; simp⟩ wi (Or.inl (W (.lays rc tN "detailMessage" msgD) (by simp [excAtoms]) (by simp [lackW])))
  have Nn' : Fr Z.heap.size (locs ++ [⟨a, fB.slot⟩, ⟨a, fD.slot⟩, ⟨a, Tc.fStack.slot⟩]) := Nn.app fun y hy => by
    simp only [List.mem_cons, List.not_mem_nil, or_false] at hy
    rcases hy with rfl | rfl | rfl <;> exact u1
  exact (K U U.heap w ⟨cx, vm0, _, Y1.more (Nat.le_refl _) (Nat.add_le_add_left (traceHolder_size_le cO hln) _), Nn', rfl, ⟨hS.1, hS.2.mono K'.1⟩, hZ, hown, ext_keep hE K' (fun x hx => by cases List.mem_singleton.mp hx; exact u1), hC.trans (CHr.keep K' hsf hC.1), fun x hx => ⟨(hU x hx).1, Nat.lt_of_lt_of_le (hU x hx).2.1 K'.1, Safe.keep K' hsf hC.1 (hU x hx).2.2⟩, hWn⟩ K' E' Fw).step fun t k => stp.trans k
end ThrOps
end Jvm.OwnKit
/- laws to paste: Road.backV (cut by pick.py; bodies as the Statement names them) -/
namespace Jvm.Pilot.@@N@@
namespace StrChars
open Jvm Sem ClassFile Op Lib Jvm.Stand Jvm.Free.XT Jvm.Free.ALB Jvm.Free.JM Jvm.Free
open Jvm.Lib.Cold (StaticIs)
/-- a char array whose places are chars -/
def Ch (a : Addr) (A : Cell) (U : State) : Prop := Arr .char a A U ∧ Typed .char A
theorem Ch.mv {a : Addr} {A : Cell} {U U' : State} (h : Ch a A U) (hal : U.vm.Alike U'.vm) (hh : U'.heap = U.heap) : Ch a A U' := ⟨h.1.mv hal hh, h.2⟩
theorem Ch.keep {a : Addr} {A : Cell} {U U' : State} (h : Ch a A U) (hal : U.vm.Alike U'.vm) (hk : U'.heap[a]? = some A) : Ch a A U' := ⟨h.1.keep hal hk, h.2⟩
/-- what place i of a char[]'s cell holds -/
def cv (A : Cell) (i : Nat) : Int32 := match A.slots[i]? with | some (.int x) => x | _ => 0
theorem Ch.get {a : Addr} {A : Cell} {U : State} (h : Ch a A U) {i : Nat} (hi : i < A.slots.size) : A.slots[i]? = some (.int (cv A i)) := by
  have e := Array.getElem?_eq_getElem hi
  have f := h.2 i _ e
  unfold cv; rw [e]
  generalize A.slots[i] = v at f
  cases v <;> simp [fits] at f ⊢
/-- the byte that i2b leaves of a char -/
def lo8 (x : Int32) : Int32 := x.toInt8.toInt32
theorem fits_lo8 (y : Int32) : fits .byte (.int (lo8 y)) = true := by
  have h1 := y.toInt8.le_toInt
  have h2 := y.toInt8.toInt_lt
  simp only [lo8, fits, Bool.and_eq_true, decide_eq_true_eq, Int32.le_iff_toInt_le, Int8.toInt_toInt32, show (-128 : Int32).toInt = -128 from by decide, show (127 : Int32).toInt = 127 from by decide]
  omega
/-- A' is A but that each place j of lo .. hi - 1 holds f j -/
def Laid (A A' : Cell) (lo hi : Nat) (f : Nat → Value) : Prop := A'.cls = A.cls ∧ A'.vm = A.vm ∧ A'.slots.size = A.slots.size ∧ ∀ i, A'.slots[i]? = if lo ≤ i ∧ i < hi then some (f i) else A.slots[i]?
theorem Laid.zero (A : Cell) (lo : Nat) (f : Nat → Value) : Laid A A lo (lo + 0) f := ⟨rfl, rfl, rfl, fun i => by rw [if_neg (by omega)]⟩
theorem Laid.step {A Ak : Cell} {lo k : Nat} {f : Nat → Value} {v : Value} (h : Laid A Ak lo k f) (hlo : lo ≤ k) (hk : k < Ak.slots.size) (hv : v = f k) : Laid A (Ak.setSlot k v) lo (k + 1) f := by
  refine ⟨h.1, h.2.1, by simpa [Cell.setSlot] using h.2.2.1, fun i => ?_⟩
  by_cases e : k = i
  · subst e; rw [Cell.slots_setSlot_self v hk, if_pos (by omega), hv]
  · rw [Cell.slots_setSlot_ne v e, h.2.2.2 i]
    by_cases q : lo ≤ i ∧ i < k
    · rw [if_pos q, if_pos (by omega)]
    · rw [if_neg q, if_neg (by omega)]
def U16 : String := "java/lang/StringUTF16"
namespace Cmp5
def yN : MethodName := ⟨"java/lang/StringUTF16", "compress", "([CI[BII)I"⟩
abbrev yB : ByteArray := jdk_52_method_21_code
theorem d0 : decode yB 0 = .ok (.iconst 0, 1) := by decide +kernel
theorem d1 : decode yB 1 = .ok (.istore 5, 2) := by decide +kernel
theorem d3 : decode yB 3 = .ok (.iload 5, 2) := by decide +kernel
theorem d5 : decode yB 5 = .ok (.iload 4, 2) := by decide +kernel
theorem d7 : decode yB 7 = .ok (.if_icmp (.ge) 37, 3) := by decide +kernel
theorem d10 : decode yB 10 = .ok (.aload_n 0, 1) := by decide +kernel
theorem d11 : decode yB 11 = .ok (.iload_n 1, 1) := by decide +kernel
theorem d12 : decode yB 12 = .ok (.caload, 1) := by decide +kernel
theorem d13 : decode yB 13 = .ok (.istore 6, 2) := by decide +kernel
theorem d15 : decode yB 15 = .ok (.iload 6, 2) := by decide +kernel
theorem d17 : decode yB 17 = .ok (.sipush 255, 3) := by decide +kernel
theorem d20 : decode yB 20 = .ok (.if_icmp (.le) 6, 3) := by decide +kernel
theorem d26 : decode yB 26 = .ok (.aload_n 2, 1) := by decide +kernel
theorem d27 : decode yB 27 = .ok (.iload_n 3, 1) := by decide +kernel
theorem d28 : decode yB 28 = .ok (.iload 6, 2) := by decide +kernel
theorem d30 : decode yB 30 = .ok (.i2b, 1) := by decide +kernel
theorem d31 : decode yB 31 = .ok (.bastore, 1) := by decide +kernel
theorem d32 : decode yB 32 = .ok (.iinc 1 1, 3) := by decide +kernel
theorem d35 : decode yB 35 = .ok (.iinc 3 1, 3) := by decide +kernel
theorem d38 : decode yB 38 = .ok (.iinc 5 1, 3) := by decide +kernel
theorem d41 : decode yB 41 = .ok (.goto (-38), 3) := by decide +kernel
theorem d44 : decode yB 44 = .ok (.iload 4, 2) := by decide +kernel
theorem d46 : decode yB 46 = .ok (.ireturn, 1) := by decide +kernel
def site : List Cond := []
def tab : Cond := tabOf yN yB 7 (some .int) site
def P (b : Addr) (A : Cell) (d : Addr) (B : Cell) (o q len : Nat) (args : Array Value) (s : State) : Prop := args = #[.ref b, .int (Int32.ofNat o), .ref d, .int (Int32.ofNat q), .int (Int32.ofNat len)] ∧ Ch b A s ∧ Arr .byte d B s ∧ b ≠ d ∧ o + len ≤ A.slots.size ∧ q + len ≤ B.slots.size ∧ ∀ i, i < len → ¬ 255 < cv A (o + i)
def E (b : Addr) (A : Cell) (d : Addr) (B : Cell) (o q len : Nat) (r : Option Value) (s u : State) : Prop := r = some (.int (Int32.ofNat len)) ∧ ∃ B', Put d B' s u ∧ Laid B B' q (q + len) (fun j => Value.int (lo8 (cv A (o + (j - q)))))
/-- no char of the range above 255: len; the places written hold each char's low byte -/
theorem law (l : Launch) (b : Addr) (A : Cell) (d : Addr) (B : Cell) (o q len : Nat) : Law l yN 5 5 0 0 yB 7 (some .int) site (P b A d B o q len) (E b A d B o q len) (copyLocs d q len) 0 0 := by
  refine Law.of_walk (plainFor_of_name (by decide +kernel)) (by decide +kernel) (by decide +kernel) (by decide) (fun _ _ h => by rw [h.1]; rfl) (fun _ U U' hal hh h => ⟨h.1, h.2.1.mv hal hh, h.2.2.1.mv hal hh, h.2.2.2⟩) (fun r U U' V V' h1 hal h2 h => ⟨h.1, h.2.elim fun B' q => ⟨B', q.1.mv h1 h2, q.2⟩⟩) ?_
  intro p e s m args below meth c s₁ X0 hexec hbytes hml hret hlk hnm hown hh0 W hP
  obtain ⟨rfl, hA, hB, hne, l1, l2, hp⟩ := hP
  have c1 : Steps p.tables e below (s₁.setTop (entryFrame m #[.ref b, .int (Int32.ofNat o), .ref d, .int (Int32.ofNat q), .int (Int32.ofNat len)] 7)) (s₁.setTop (mkF m 0 #[.val (.ref b), .val (.int (Int32.ofNat o)), .val (.ref d), .val (.int (Int32.ofNat q)), .val (.int (Int32.ofNat len)), .unset, .unset] [])) := entry rfl
  have hA0 := hA.1.mv X0.warmed.alike hh0
  have hB0 := hB.mv X0.warmed.alike hh0
  have a31 := hA.1.2.2.2
  have c2 : Steps p.tables e below (s₁.setTop (entryFrame m #[.ref b, .int (Int32.ofNat o), .ref d, .int (Int32.ofNat q), .int (Int32.ofNat len)] 7)) (s₁.setTop (mkF m 3 #[.val (.ref b), .val (.int (Int32.ofNat o)), .val (.ref d), .val (.int (Int32.ofNat q)), .val (.int (Int32.ofNat len)), .val (.int 0), .unset] [])) := c1.trans (by
    refine iconstV X0.here hexec rfl 0 (hb hbytes d0) (by decide) ?_
    refine XS.istore X0.here hexec rfl (hb hbytes d1) rfl rfl ?_
    exact Steps.refl _)
  have loop : ∀ (r i : Nat), i + r = len → ∀ (z : Slot), (z = .unset ∨ ∃ w, z = .val w ∧ w.category = 1) → ∀ (Tl : State) (Bk : Cell), Stand p l e { frames := 0, locals := 0, cells := 0, slots := 0 } s m #[.ref b, .int (Int32.ofNat o), .ref d, .int (Int32.ofNat q), .int (Int32.ofNat len)] below meth c Tl ([] ++ copyLocs d q i) 0 0 → Put d Bk s₁ Tl → Laid B Bk q (q + i) (fun j => Value.int (lo8 (cv A (o + (j - q))))) →
      Steps p.tables e below (s₁.setTop (entryFrame m #[.ref b, .int (Int32.ofNat o), .ref d, .int (Int32.ofNat q), .int (Int32.ofNat len)] 7)) (Tl.setTop (mkF m 3 #[.val (.ref b), .val (.int (Int32.ofNat (o + i))), .val (.ref d), .val (.int (Int32.ofNat (q + i))), .val (.int (Int32.ofNat len)), .val (.int (Int32.ofNat i)), z] [])) → ∃ (T' : State) (B' : Cell) (z' : Slot), Stand p l e { frames := 0, locals := 0, cells := 0, slots := 0 } s m #[.ref b, .int (Int32.ofNat o), .ref d, .int (Int32.ofNat q), .int (Int32.ofNat len)] below meth c T' ([] ++ copyLocs d q len) 0 0 ∧ Put d B' s₁ T' ∧ Laid B B' q (q + len) (fun j => Value.int (lo8 (cv A (o + (j - q))))) ∧
      Steps p.tables e below (s₁.setTop (entryFrame m #[.ref b, .int (Int32.ofNat o), .ref d, .int (Int32.ofNat q), .int (Int32.ofNat len)] 7)) (T'.setTop (mkF m 3 #[.val (.ref b), .val (.int (Int32.ofNat (o + len))), .val (.ref d), .val (.int (Int32.ofNat (q + len))), .val (.int (Int32.ofNat len)), .val (.int (Int32.ofNat len)), z'] [])) := by
    intro r
    induction r with
    | zero =>
      intro i hi z hz Tl Bk Xl pl fl cl
      have hil : i = len := by omega
      rw [hil] at Xl fl cl
      exact ⟨Tl, Bk, z, Xl, pl, fl, cl⟩
    | succ r ih =>
      intro i hi z hz Tl Bk Xl pl fl cl
      have all := X0.warmed.alike.symm.trans Xl.warmed.alike
      have hAl := hA0.keep all (pl.other hne hA0.1)
      have hBk := hB0.like all pl.1 fl.1 fl.2.1 fl.2.2.1
      have hlt : q + i < Bk.slots.size := by rw [fl.2.2.1]; omega
      have c3 : Steps p.tables e below (s₁.setTop (entryFrame m #[.ref b, .int (Int32.ofNat o), .ref d, .int (Int32.ofNat q), .int (Int32.ofNat len)] 7)) (Tl.setTop (mkF m 12 #[.val (.ref b), .val (.int (Int32.ofNat (o + i))), .val (.ref d), .val (.int (Int32.ofNat (q + i))), .val (.int (Int32.ofNat len)), .val (.int (Int32.ofNat i)), z] [.int (Int32.ofNat (o + i)), .ref b])) := cl.trans (by
        refine XS.iload Xl.here hexec rfl (hb hbytes d3) rfl ?_
        refine XS.iload Xl.here hexec rfl (hb hbytes d5) rfl ?_
        refine XS.icmpNo Xl.here hexec rfl (hb hbytes d7) rfl (ii_ge_f (lt32 (by omega) (by omega))) ?_
        refine XS.aloadN Xl.here hexec rfl (hb hbytes d10) rfl rfl ?_
        refine XS.iloadN Xl.here hexec rfl (hb hbytes d11) rfl ?_
        exact Steps.refl _)
      have c4 : Steps p.tables e below (s₁.setTop (entryFrame m #[.ref b, .int (Int32.ofNat o), .ref d, .int (Int32.ofNat q), .int (Int32.ofNat len)] 7)) (Tl.setTop (mkF m 13 #[.val (.ref b), .val (.int (Int32.ofNat (o + i))), .val (.ref d), .val (.int (Int32.ofNat (q + i))), .val (.int (Int32.ofNat len)), .val (.int (Int32.ofNat i)), z] [.int (cv A (o + i))])) := c3.trans (by
        refine Xl.aget hexec hAl rfl (hA.get (i := o + i) (by omega)) rfl rfl (hb hbytes d12) ?_
        exact Steps.refl _)
      have c5 : Steps p.tables e below (s₁.setTop (entryFrame m #[.ref b, .int (Int32.ofNat o), .ref d, .int (Int32.ofNat q), .int (Int32.ofNat len)] 7)) (Tl.setTop (mkF m 15 #[.val (.ref b), .val (.int (Int32.ofNat (o + i))), .val (.ref d), .val (.int (Int32.ofNat (q + i))), .val (.int (Int32.ofNat len)), .val (.int (Int32.ofNat i)), .val (.int (cv A (o + i)))] [])) := c4.trans (by
        refine XS.istoreS Xl.here hexec rfl (hb hbytes d13) rfl rfl hz ?_
        exact Steps.refl _)
      have c6 : Steps p.tables e below (s₁.setTop (entryFrame m #[.ref b, .int (Int32.ofNat o), .ref d, .int (Int32.ofNat q), .int (Int32.ofNat len)] 7)) (Tl.setTop (mkF m 31 #[.val (.ref b), .val (.int (Int32.ofNat (o + i))), .val (.ref d), .val (.int (Int32.ofNat (q + i))), .val (.int (Int32.ofNat len)), .val (.int (Int32.ofNat i)), .val (.int (cv A (o + i)))] [.int (lo8 (cv A (o + i))), .int (Int32.ofNat (q + i)), .ref d])) := c5.trans (by
        refine XS.iload Xl.here hexec rfl (hb hbytes d15) rfl ?_
        refine sipushV Xl.here hexec rfl 255 (hb hbytes d17) (by decide) ?_
        refine XS.icmpYes Xl.here hexec rfl (pc0 := 20) rfl (hb hbytes d20) rfl (ii_le_t (hp i (by omega))) (by decide) rfl ?_
        refine XS.aloadN Xl.here hexec rfl (hb hbytes d26) rfl rfl ?_
        refine XS.iloadN Xl.here hexec rfl (hb hbytes d27) rfl ?_
        refine XS.iload Xl.here hexec rfl (hb hbytes d28) rfl ?_
        refine i2b Xl.here hexec rfl (hb hbytes d30) rfl ?_
        exact Steps.refl _)
      obtain ⟨T7, X7, p7, st7⟩ := Xl.aput hexec hBk rfl hlt rfl (fits_lo8 (cv A (o + i))) (g := (mkF m 31 #[.val (.ref b), .val (.int (Int32.ofNat (o + i))), .val (.ref d), .val (.int (Int32.ofNat (q + i))), .val (.int (Int32.ofNat len)), .val (.int (Int32.ofNat i)), .val (.int (cv A (o + i)))] [.int (lo8 (cv A (o + i))), .int (Int32.ofNat (q + i)), .ref d])) rfl (rest := []) rfl (hb hbytes d31)
      have c8 : Steps p.tables e below (s₁.setTop (entryFrame m #[.ref b, .int (Int32.ofNat o), .ref d, .int (Int32.ofNat q), .int (Int32.ofNat len)] 7)) (T7.setTop (mkF m 32 #[.val (.ref b), .val (.int (Int32.ofNat (o + i))), .val (.ref d), .val (.int (Int32.ofNat (q + i))), .val (.int (Int32.ofNat len)), .val (.int (Int32.ofNat i)), .val (.int (cv A (o + i)))] [])) := c6.trans (st7 _ (Steps.refl _))
      have c9 : Steps p.tables e below (s₁.setTop (entryFrame m #[.ref b, .int (Int32.ofNat o), .ref d, .int (Int32.ofNat q), .int (Int32.ofNat len)] 7)) (T7.setTop (mkF m 3 #[.val (.ref b), .val (.int (Int32.ofNat (o + i) + 1)), .val (.ref d), .val (.int (Int32.ofNat (q + i) + 1)), .val (.int (Int32.ofNat len)), .val (.int (Int32.ofNat i + 1)), .val (.int (cv A (o + i)))] [])) := c8.trans (by
        refine iincV X7.here hexec rfl 1 (hb hbytes d32) (by decide) rfl rfl ?_
        refine iincV X7.here hexec rfl 1 (hb hbytes d35) (by decide) rfl rfl ?_
        refine iincV X7.here hexec rfl 1 (hb hbytes d38) (by decide) rfl rfl ?_
        refine XS.goto X7.here hexec rfl (pc0 := 41) rfl (hb hbytes d41) (by decide) rfl ?_
        exact Steps.refl _)
      have c10 : Steps p.tables e below (s₁.setTop (entryFrame m #[.ref b, .int (Int32.ofNat o), .ref d, .int (Int32.ofNat q), .int (Int32.ofNat len)] 7)) (T7.setTop (mkF m 3 #[.val (.ref b), .val (.int (Int32.ofNat (o + (i + 1)))), .val (.ref d), .val (.int (Int32.ofNat (q + (i + 1)))), .val (.int (Int32.ofNat len)), .val (.int (Int32.ofNat (i + 1))), .val (.int (cv A (o + i)))] [])) := by
        have := c9
        rw [succ32, succ32, succ32] at this
        exact this
      exact ih (i + 1) (by omega) _ (Or.inr ⟨_, rfl, rfl⟩) T7 _ (by rw [copyLocs_step, ← List.append_assoc]; exact X7) (pl.trans p7) (fl.step (by omega) hlt (by simp)) c10
  obtain ⟨T9, B9, z9, X9, p9, f9, g9⟩ := loop len 0 (by omega) .unset (Or.inl rfl) s₁ B (by simpa [copyLocs] using X0) ⟨hB0.1, fun _ _ => rfl, rfl⟩ (Laid.zero _ _ _) c2
  have c11 : Steps p.tables e below (s₁.setTop (entryFrame m #[.ref b, .int (Int32.ofNat o), .ref d, .int (Int32.ofNat q), .int (Int32.ofNat len)] 7)) (T9.setTop (mkF m 46 #[.val (.ref b), .val (.int (Int32.ofNat (o + len))), .val (.ref d), .val (.int (Int32.ofNat (q + len))), .val (.int (Int32.ofNat len)), .val (.int (Int32.ofNat len)), z9] [.int (Int32.ofNat len)])) := g9.trans (by
    refine XS.iload X9.here hexec rfl (hb hbytes d3) rfl ?_
    refine XS.iload X9.here hexec rfl (hb hbytes d5) rfl ?_
    refine XS.icmpYes X9.here hexec rfl (pc0 := 7) rfl (hb hbytes d7) rfl (ii_ge_t (nlt32 (by omega) (Nat.le_refl _))) (by decide) rfl ?_
    refine XS.iload X9.here hexec rfl (hb hbytes d44) rfl ?_
    exact Steps.refl _)
  exact ⟨T9, some (.int (Int32.ofNat len)), _, _, _, X9, by simp, rfl, rfl, (fun h => by cases h), ⟨rfl, B9, p9.from hh0, f9⟩, fun fs hl => c11.trans (X9.ireturnOut hexec hret rfl (Or.inl rfl) (hb hbytes d46) hl)⟩
end Cmp5
namespace Cmp3
def yN : MethodName := ⟨"java/lang/StringUTF16", "compress", "([CII)[B"⟩
abbrev yB : ByteArray := jdk_52_method_16_code
theorem d0 : decode yB 0 = .ok (.iload_n 2, 1) := by decide +kernel
theorem d1 : decode yB 1 = .ok (.newarray .byte, 2) := by decide +kernel
theorem d3 : decode yB 3 = .ok (.astore_n 3, 1) := by decide +kernel
theorem d4 : decode yB 4 = .ok (.aload_n 0, 1) := by decide +kernel
theorem d5 : decode yB 5 = .ok (.iload_n 1, 1) := by decide +kernel
theorem d6 : decode yB 6 = .ok (.aload_n 3, 1) := by decide +kernel
theorem d7 : decode yB 7 = .ok (.iconst 0, 1) := by decide +kernel
theorem d8 : decode yB 8 = .ok (.iload_n 2, 1) := by decide +kernel
theorem d9 : decode yB 9 = .ok (.invokestatic 115, 3) := by decide +kernel
theorem d12 : decode yB 12 = .ok (.istore 4, 2) := by decide +kernel
theorem d14 : decode yB 14 = .ok (.iload 4, 2) := by decide +kernel
theorem d16 : decode yB 16 = .ok (.iload_n 2, 1) := by decide +kernel
theorem d17 : decode yB 17 = .ok (.if_icmp (.eq) 40, 3) := by decide +kernel
theorem d57 : decode yB 57 = .ok (.aload_n 3, 1) := by decide +kernel
theorem d58 : decode yB 58 = .ok (.areturn, 1) := by decide +kernel
def site : List Cond := [.arrayClass .byte, Cmp5.tab] ++ staticW U16 115 Cmp5.yN
def tab : Cond := tabOf yN yB 6 (some (.array .byte)) site
def P (b : Addr) (A : Cell) (o len : Nat) (args : Array Value) (s : State) : Prop := args = #[.ref b, .int (Int32.ofNat o), .int (Int32.ofNat len)] ∧ Ch b A s ∧ o + len ≤ A.slots.size ∧ len ≤ 536870912 ∧ ∀ i, i < len → ¬ 255 < cv A (o + i)
def E (b : Addr) (A : Cell) (o len : Nat) (r : Option Value) (s u : State) : Prop := NewArr .byte "[B" len (fun j => .int (lo8 (cv A (o + j)))) r s u ∧ u.heap.size = s.heap.size + 1
/-- no char of the range above 255: a new byte[] of their low bytes -/
theorem law (l : Launch) (b : Addr) (A : Cell) (o len : Nat) : Law l yN 3 3 1 18 yB 6 (some (.array .byte)) site (P b A o len) (E b A o len) [] 1 len := by
  refine Law.of_walk (plainFor_of_name (by decide +kernel)) (by decide +kernel) (by decide +kernel) (by decide) (fun _ _ h => by rw [h.1]; rfl) (fun _ U U' hal hh h => ⟨h.1, h.2.1.mv hal hh, h.2.2⟩) (fun r U U' V V' h1 hal h2 h => ⟨NewArr.mv r U U' V V' h1 hal h2 h.1, by rw [h1, h2]; exact h.2⟩) ?_
  intro p e s m args below meth c s₁ X0 hexec hbytes hml hret hlk hnm hown hh0 W hP
  obtain ⟨rfl, hA, l1, l2, hp⟩ := hP
  have a31 := hA.1.2.2.2
  have c1 : Steps p.tables e below (s₁.setTop (entryFrame m #[.ref b, .int (Int32.ofNat o), .int (Int32.ofNat len)] 6)) (s₁.setTop (mkF m 0 #[.val (.ref b), .val (.int (Int32.ofNat o)), .val (.int (Int32.ofNat len)), .unset, .unset, .unset] [])) := entry rfl
  have c2 : Steps p.tables e below (s₁.setTop (entryFrame m #[.ref b, .int (Int32.ofNat o), .int (Int32.ofNat len)] 6)) (s₁.setTop (mkF m 1 #[.val (.ref b), .val (.int (Int32.ofNat o)), .val (.int (Int32.ofNat len)), .unset, .unset, .unset] [.int (Int32.ofNat len)])) := c1.trans (by
    refine XS.iloadN X0.here hexec rfl (hb hbytes d0) rfl ?_
    exact Steps.refl _)
  obtain ⟨T3, B3, X3, ba3, bs3, bv3, bh3, bf3, st3⟩ := X0.anew hexec (atype := .byte) (wk W (.arrayClass .byte)) rfl (by show len * 1 ≤ _; omega) (by omega) (g := (mkF m 1 #[.val (.ref b), .val (.int (Int32.ofNat o)), .val (.int (Int32.ofNat len)), .unset, .unset, .unset] [.int (Int32.ofNat len)])) rfl (hb hbytes d1) (rest := []) rfl (Nat.le_refl _) (by show 0 + len ≤ len; omega)
  rw [hh0] at ba3 st3
  have kp3 : XT.Kept s T3 := (XT.Kept.of_eq hh0).push bh3
  have hA3 := hA.keep X3.warmed.alike (kp3 _ _ hA.1.1)
  have hne : b ≠ s.heap.size := hA.1.ne
  have c4 : Steps p.tables e below (s₁.setTop (entryFrame m #[.ref b, .int (Int32.ofNat o), .int (Int32.ofNat len)] 6)) (T3.setTop (mkF m 3 #[.val (.ref b), .val (.int (Int32.ofNat o)), .val (.int (Int32.ofNat len)), .unset, .unset, .unset] [.ref s.heap.size])) := c2.trans (st3 _ (Steps.refl _))
  have c5 : Steps p.tables e below (s₁.setTop (entryFrame m #[.ref b, .int (Int32.ofNat o), .int (Int32.ofNat len)] 6)) (T3.setTop (mkF m 9 #[.val (.ref b), .val (.int (Int32.ofNat o)), .val (.int (Int32.ofNat len)), .val (.ref s.heap.size), .unset, .unset] [.int (Int32.ofNat len), .int 0, .ref s.heap.size, .int (Int32.ofNat o), .ref b])) := c4.trans (by
    refine XS.astoreN X3.here hexec rfl (hb hbytes d3) rfl rfl rfl ?_
    refine XS.aloadN X3.here hexec rfl (hb hbytes d4) rfl rfl ?_
    refine XS.iloadN X3.here hexec rfl (hb hbytes d5) rfl ?_
    refine XS.aloadN X3.here hexec rfl (hb hbytes d6) rfl rfl ?_
    refine iconstV X3.here hexec rfl 0 (hb hbytes d7) (by decide) ?_
    refine XS.iloadN X3.here hexec rfl (hb hbytes d8) rfl ?_
    exact Steps.refl _)
  obtain ⟨v6, T6, X6, E6, g6⟩ := X3.callS hexec (Cmp5.law l b A s.heap.size B3 o 0 len) hown (wks W (staticW U16 115 Cmp5.yN)) (wk W Cmp5.tab) (W := 0) (Nat.le_of_ble_eq_true rfl) (Nat.le_of_ble_eq_true rfl) (Nat.le_refl _) (by show 0 + len + 0 ≤ len; omega) (g := (mkF m 9 #[.val (.ref b), .val (.int (Int32.ofNat o)), .val (.int (Int32.ofNat len)), .val (.ref s.heap.size), .unset, .unset] [.int (Int32.ofNat len), .int (Int32.ofNat 0), .ref s.heap.size, .int (Int32.ofNat o), .ref b])) rfl (by rw [hml]; rfl) c5 (argsL := [.ref b, .int (Int32.ofNat o), .ref s.heap.size, .int (Int32.ofNat 0), .int (Int32.ofNat len)]) (rest := []) rfl rfl (by show 2 * 0 + 0 ≤ _; decide) (hb hbytes d9) (⟨rfl, hA3, ba3, hne, l1, by rw [bs3]; simp, hp⟩)
  obtain ⟨rfl, B6, p6, f6⟩ := E6
  have c7 : Steps p.tables e below (s₁.setTop (entryFrame m #[.ref b, .int (Int32.ofNat o), .int (Int32.ofNat len)] 6)) (T6.setTop (mkF m 12 #[.val (.ref b), .val (.int (Int32.ofNat o)), .val (.int (Int32.ofNat len)), .val (.ref s.heap.size), .unset, .unset] [.int (Int32.ofNat len)])) := g6
  have c8 : Steps p.tables e below (s₁.setTop (entryFrame m #[.ref b, .int (Int32.ofNat o), .int (Int32.ofNat len)] 6)) (T6.setTop (mkF m 58 #[.val (.ref b), .val (.int (Int32.ofNat o)), .val (.int (Int32.ofNat len)), .val (.ref s.heap.size), .val (.int (Int32.ofNat len)), .unset] [.ref s.heap.size])) := c7.trans (by
    refine XS.istore X6.here hexec rfl (hb hbytes d12) rfl rfl ?_
    refine XS.iload X6.here hexec rfl (hb hbytes d14) rfl ?_
    refine XS.iloadN X6.here hexec rfl (hb hbytes d16) rfl ?_
    refine XS.icmpYes X6.here hexec rfl (pc0 := 17) rfl (hb hbytes d17) rfl (ii_eq_t rfl) (by decide) rfl ?_
    refine XS.aloadN X6.here hexec rfl (hb hbytes d57) rfl rfl ?_
    exact Steps.refl _)
  have X8 := X6.wide (L' := []) (cells' := 1) (slots' := len) (fun x hx hlt => by
    simp only [List.nil_append, copyLocs, List.mem_map, List.mem_range] at hx
    obtain ⟨i, -, rfl⟩ := hx
    exact absurd hlt (Nat.lt_irrefl _)) (Nat.le_refl _) (by omega)
  exact ⟨T6, some (.ref s.heap.size), _, _, _, X8, rfl, rfl, rfl, (fun h => by cases h), ⟨⟨rfl, B6, ba3.like (X3.warmed.alike.symm.trans X6.warmed.alike) p6.1 f6.1 f6.2.1 f6.2.2.1, f6.2.1.trans bv3, by rw [X6.warmed.alike.findClass, f6.1]; exact bf3, by rw [f6.2.2.1, bs3]; simp, fun j hj => by rw [f6.2.2.2 j, if_pos (by omega)]; rfl, kp3.put p6 (Nat.le_refl _)⟩, by rw [p6.2.2, bh3, hh0]; simp⟩, fun fs hl => c8.trans (X8.areturnOut hexec rfl hret rfl (hb hbytes d58) hl)⟩
end Cmp3
namespace CodL
def yN : MethodName := ⟨"java/lang/StringUTF16", "coderFromArrayLen", "([BI)B"⟩
abbrev yB : ByteArray := jdk_52_method_15_code
theorem d0 : decode yB 0 = .ok (.iload_n 1, 1) := by decide +kernel
theorem d1 : decode yB 1 = .ok (.aload_n 0, 1) := by decide +kernel
theorem d2 : decode yB 2 = .ok (.arraylength, 1) := by decide +kernel
theorem d3 : decode yB 3 = .ok (.isub, 1) := by decide +kernel
theorem d4 : decode yB 4 = .ok (.bipush 31, 2) := by decide +kernel
theorem d6 : decode yB 6 = .ok (.iushr, 1) := by decide +kernel
theorem d7 : decode yB 7 = .ok (.i2b, 1) := by decide +kernel
theorem d8 : decode yB 8 = .ok (.ireturn, 1) := by decide +kernel
def site : List Cond := []
def tab : Cond := tabOf yN yB 2 (some .byte) site
def P (d : Addr) (B : Cell) (args : Array Value) (s : State) : Prop := args = #[.ref d, .int (Int32.ofNat B.slots.size)] ∧ Arr .byte d B s
def E (r : Option Value) (s u : State) : Prop := XT.PureE (some (.int 0)) r s u
/-- an array as long as the number of chars: LATIN1 -/
theorem law (l : Launch) (d : Addr) (B : Cell) : Law l yN 2 2 0 0 yB 2 (some .byte) site (P d B) E [] 0 0 := by
  refine Law.of_walk (plainFor_of_name (by decide +kernel)) (by decide +kernel) (by decide +kernel) (by decide) (fun _ _ h => by rw [h.1]; rfl) (fun _ U U' hal hh h => ⟨h.1, h.2.mv hal hh⟩) (fun r U U' V V' h1 hal h2 h => XT.PureE.mv r U U' V V' h1 hal h2 h) ?_
  intro p e s m args below meth c s₁ X0 hexec hbytes hml hret hlk hnm hown hh0 W hP
  obtain ⟨rfl, hB⟩ := hP
  have hB0 := hB.mv X0.warmed.alike hh0
  have c1 : Steps p.tables e below (s₁.setTop (entryFrame m #[.ref d, .int (Int32.ofNat B.slots.size)] 2)) (s₁.setTop (mkF m 0 #[.val (.ref d), .val (.int (Int32.ofNat B.slots.size))] [])) := entry rfl
  have c2 : Steps p.tables e below (s₁.setTop (entryFrame m #[.ref d, .int (Int32.ofNat B.slots.size)] 2)) (s₁.setTop (mkF m 2 #[.val (.ref d), .val (.int (Int32.ofNat B.slots.size))] [.ref d, .int (Int32.ofNat B.slots.size)])) := c1.trans (by
    refine XS.iloadN X0.here hexec rfl (hb hbytes d0) rfl ?_
    refine XS.aloadN X0.here hexec rfl (hb hbytes d1) rfl rfl ?_
    exact Steps.refl _)
  have c3 : Steps p.tables e below (s₁.setTop (entryFrame m #[.ref d, .int (Int32.ofNat B.slots.size)] 2)) (s₁.setTop (mkF m 8 #[.val (.ref d), .val (.int (Int32.ofNat B.slots.size))] [.int (lo8 (ushr (Int32.ofNat B.slots.size - Int32.ofNat B.slots.size) 31))])) := c2.trans (by
    refine X0.alen hexec hB0 rfl rfl (hb hbytes d2) ?_
    refine XS.isub X0.here hexec rfl (hb hbytes d3) rfl ?_
    refine bipushV X0.here hexec rfl 31 (hb hbytes d4) (by decide) ?_
    refine iushr X0.here hexec rfl (hb hbytes d6) rfl ?_
    refine i2b X0.here hexec rfl (hb hbytes d7) rfl ?_
    exact Steps.refl _)
  have e0 : lo8 (ushr (Int32.ofNat B.slots.size - Int32.ofNat B.slots.size) 31) = 0 := by rw [Int32.sub_self]; decide
  rw [e0] at c3
  exact ⟨s₁, some (.int 0), _, _, _, X0, rfl, rfl, rfl, (fun h => by cases h), ⟨rfl, hh0⟩, fun fs hl => c3.trans (X0.ireturnOut hexec hret rfl (Or.inr (Or.inr (Or.inl rfl))) (hb hbytes d8) hl)⟩
end CodL
/-- the String at a is Latin-1 over a new byte[] (the heap's one new cell): the low bytes of the len chars of A from o on; every cell but a is kept -/
def Got (a : Addr) (D : Cell) (fV fC : Field) (A : Cell) (o len : Nat) (r : Option Value) (s u : State) : Prop := r = none ∧ ∃ D' V : Cell, Blank "java/lang/String" a D' u ∧ Same D D' [fV.slot, fC.slot] ∧ D'.slots[fV.slot]? = some (.ref s.heap.size) ∧ D'.slots[fC.slot]? = some (.int 0) ∧ Arr .byte s.heap.size V u ∧ V.vm = .none ∧ u.vm.findClass "[B" = some V.cls ∧ V.slots.size = len ∧ (∀ j, j < len → V.slots[j]? = some (.int (lo8 (cv A (o + j))))) ∧ (∀ (y : Addr) (c : Cell), y ≠ a → s.heap[y]? = some c → u.heap[y]? = some c) ∧ u.heap.size = s.heap.size + 1
theorem Got.mv {a : Addr} {D A : Cell} {fV fC : Field} {o len : Nat} : ∀ r (U U' V V' : State), U'.heap = U.heap → V.vm.Alike V'.vm → V'.heap = V.heap → Got a D fV fC A o len r U V → Got a D fV fC A o len r U' V' :=
  fun r U U' V V' h1 hal h2 ⟨e0, D', X, a1, a2, a3, a4, a5, a6, a7, a8, a9, a10, a11⟩ => ⟨e0, D', X, a1.mv hal h2, a2, by rw [h1]; exact a3, a4, by rw [h1]; exact a5.mv hal h2, a6, by rw [hal.findClass]; exact a7, a8, a9, by rw [h1, h2]; exact a10, by rw [h1, h2]; exact a11⟩
namespace New4
def yN : MethodName := ⟨"java/lang/String", "<init>", "([CIILjava/lang/Void;)V"⟩
abbrev yB : ByteArray := jdk_42_method_149_code
theorem d0 : decode yB 0 = .ok (.aload_n 0, 1) := by decide +kernel
theorem d1 : decode yB 1 = .ok (.invokespecial 1, 3) := by decide +kernel
theorem d4 : decode yB 4 = .ok (.iload_n 3, 1) := by decide +kernel
theorem d5 : decode yB 5 = .ok (.ifCond (.ne) 22, 3) := by decide +kernel
theorem d27 : decode yB 27 = .ok (.getstatic 38, 3) := by decide +kernel
theorem d30 : decode yB 30 = .ok (.ifCond (.eq) 28, 3) := by decide +kernel
theorem d33 : decode yB 33 = .ok (.aload_n 1, 1) := by decide +kernel
theorem d34 : decode yB 34 = .ok (.iload_n 2, 1) := by decide +kernel
theorem d35 : decode yB 35 = .ok (.iload_n 3, 1) := by decide +kernel
theorem d36 : decode yB 36 = .ok (.invokestatic 177, 3) := by decide +kernel
theorem d39 : decode yB 39 = .ok (.astore 5, 2) := by decide +kernel
theorem d41 : decode yB 41 = .ok (.aload_n 0, 1) := by decide +kernel
theorem d42 : decode yB 42 = .ok (.aload 5, 2) := by decide +kernel
theorem d44 : decode yB 44 = .ok (.iload_n 3, 1) := by decide +kernel
theorem d45 : decode yB 45 = .ok (.invokestatic 47, 3) := by decide +kernel
theorem d48 : decode yB 48 = .ok (.putfield 15, 3) := by decide +kernel
theorem d51 : decode yB 51 = .ok (.aload_n 0, 1) := by decide +kernel
theorem d52 : decode yB 52 = .ok (.aload 5, 2) := by decide +kernel
theorem d54 : decode yB 54 = .ok (.putfield 9, 3) := by decide +kernel
theorem d57 : decode yB 57 = .ok (.return_, 1) := by decide +kernel
def site : List Cond := [.fieldLink "java/lang/String" 38 "java/lang/String" "COMPACT_STRINGS" "Z", Cmp3.tab, CodL.tab, .laysFinal "java/lang/String" "java/lang/String" "value" "[B", .fieldLink "java/lang/String" 9 "java/lang/String" "value" "[B", .laysFinal "java/lang/String" "java/lang/String" "coder" "B", .fieldLink "java/lang/String" 15 "java/lang/String" "coder" "B"] ++ objW "java/lang/String" 1 ++ staticW "java/lang/String" 177 Cmp3.yN ++ staticW "java/lang/String" 47 CodL.yN
def tab : Cond := tabOf yN yB 6 none site
def P (a : Addr) (D : Cell) (fV fC : Field) (b : Addr) (A : Cell) (z : Int32) (o len : Nat) (args : Array Value) (s : State) : Prop := args = #[.ref a, .ref b, .int (Int32.ofNat o), .int (Int32.ofNat len), .null] ∧ Blank "java/lang/String" a D s ∧ Found "java/lang/String" "value" "[B" fV s ∧ Found "java/lang/String" "coder" "B" fC s ∧ Ch b A s ∧ StaticIs s "java/lang/String" "COMPACT_STRINGS" "Z" (.int z) ∧ ¬ z = 0 ∧ 0 < len ∧ o + len ≤ A.slots.size ∧ len ≤ 536870912 ∧ ∀ i, i < len → ¬ 255 < cv A (o + i)
def E (a : Addr) (D : Cell) (fV fC : Field) (A : Cell) (o len : Nat) (r : Option Value) (s u : State) : Prop := Got a D fV fC A o len r s u
/-- len > 0, no char of the range above 255: a Latin-1 String of their low bytes -/
theorem law (l : Launch) (a : Addr) (D : Cell) (fV fC : Field) (b : Addr) (A : Cell) (z : Int32) (o len : Nat) : Law l yN 5 4 2 35 yB 6 none site (P a D fV fC b A z o len) (E a D fV fC A o len) [⟨a, fC.slot⟩, ⟨a, fV.slot⟩] 1 len := by
  refine Law.of_walk (plainFor_of_name (by decide +kernel)) (by decide +kernel) (by decide +kernel) (by decide) (fun _ _ h => by rw [h.1]; rfl) (fun _ U U' hal hh h => ⟨h.1, h.2.1.mv hal hh, h.2.2.1.al hal, h.2.2.2.1.al hal, h.2.2.2.2.1.mv hal hh, h.2.2.2.2.2.1.there hal hh, h.2.2.2.2.2.2⟩) (fun r U U' V V' h1 hal h2 h => Got.mv r U U' V V' h1 hal h2 h) ?_
  intro p e s m args below meth c s₁ X0 hexec hbytes hml hret hlk hnm hown hh0 W hP
  obtain ⟨rfl, hB, f1, f2, hA, s1, hz, l0, l1, l2, hp⟩ := hP
  have a31 := hA.1.2.2.2
  have c1 : Steps p.tables e below (s₁.setTop (entryFrame m #[.ref a, .ref b, .int (Int32.ofNat o), .int (Int32.ofNat len), .null] 6)) (s₁.setTop (mkF m 0 #[.val (.ref a), .val (.ref b), .val (.int (Int32.ofNat o)), .val (.int (Int32.ofNat len)), .val .null, .unset] [])) := entry rfl
  have c2 : Steps p.tables e below (s₁.setTop (entryFrame m #[.ref a, .ref b, .int (Int32.ofNat o), .int (Int32.ofNat len), .null] 6)) (s₁.setTop (mkF m 1 #[.val (.ref a), .val (.ref b), .val (.int (Int32.ofNat o)), .val (.int (Int32.ofNat len)), .val .null, .unset] [.ref a])) := c1.trans (by
    refine XS.aloadN X0.here hexec rfl (hb hbytes d0) rfl rfl ?_
    exact Steps.refl _)
  obtain ⟨T3, X3, q3, st3⟩ := X0.oinit hexec hown (wks W (objW "java/lang/String" 1)) (g := (mkF m 1 #[.val (.ref a), .val (.ref b), .val (.int (Int32.ofNat o)), .val (.int (Int32.ofNat len)), .val .null, .unset] [.ref a])) rfl (by rw [hml]; rfl) (rest := []) rfl (hb hbytes d1) (W := 0) (by show 2 * 0 + 0 ≤ _; decide) (Nat.le_of_ble_eq_true rfl) (Nat.le_of_ble_eq_true rfl)
  have hh3 := q3.trans hh0
  have c4 : Steps p.tables e below (s₁.setTop (entryFrame m #[.ref a, .ref b, .int (Int32.ofNat o), .int (Int32.ofNat len), .null] 6)) (T3.setTop (mkF m 27 #[.val (.ref a), .val (.ref b), .val (.int (Int32.ofNat o)), .val (.int (Int32.ofNat len)), .val .null, .unset] [])) := (c2.trans (st3 _ (Steps.refl _))).trans (by
    refine XS.iloadN X3.here hexec rfl (hb hbytes d4) rfl ?_
    refine XS.ifYes X3.here hexec rfl (pc0 := 5) rfl (hb hbytes d5) rfl (i0_ne_t (nz32 (by omega) l0)) (by decide) rfl ?_
    exact Steps.refl _)
  obtain ⟨T5, X5, q5, st5⟩ := X3.sget hexec hown (wk W (.fieldLink "java/lang/String" 38 "java/lang/String" "COMPACT_STRINGS" "Z")) s1 (fun _ _ h => by rw [hh3]; exact h) (g := (mkF m 27 #[.val (.ref a), .val (.ref b), .val (.int (Int32.ofNat o)), .val (.int (Int32.ofNat len)), .val .null, .unset] [])) rfl (hb hbytes d27)
  have hh5 := q5.trans hh3
  have c6 : Steps p.tables e below (s₁.setTop (entryFrame m #[.ref a, .ref b, .int (Int32.ofNat o), .int (Int32.ofNat len), .null] 6)) (T5.setTop (mkF m 30 #[.val (.ref a), .val (.ref b), .val (.int (Int32.ofNat o)), .val (.int (Int32.ofNat len)), .val .null, .unset] [.int z])) := c4.trans (st5 _ (Steps.refl _))
  have c7 : Steps p.tables e below (s₁.setTop (entryFrame m #[.ref a, .ref b, .int (Int32.ofNat o), .int (Int32.ofNat len), .null] 6)) (T5.setTop (mkF m 36 #[.val (.ref a), .val (.ref b), .val (.int (Int32.ofNat o)), .val (.int (Int32.ofNat len)), .val .null, .unset] [.int (Int32.ofNat len), .int (Int32.ofNat o), .ref b])) := c6.trans (by
    refine XS.ifNo X5.here hexec rfl (hb hbytes d30) rfl (i0_eq_f hz) ?_
    refine XS.aloadN X5.here hexec rfl (hb hbytes d33) rfl rfl ?_
    refine XS.iloadN X5.here hexec rfl (hb hbytes d34) rfl ?_
    refine XS.iloadN X5.here hexec rfl (hb hbytes d35) rfl ?_
    exact Steps.refl _)
  obtain ⟨v8, T8, X8, E8, g8⟩ := X5.callS hexec (Cmp3.law l b A o len) hown (wks W (staticW "java/lang/String" 177 Cmp3.yN)) (wk W Cmp3.tab) (W := 0) (Nat.le_of_ble_eq_true rfl) (Nat.le_of_ble_eq_true rfl) (Nat.le_refl _) (by show 0 + len ≤ len; omega) (g := (mkF m 36 #[.val (.ref a), .val (.ref b), .val (.int (Int32.ofNat o)), .val (.int (Int32.ofNat len)), .val .null, .unset] [.int (Int32.ofNat len), .int (Int32.ofNat o), .ref b])) rfl (by rw [hml]; rfl) c7 (argsL := [.ref b, .int (Int32.ofNat o), .int (Int32.ofNat len)]) (rest := []) rfl rfl (by show 2 * 0 + 0 ≤ _; decide) (hb hbytes d36) (⟨rfl, hA.mv X5.warmed.alike hh5, l1, l2, hp⟩)
  obtain ⟨e8, z8⟩ := E8
  obtain ⟨rfl, N, n1, n2, n3, n4, n5, n6⟩ := NewArr.mv _ T5 s _ _ hh5.symm (Vm.Alike.refl _) rfl e8
  rw [hh5] at z8
  have hB1 := hB.keep X8.warmed.alike (n6 _ _ hB.1)
  have hne : s.heap.size ≠ a := (Nat.ne_of_lt (Array.getElem?_eq_some_iff.mp hB.1).1).symm
  have c9 : Steps p.tables e below (s₁.setTop (entryFrame m #[.ref a, .ref b, .int (Int32.ofNat o), .int (Int32.ofNat len), .null] 6)) (T8.setTop (mkF m 39 #[.val (.ref a), .val (.ref b), .val (.int (Int32.ofNat o)), .val (.int (Int32.ofNat len)), .val .null, .unset] [.ref s.heap.size])) := g8
  have c10 : Steps p.tables e below (s₁.setTop (entryFrame m #[.ref a, .ref b, .int (Int32.ofNat o), .int (Int32.ofNat len), .null] 6)) (T8.setTop (mkF m 45 #[.val (.ref a), .val (.ref b), .val (.int (Int32.ofNat o)), .val (.int (Int32.ofNat len)), .val .null, .val (.ref s.heap.size)] [.int (Int32.ofNat N.slots.size), .ref s.heap.size, .ref a])) := by
    have hc : Steps p.tables e below (s₁.setTop (entryFrame m #[.ref a, .ref b, .int (Int32.ofNat o), .int (Int32.ofNat len), .null] 6)) (T8.setTop (mkF m 45 #[.val (.ref a), .val (.ref b), .val (.int (Int32.ofNat o)), .val (.int (Int32.ofNat len)), .val .null, .val (.ref s.heap.size)] [.int (Int32.ofNat len), .ref s.heap.size, .ref a])) := c9.trans (by
      refine XS.astore X8.here hexec rfl (hb hbytes d39) rfl rfl rfl ?_
      refine XS.aloadN X8.here hexec rfl (hb hbytes d41) rfl rfl ?_
      refine XS.aload X8.here hexec rfl (hb hbytes d42) rfl rfl ?_
      refine XS.iloadN X8.here hexec rfl (hb hbytes d44) rfl ?_
      exact Steps.refl _)
    rw [n4]; exact hc
  obtain ⟨v11, T11, X11, E11, g11⟩ := X8.callS hexec (CodL.law l s.heap.size N) hown (wks W (staticW "java/lang/String" 47 CodL.yN)) (wk W CodL.tab) (W := 1) (Nat.le_of_ble_eq_true rfl) (Nat.le_of_ble_eq_true rfl) (Nat.le_refl _) (by show 0 + len + 0 ≤ len; omega) (g := (mkF m 45 #[.val (.ref a), .val (.ref b), .val (.int (Int32.ofNat o)), .val (.int (Int32.ofNat len)), .val .null, .val (.ref s.heap.size)] [.int (Int32.ofNat N.slots.size), .ref s.heap.size, .ref a])) rfl (by rw [hml]; rfl) c10 (argsL := [.ref s.heap.size, .int (Int32.ofNat N.slots.size)]) (rest := [.ref a]) rfl rfl (by show 2 * 0 + (1 + 0) ≤ _; decide) (hb hbytes d45) (⟨rfl, n1⟩)
  obtain ⟨rfl, q11⟩ := E11
  have hB11 := hB1.mv (X8.warmed.alike.symm.trans X11.warmed.alike) q11
  have c12 : Steps p.tables e below (s₁.setTop (entryFrame m #[.ref a, .ref b, .int (Int32.ofNat o), .int (Int32.ofNat len), .null] 6)) (T11.setTop (mkF m 48 #[.val (.ref a), .val (.ref b), .val (.int (Int32.ofNat o)), .val (.int (Int32.ofNat len)), .val .null, .val (.ref s.heap.size)] [.int 0, .ref a])) := g11
  obtain ⟨T13, X13, p13, bl13, sl13, st13⟩ := X11.finit hexec hown (wk W (.fieldLink "java/lang/String" 15 "java/lang/String" "coder" "B")) (Or.inr ⟨_, (wk W (.laysFinal "java/lang/String" "java/lang/String" "coder" "B"))⟩) (Or.inl ⟨rfl, hnm⟩) f2 (Or.inl rfl) hB11 (t := .byte) (by decide +kernel) rfl (g := (mkF m 48 #[.val (.ref a), .val (.ref b), .val (.int (Int32.ofNat o)), .val (.int (Int32.ofNat len)), .val .null, .val (.ref s.heap.size)] [.int 0, .ref a])) rfl (rest := []) rfl (hb hbytes d48)
  have c14 : Steps p.tables e below (s₁.setTop (entryFrame m #[.ref a, .ref b, .int (Int32.ofNat o), .int (Int32.ofNat len), .null] 6)) (T13.setTop (mkF m 54 #[.val (.ref a), .val (.ref b), .val (.int (Int32.ofNat o)), .val (.int (Int32.ofNat len)), .val .null, .val (.ref s.heap.size)] [.ref s.heap.size, .ref a])) := (c12.trans (st13 _ (Steps.refl _))).trans (by
    refine XS.aloadN X13.here hexec rfl (hb hbytes d51) rfl rfl ?_
    refine XS.aload X13.here hexec rfl (hb hbytes d52) rfl rfl ?_
    exact Steps.refl _)
  obtain ⟨T15, X15, p15, bl15, sl15, st15⟩ := X13.finit hexec hown (wk W (.fieldLink "java/lang/String" 9 "java/lang/String" "value" "[B")) (Or.inr ⟨_, (wk W (.laysFinal "java/lang/String" "java/lang/String" "value" "[B"))⟩) (Or.inl ⟨rfl, hnm⟩) f1 (Or.inl rfl) bl13 (t := (.array .byte)) (by decide +kernel) rfl (g := (mkF m 54 #[.val (.ref a), .val (.ref b), .val (.int (Int32.ofNat o)), .val (.int (Int32.ofNat len)), .val .null, .val (.ref s.heap.size)] [.ref s.heap.size, .ref a])) rfl (rest := []) rfl (hb hbytes d54)
  have c16 : Steps p.tables e below (s₁.setTop (entryFrame m #[.ref a, .ref b, .int (Int32.ofNat o), .int (Int32.ofNat len), .null] 6)) (T15.setTop (mkF m 57 #[.val (.ref a), .val (.ref b), .val (.int (Int32.ofNat o)), .val (.int (Int32.ofNat len)), .val .null, .val (.ref s.heap.size)] [])) := c14.trans (st15 _ (Steps.refl _))
  have ap := apart (Or.inr ⟨_, (wk W (.laysFinal "java/lang/String" "java/lang/String" "value" "[B"))⟩) (Or.inr ⟨_, (wk W (.laysFinal "java/lang/String" "java/lang/String" "coder" "B"))⟩) f1 f2 (t₁ := .array .byte) (t₂ := .byte) (by decide +kernel) (by decide +kernel) (by decide)
  have al := X8.warmed.alike.symm.trans X15.warmed.alike
  have n7 : T11.heap[s.heap.size]? = some N := by rw [q11]; exact n1.1
  exact ⟨T15, none, _, _, _, X15, by simp, rfl, by omega, (fun _ => rfl), ⟨rfl, _, N, bl15, ((Same.refl D _).set _ (by simp)).set _ (by simp), sl15, (Cell.slots_setSlot_ne _ ap).trans sl13, n1.keep al (p15.other hne (p13.other hne n7)), n2, by rw [al.findClass]; exact n3, n4, n5, fun y c h1 h2 => p15.other h1 (p13.other h1 (by rw [q11]; exact n6 y c h2)), by rw [p15.2.2, p13.2.2, q11]; exact z8⟩, fun fs hl => c16.trans (X15.returnOut hexec hret (hb hbytes d57) hl)⟩
end New4
namespace New1
def yN : MethodName := ⟨"java/lang/String", "<init>", "([C)V"⟩
abbrev yB : ByteArray := jdk_42_method_3_code
theorem d0 : decode yB 0 = .ok (.aload_n 0, 1) := by decide +kernel
theorem d1 : decode yB 1 = .ok (.aload_n 1, 1) := by decide +kernel
theorem d2 : decode yB 2 = .ok (.iconst 0, 1) := by decide +kernel
theorem d3 : decode yB 3 = .ok (.aload_n 1, 1) := by decide +kernel
theorem d4 : decode yB 4 = .ok (.arraylength, 1) := by decide +kernel
theorem d5 : decode yB 5 = .ok (.aconst_null, 1) := by decide +kernel
theorem d6 : decode yB 6 = .ok (.invokespecial 27, 3) := by decide +kernel
theorem d9 : decode yB 9 = .ok (.return_, 1) := by decide +kernel
def site : List Cond := [New4.tab] ++ initW "java/lang/String" 27 New4.yN
def tab : Cond := tabOf yN yB 2 none site
def P (a : Addr) (D : Cell) (fV fC : Field) (b : Addr) (A : Cell) (z : Int32) (args : Array Value) (s : State) : Prop := args = #[.ref a, .ref b] ∧ Blank "java/lang/String" a D s ∧ Found "java/lang/String" "value" "[B" fV s ∧ Found "java/lang/String" "coder" "B" fC s ∧ Ch b A s ∧ StaticIs s "java/lang/String" "COMPACT_STRINGS" "Z" (.int z) ∧ ¬ z = 0 ∧ 0 < A.slots.size ∧ A.slots.size ≤ 536870912 ∧ ∀ i, i < A.slots.size → ¬ 255 < cv A i
def E (a : Addr) (D : Cell) (fV fC : Field) (A : Cell) (r : Option Value) (s u : State) : Prop := Got a D fV fC A 0 A.slots.size r s u
/-- new String(chars), not empty, no char above 255: a Latin-1 String of their low bytes -/
theorem law (l : Launch) (a : Addr) (D : Cell) (fV fC : Field) (b : Addr) (A : Cell) (z : Int32) : Law l yN 2 1 3 52 yB 2 none site (P a D fV fC b A z) (E a D fV fC A) [⟨a, fC.slot⟩, ⟨a, fV.slot⟩] 1 A.slots.size := by
  refine Law.of_walk (plainFor_of_name (by decide +kernel)) (by decide +kernel) (by decide +kernel) (by decide) (fun _ _ h => by rw [h.1]; rfl) (fun _ U U' hal hh h => ⟨h.1, h.2.1.mv hal hh, h.2.2.1.al hal, h.2.2.2.1.al hal, h.2.2.2.2.1.mv hal hh, h.2.2.2.2.2.1.there hal hh, h.2.2.2.2.2.2⟩) (fun r U U' V V' h1 hal h2 h => Got.mv r U U' V V' h1 hal h2 h) ?_
  intro p e s m args below meth c s₁ X0 hexec hbytes hml hret hlk hnm hown hh0 W hP
  obtain ⟨rfl, hB, f1, f2, hA, s1, hz, l0, l2, hp⟩ := hP
  have c1 : Steps p.tables e below (s₁.setTop (entryFrame m #[.ref a, .ref b] 2)) (s₁.setTop (mkF m 0 #[.val (.ref a), .val (.ref b)] [])) := entry rfl
  have c2 : Steps p.tables e below (s₁.setTop (entryFrame m #[.ref a, .ref b] 2)) (s₁.setTop (mkF m 6 #[.val (.ref a), .val (.ref b)] [.null, .int (Int32.ofNat A.slots.size), .int 0, .ref b, .ref a])) := c1.trans (by
    refine XS.aloadN X0.here hexec rfl (hb hbytes d0) rfl rfl ?_
    refine XS.aloadN X0.here hexec rfl (hb hbytes d1) rfl rfl ?_
    refine iconstV X0.here hexec rfl 0 (hb hbytes d2) (by decide) ?_
    refine XS.aloadN X0.here hexec rfl (hb hbytes d3) rfl rfl ?_
    refine X0.alen hexec (hA.1.mv X0.warmed.alike hh0) rfl rfl (hb hbytes d4) ?_
    refine XS.aconstNull X0.here hexec rfl (hb hbytes d5) ?_
    exact Steps.refl _)
  obtain ⟨v3, T3, X3, E3, g3⟩ := X0.callN hexec (New4.law l a D fV fC b A z 0 A.slots.size) rfl hown (wks W (initW "java/lang/String" 27 New4.yN)) (W New4.tab (by simp only [site, List.mem_cons, List.mem_append, true_or, or_true])) (W := 0) (Nat.le_of_ble_eq_true rfl) (Nat.le_of_ble_eq_true rfl) (Nat.le_refl _) (by show 0 + A.slots.size ≤ A.slots.size; omega) (g := (mkF m 6 #[.val (.ref a), .val (.ref b)] [.null, .int (Int32.ofNat A.slots.size), .int (Int32.ofNat 0), .ref b, .ref a])) rfl (by rw [hml]; rfl) c2 (argsL := [.ref b, .int (Int32.ofNat 0), .int (Int32.ofNat A.slots.size), .null]) (rest := []) rfl rfl (by show 2 * 0 + 0 ≤ _; decide) (hb hbytes d6) (⟨rfl, hB.mv X0.warmed.alike hh0, f1.al X0.warmed.alike, f2.al X0.warmed.alike, hA.mv X0.warmed.alike hh0, s1.there X0.warmed.alike hh0, hz, l0, by omega, l2, fun i hi => by rw [Nat.zero_add]; exact hp i hi⟩)
  have e0 := Got.mv _ s₁ s _ _ hh0.symm (Vm.Alike.refl _) rfl E3
  obtain rfl := e0.1
  have c4 : Steps p.tables e below (s₁.setTop (entryFrame m #[.ref a, .ref b] 2)) (T3.setTop (mkF m 9 #[.val (.ref a), .val (.ref b)] [])) := g3
  exact ⟨T3, none, _, _, _, X3, by simp, rfl, by omega, (fun _ => rfl), e0, fun fs hl => c4.trans (X3.returnOut hexec hret (hb hbytes d9) hl)⟩
theorem pays {l : Launch} {R : Room} {p : Program} {e : Env} {below : List Frame} {s : State} {sargs : Array Value} {len W : Nat} (a : Addr) (D : Cell) (fV fC : Field) (b : Addr) (A : Cell) (z : Int32) (htab : tab.before sargs s = true) (hfr : 4 ≤ R.frames) (hlo : W + 65 ≤ R.locals) :
    Back l R p e below s sargs yN len W (fun A₁ a₁ => A₁.cells + 1 ≤ R.cells ∧ A₁.slots + A.slots.size ≤ R.slots ∧ P a D fV fC b A z a₁ A₁.U) (fun A₁ _ v₁ B₁ => E a D fV fC A v₁ A₁.U B₁.U ∧ B₁.locs = A₁.locs ++ [⟨a, fC.slot⟩, ⟨a, fV.slot⟩] ∧ B₁.cells = A₁.cells + 1 ∧ B₁.slots = A₁.slots + A.slots.size) :=
  (law l a D fV fC b A z).pays htab hfr (by omega)
end New1
end StrChars
namespace StrChars.Road
open Jvm Sem ClassFile Op Lib Jvm.Stand Jvm.Free Jvm.Free.XT
open Jvm.Lib.Cold (StaticIs)
abbrev ST : String := "java/lang/String"
/-- every table word that New1's law asks, flat -/
abbrev words : List Jvm.Cond := [.code New1.yN New1.yB 2 none, .initialized ST, .methodLink ST 27 New4.yN, .instanceMethod New4.yN,
  .code New4.yN New4.yB 6 none, .fieldLink ST 38 ST "COMPACT_STRINGS" "Z", .laysFinal ST ST "value" "[B", .fieldLink ST 9 ST "value" "[B", .laysFinal ST ST "coder" "B", .fieldLink ST 15 ST "coder" "B",
  .methodLink ST 1 Lib.objectInit, .instanceMethod Lib.objectInit, .code Lib.objectInit ⟨#[0xb1]⟩ 1 none, .methodLink ST 177 Cmp3.yN, .static Cmp3.yN, .methodLink ST 47 CodL.yN, .static CodL.yN,
  .code Cmp3.yN Cmp3.yB 6 (some (.array .byte)), .initialized U16, .arrayClass .byte, .methodLink U16 115 Cmp5.yN, .static Cmp5.yN, .code Cmp5.yN Cmp5.yB 7 (some .int), .code CodL.yN CodL.yB 2 (some .byte)]
theorem tab_of {a : Array Value} {s : State} (h : ∀ w ∈ words, w.before a s = true) : New1.tab.before a s = true := by
  have h5 : Cmp5.tab.before a s = true := unparts (wk h (.code Cmp5.yN Cmp5.yB 7 (some .int))) (wks h (.initialized Cmp5.yN.cls :: Cmp5.site))
  have hc : CodL.tab.before a s = true := unparts (wk h (.code CodL.yN CodL.yB 2 (some .byte))) (wks h (.initialized CodL.yN.cls :: CodL.site))
  have q5 : ∀ w ∈ Cmp5.tab :: words, w.before a s = true := fun w hw => (List.mem_cons.mp hw).elim (fun e => e ▸ h5) (h w)
  have h3 : Cmp3.tab.before a s = true := unparts (wk q5 (.code Cmp3.yN Cmp3.yB 6 (some (.array .byte)))) (wks q5 (.initialized Cmp3.yN.cls :: Cmp3.site))
  have q3 : ∀ w ∈ Cmp3.tab :: CodL.tab :: words, w.before a s = true := fun w hw => (List.mem_cons.mp hw).elim (fun e => e ▸ h3) fun hw => (List.mem_cons.mp hw).elim (fun e => e ▸ hc) (h w)
  have h4 : New4.tab.before a s = true := unparts (wk q3 (.code New4.yN New4.yB 6 none)) (wks q3 (.initialized New4.yN.cls :: New4.site))
  have q4 : ∀ w ∈ New4.tab :: words, w.before a s = true := fun w hw => (List.mem_cons.mp hw).elim (fun e => e ▸ h4) (h w)
  exact unparts (wk q4 (.code New1.yN New1.yB 2 none)) (wks q4 (.initialized New1.yN.cls :: New1.site))
/-- the words ride from the start Z to the walk's own state -/
theorem moved {Z s : State} {a0 args : Array Value} (hZ : Z.Warmed39 s.vm) (hw : ∀ d ∈ words, d.before a0 Z = true) : ∀ d ∈ words, d.before args s = true := fun d hd => by
  have q := hw d hd
  have t : ∀ d ∈ words, d = .arrayClass .byte ∨ (d.onTables && d.keepsFace) = true := by decide +kernel
  rcases t d hd with rfl | t
  · exact RoadKit.mvA hZ q
  · exact RoadKit.mv hZ q t
/-- WHAT COMES BACK, over the tables of the start Z: h the heap at the call, h' behind it -/
def Q (Z : State) (x : Addr) (A : Cell) (h : Heap) (v : Option Value) (h' : Heap) (L : List Loc) : Prop := v = none ∧ (∀ y ∈ L, y.base = x) ∧ RoadKit.Keep h h' [x] ∧ h'.size = h.size + 1 ∧ RoadKit.Exa Z h' x ST ∧ RoadKit.Fld Z h' x ST "value" "[B" (.ref h.size) ∧ RoadKit.Fld Z h' x ST "coder" "B" (.int 0) ∧
  (∃ V : Cell, RoadKit.Arr Z h' h.size V .byte ∧ V.vm = .none ∧ Z.vm.findClass "[B" = some V.cls ∧ V.slots.size = A.slots.size ∧ ∀ j, j < A.slots.size → V.slots[j]? = some (.int (lo8 (cv A j)))) ∧
  ∀ (O n d : String) (w : Value), RoadKit.Fld Z h x O n d w → RoadKit.slotOf Z O n d ≠ RoadKit.slotOf Z ST "value" "[B" → RoadKit.slotOf Z O n d ≠ RoadKit.slotOf Z ST "coder" "B" → RoadKit.Fld Z h' x O n d w
/-- **new String(chars) AT A CALL, IN THE ROAD'S FORM**: for specialBack behind newO: x the fresh String, b the char[] with the cell A -/
theorem back {p : Program} {l : Launch} {e : Env} {R : Room} {s : State} {args : Array Value} {below : List Frame} {len W : Nat} {Z : State} {a0 : Array Value} {h : Heap} (hZ : Z.Warmed39 s.vm) (hw : ∀ d ∈ words, d.before a0 Z = true) {kI : Nat} (wi : (Jvm.Cond.instantiable ST kI).before a0 Z = true)
    {x b : Addr} {A : Cell} {z : Int32} {v0 c0 : Value} (E : RoadKit.Exa Z h x ST) (V : RoadKit.Fld Z h x ST "value" "[B" v0) (C : RoadKit.Fld Z h x ST "coder" "B" c0) (K : RoadKit.Arr Z h b A .char) (hty : Typed .char A) (S : RoadKit.Sta Z h ST "COMPACT_STRINGS" "Z" (.int z)) (hz : ¬ z = 0)
    (l0 : 0 < A.slots.size) (l2 : A.slots.size ≤ 536870912) (hp : ∀ i, i < A.slots.size → ¬ 255 < cv A i) (hfr : 4 ≤ R.frames) (hlo : W + 65 ≤ R.locals) :
    Back l R p e below s args New1.yN len W (fun P a => a = #[.ref x, .ref b] ∧ P.U.heap = h ∧ P.cells + 1 ≤ R.cells ∧ P.slots + A.slots.size ≤ R.slots)
      (fun P _ v B => ∃ L, Q Z x A h v B.U.heap L ∧ B.locs = P.locs ++ L ∧ B.cells = P.cells + 1 ∧ B.slots = P.slots + A.slots.size) := by
  intro m meth c P g ig mk a X hg hsize hdg hW hn hp'
  obtain ⟨rfl, rfl, r1, r2⟩ := hp'
  have al : Z.vm.Alike P.U.vm := hZ.alike.trans X.warmed.alike
  obtain ⟨D, cfV, kV, iV, fV, hD, gV, stV, knV, obV, asV, slV⟩ := id V
  obtain ⟨D', cfC, kC, iC, fC, hD', gC, stC, -, -, asC, slC⟩ := id C
  cases hD.symm.trans hD'
  obtain ⟨D2, kD, e1, e2, e3, e4, e5⟩ := id E
  cases hD.symm.trans e1
  obtain ⟨c2, k2, i1, i2, i3, -⟩ := Cond.instantiable_spec wi
  cases e2.symm.trans i1
  cases e3.symm.trans i2
  obtain ⟨kU, u1, u2⟩ := al.2.2 _ _ e3
  have hB : Blank ST x D P.U := ⟨hD, ⟨knV, fun q hq => by rw [hq] at obV; cases obV⟩, by rw [al.findClass]; exact e2, kU, u1, by rw [u2]; exact i3, by rw [u2]; exact e5 i3⟩
  have F1 : Found ST "value" "[B" fV P.U := ⟨SBG.found_only al ⟨cfV, kV, iV, gV⟩, stV⟩
  have F2 : Found ST "coder" "B" fC P.U := ⟨SBG.found_only al ⟨cfC, kC, iC, gC⟩, stC⟩
  have hA : Ch b A P.U := ⟨⟨K.1, State.isArrayOf_alike al K.2.1, K.2.2, by omega⟩, hty⟩
  have hS : StaticIs P.U ST "COMPACT_STRINGS" "Z" (.int z) := by
    obtain ⟨cfS, iS, kS, fS, st, cS, t1, t2, t3, t4, t5, t6, t7⟩ := S
    exact StaticIs.there (s := { Z with heap := P.U.heap }) ⟨cfS, iS, kS, fS, st, cS, t1, t2, t3, t4, t5, (fun q => by rw [q] at t6; cases t6), t7⟩ al rfl
  obtain ⟨v, B, X', ⟨⟨hv, E', V', q1, q2, q3, q4, q5, q6, q7, q8, q9, q10, q11⟩, hl, hc, hs⟩, st⟩ := New1.pays x D fV fC b A z (tab_of (moved hZ hw)) hfr hlo m meth c P g ig mk _ X hg hsize hdg hW hn ⟨r1, r2, rfl, hB, F1, F2, hA, hS, hz, l0, l2, hp⟩
  have al' : Z.vm.Alike B.U.vm := hZ.alike.trans X'.warmed.alike
  have hsz : E'.slots.size = D.slots.size := by
    obtain ⟨-, -, -, kB, w1, w2, w3⟩ := q1
    obtain ⟨kB', y1, y2⟩ := al'.2.2 _ _ e3
    rw [q2.2.1] at w1
    cases w1.symm.trans y1
    rw [w3, e5 i3, y2]
  refine ⟨v, B, X', ⟨_, ⟨hv, ?_, ⟨by omega, fun y cy hy hn' => q10 y cy (by simpa using hn') hy, fun y cy hy => ?_⟩, q11, ⟨E', _, q1.1, by rw [q2.2.1]; exact e2, by rw [q2.2.1]; exact e3, by rw [q2.1]; exact obV, fun _ => by rw [hsz]; exact e5 i3⟩,
    ⟨E', cfV, kV, iV, fV, q1.1, gV, stV, by rw [q2.1]; exact knV, by rw [q2.1]; exact obV, by rw [q2.2.1]; exact asV, q3⟩, ⟨E', cfC, kC, iC, fC, q1.1, gC, stC, by rw [q2.1]; exact knV, by rw [q2.1]; exact obV, by rw [q2.2.1]; exact asC, q4⟩,
    ⟨V', ⟨q5.1, State.isArrayOf_alike al'.symm q5.2.1, q5.2.2.1⟩, q6, by rw [← al'.findClass]; exact q7, q8, fun j hj => by have := q9 j hj; rwa [Nat.zero_add] at this⟩, fun O n d w F n1 n2 => ?_⟩, hl, hc, hs⟩, st⟩
  · intro y hy
    simp only [List.mem_cons, List.not_mem_nil, or_false] at hy
    rcases hy with rfl | rfl <;> rfl
  · by_cases q : y = x
    · subst q
      cases hD.symm.trans hy
      exact ⟨E', q1.1, q2.2.1, q2.1, hsz⟩
    · exact ⟨cy, q10 y cy q hy, rfl, rfl, rfl⟩
  · obtain ⟨D3, cf, k, i, f, g1, g2, g3, g4, g5, g6, g7⟩ := F
    cases hD.symm.trans g1
    simp only [RoadKit.slotOf, g2, gV, gC, Option.map_some, Option.getD_some] at n1 n2
    exact ⟨E', cf, k, i, f, q1.1, g2, g3, by rw [q2.1]; exact g4, by rw [q2.1]; exact g5, by rw [q2.2.1]; exact g6, by rw [q2.2.2 f.slot (by simp [n1, n2])]; exact g7⟩
end StrChars.Road
namespace StrChars.Road
open Jvm Sem ClassFile Op Lib Jvm.Stand Jvm.Free Jvm.Free.XT
/-- WHAT COMES BACK, the byte[] as a list of values -/
def QA (Z : State) (x : Addr) (zn : Int32) (cs : List Int32) (h : Heap) (v : Option Value) (h' : Heap) (L : List Loc) : Prop := v = none ∧ (∀ y ∈ L, y.base = x) ∧ RoadKit.Keep h h' [x] ∧ h'.size = h.size + 1 ∧ RoadKit.Exa Z h' x ST ∧ RoadKit.Fld Z h' x ST "value" "[B" (.ref h.size) ∧ RoadKit.Fld Z h' x ST "coder" "B" (.int 0) ∧
  (∃ kb, Z.vm.findClass "[B" = some kb ∧ RoadKit.Arv Z h' h.size kb .byte zn (cs.map fun c => .int (lo8 c)) (.int 0)) ∧
  ∀ (O n d : String) (w : Value), RoadKit.Fld Z h x O n d w → RoadKit.slotOf Z O n d ≠ RoadKit.slotOf Z ST "value" "[B" → RoadKit.slotOf Z O n d ≠ RoadKit.slotOf Z ST "coder" "B" → RoadKit.Fld Z h' x O n d w
/-- **new String(chars) AT A CALL, THE ARRAYS AS LISTS**: the char[] at b holds cs, not empty, no char above 255 -/
theorem backArv {p : Program} {l : Launch} {e : Env} {R : Room} {s : State} {args : Array Value} {below : List Frame} {len W : Nat} {Z : State} {a0 : Array Value} {h : Heap} (hZ : Z.Warmed39 s.vm) (hw : ∀ d ∈ words, d.before a0 Z = true) {kI : Nat} (wi : (Jvm.Cond.instantiable ST kI).before a0 Z = true)
    {x b : Addr} {k : ClassId} {zn z : Int32} {cs : List Int32} {dv v0 c0 : Value} (E : RoadKit.Exa Z h x ST) (V : RoadKit.Fld Z h x ST "value" "[B" v0) (C : RoadKit.Fld Z h x ST "coder" "B" c0) (K : RoadKit.Arv Z h b k .char zn (cs.map Value.int) dv) (S : RoadKit.Sta Z h ST "COMPACT_STRINGS" "Z" (.int z)) (hz : ¬ z = 0)
    (hlen : zn.toNatClampNeg = cs.length) (h0 : 0 < cs.length) (hbig : cs.length ≤ 536870912) (hall : ∀ c ∈ cs, ¬ 255 < c) (hfr : 4 ≤ R.frames) (hlo : W + 65 ≤ R.locals) :
    Back l R p e below s args New1.yN len W (fun P a => a = #[.ref x, .ref b] ∧ P.U.heap = h ∧ P.cells + 1 ≤ R.cells ∧ P.slots + cs.length ≤ R.slots)
      (fun P _ v B => ∃ L, QA Z x zn cs h v B.U.heap L ∧ B.locs = P.locs ++ L ∧ B.cells = P.cells + 1 ∧ B.slots = P.slots + cs.length) := by
  obtain ⟨A, K1, K2, K3, K4, K5, K6⟩ := K
  have e : A.slots.size = cs.length := K3.trans hlen
  have hat : ∀ (i : Nat) (hi : i < cs.length), A.slots[i]? = some (.int cs[i]) := fun i hi => by rw [K5 i (by omega)]; simp [List.getD_eq_getElem?_getD, hi]
  have hcv : ∀ (i : Nat) (hi : i < cs.length), cv A i = cs[i] := fun i hi => by unfold cv; rw [hat i hi]
  have hty : Typed .char A := fun i v hv => by
    have hi : i < A.slots.size := (Array.getElem?_eq_some_iff.mp hv).1
    have q := K5 i hi
    rw [hv] at q
    rw [Option.some.inj q]
    exact K6 i hi
  refine Back.mono (back hZ hw wi E V C K1 hty S hz (by omega) (by omega) (fun i hi => by rw [hcv i (by omega)]; exact hall _ (List.getElem_mem _)) hfr hlo) (fun P a hp => ⟨hp.1, hp.2.1, hp.2.2.1, by rw [e]; exact hp.2.2.2⟩) (fun P a v B hp hq => ?_)
  obtain ⟨L, ⟨q1, q2, q3, q4, q5, q6, q7, ⟨V', v1, v2, v3, v4, v5⟩, q9⟩, hl, hc, hs⟩ := hq
  refine ⟨L, ⟨q1, q2, q3, q4, q5, q6, q7, ⟨V'.cls, v3, V', v1, rfl, by rw [v4, e, hlen], K4, fun i hi => ?_, fun i hi => ?_⟩, q9⟩, hl, hc, by rw [hs, e]⟩
  · have hi' : i < cs.length := by omega
    rw [v5 i (by omega), hcv i hi']; simp [List.getD_eq_getElem?_getD, hi']
  · have hi' : i < cs.length := by omega
    simp only [List.getD_eq_getElem?_getD, List.getElem?_map, List.getElem?_eq_getElem hi', Option.map_some, Option.getD_some]
    exact fits_lo8 _
end StrChars.Road
namespace StrChars.Road
open Jvm Sem ClassFile Op Lib Jvm.Stand Jvm.Free Jvm.Free.XT
/-- WHAT COMES BACK, in the writer's own shape -/
def QV (Z : State) (x : Addr) (N : Int32) (bs : List Int32) (h : Heap) (n0 : Nat) (v : Option Value) (h' : Heap) (L : List Loc) : Prop := v = none ∧ RoadKit.Fr n0 L ∧ RoadKit.Keep h h' [x] ∧ RoadKit.Exa Z h' x ST ∧ RoadKit.Fld Z h' x ST "coder" "B" (.int 0) ∧
  ∃ (t : Addr) (kb : ClassId), n0 ≤ t ∧ h.size ≤ t ∧ ¬ t = x ∧ RoadKit.Fld Z h' x ST "value" "[B" (.ref t) ∧ RoadKit.Arv Z h' t kb .byte N (bs.map Value.int) (.int 0)
/-- **new String(chars) AT A CALL, FOR THE WRITER**: a char[] of n known ints, each 0 to 255 -/
theorem backV {p : Program} {l : Launch} {e : Env} {R : Room} {s : State} {args : Array Value} {below : List Frame} {len W : Nat} {Z : State} {a0 : Array Value} {h : Heap} (hZ : Z.Warmed39 s.vm) (hw : ∀ d ∈ words, d.before a0 Z = true) {kI : Nat} (wi : (Jvm.Cond.instantiable ST kI).before a0 Z = true)
    {x b : Addr} {kC : ClassId} {cs bs : List Int32} {d v0 c0 : Value} {z N : Int32} {n n0 : Nat} (hx0 : n0 ≤ x) (hh0 : n0 ≤ h.size) (E : RoadKit.Exa Z h x ST) (V : RoadKit.Fld Z h x ST "value" "[B" v0) (C : RoadKit.Fld Z h x ST "coder" "B" c0) (K : RoadKit.Arv Z h b kC .char N (cs.map Value.int) d) (S : RoadKit.Sta Z h ST "COMPACT_STRINGS" "Z" (.int z)) (hz : ¬ z = 0)
    (hn : cs.length = n) (hN : N = Int32.ofNat n) (l0 : 0 < n) (l2 : n ≤ 4000) (hp : ∀ c ∈ cs, ¬ c < 0 ∧ ¬ (255 : Int32) < c) (hb : bs = cs.map (fun c => c.toInt8.toInt32)) (hfr : 4 ≤ R.frames) (hlo : W + 65 ≤ R.locals) :
    Back l R p e below s args (⟨"java/lang/String", "<init>", "([C)V"⟩ : MethodName) len W (fun P a => a = #[.ref x, .ref b] ∧ P.U.heap = h ∧ P.cells + 1 ≤ R.cells ∧ P.slots + n ≤ R.slots)
      (fun P _ v B => ∃ L, QV Z x N bs h n0 v B.U.heap L ∧ B.locs = P.locs ++ L ∧ B.cells = P.cells + 1 ∧ B.slots = P.slots + n) := by
  subst hn hN hb
  refine Back.mono (backArv hZ hw wi E V C K S hz (n32 (by omega)) l0 (by omega) (fun c hc => (hp c hc).2) hfr hlo) (fun P a hp => hp) (fun P a v B hp hq => ?_)
  obtain ⟨L, ⟨q1, q2, q3, q4, q5, q6, q7, ⟨kb, v1, v2⟩, q9⟩, hl, hc, hs⟩ := hq
  exact ⟨L, ⟨q1, fun y hy => by rw [q2 y hy]; exact hx0, q3, q5, q7, h.size, kb, hh0, Nat.le_refl _, Nat.ne_of_gt E.lt, q6, by rw [List.map_map]; exact v2⟩, hl, hc, hs⟩
end StrChars.Road
end Jvm.Pilot.@@N@@
namespace Jvm.Pilot.@@N@@
open Jvm Jvm.ClassFile Sem Op Lib Jvm.Free Jvm.Stand Jvm.LawKit Jvm.RoadKit Bundle Jvm.OwnKit Jvm.Pilot.@@N@@.Jvm.D
section StrCalls
variable {p : Program} {l : Launch} {e : Env} {R : Room} {s : State} {m : MethodId} {args : Array Value} {below : List Frame} {meth : Method} {c : Code}
  {own : String} {bytes : ByteArray} {maxL : Nat} {ret : Option FieldType} {nm : String} {Z : State} {EL : List (String × Nat)} {nw : Bool} {us : List Addr} {bs : List (String × Nat × Addr)}
  {T : State} {h : Heap} {cells slots : Nat} {Q : Option Value → Heap → Prop} {kk nn : Nat} {a0 : Array Value} {pc : Nat} {Ls : Array Slot} {st : List Value}

theorem pd_len : parseMethodDescriptor "()I" = some ⟨[], some .int⟩ := by decide +kernel
theorem pd_cha : parseMethodDescriptor "(I)C" = some ⟨[.int], some .char⟩ := by decide +kernel
theorem pd_seq : parseMethodDescriptor "(Ljava/lang/Object;)Z" = some ⟨[.object "java/lang/Object"], some .boolean⟩ := by decide +kernel
theorem pd_emp : parseMethodDescriptor "()Z" = some ⟨[], some .boolean⟩ := by decide +kernel
theorem pd_sin : parseMethodDescriptor "([C)V" = some ⟨[.array .char], none⟩ := by decide +kernel
abbrev yLen : MethodName := ⟨"java/lang/String", "length", "()I"⟩
abbrev yCha : MethodName := ⟨"java/lang/String", "charAt", "(I)C"⟩
abbrev ySeq : MethodName := ⟨"java/lang/String", "equals", "(Ljava/lang/Object;)Z"⟩
abbrev yEmp : MethodName := ⟨"java/lang/String", "isEmpty", "()Z"⟩
abbrev ySin : MethodName := ⟨"java/lang/String", "<init>", "([C)V"⟩
theorem up255 {cs : List Int32} (h : ∀ c ∈ cs, ¬ c < 0 ∧ ¬ (255 : Int32) < c) : ∀ c ∈ cs, ¬ c < 0 ∧ ¬ (65535 : Int32) < c := fun c hc => ⟨(h c hc).1, fun q => (h c hc).2 (by
  have h1 := (h c hc).2
  rw [Int32.lt_iff_toInt_lt] at q ⊢
  have : (65535 : Int32).toInt = 65535 := by decide
  have : (255 : Int32).toInt = 255 := by decide
  omega)⟩
/-- new String(char[]) of one or more signs below 256 -/
theorem g_strNew (X : St p l e R s m args below meth c own bytes maxL ret nm Z EL nw us bs T h cells slots) {ix : Nat} {a b : Addr} {kC : ClassId} {cs : List Int32} {vs : List Value} {dv v0 c0 : Value} {zc N0 : Int32} {k : Nat} (w1 : (Jvm.Cond.methodLink own ix ySin).before a0 Z = true) (w2 : (Jvm.Cond.instanceMethod ySin).before a0 Z = true) (w4 : (Jvm.Cond.code ySin StrChars.New1.yB 2 none).before a0 Z = true)
    (hws : ∀ d ∈ StrChars.Road.words, d.before a0 Z = true) (wI : (Jvm.Cond.instantiable "java/lang/String" k).before a0 Z = true) (C : Sta Z h "java/lang/String" "COMPACT_STRINGS" "Z" (.int zc)) (hz : ¬ zc = 0) (E : Exa Z h a "java/lang/String") (V : Fld Z h a "java/lang/String" "value" "[B" v0) (Co : Fld Z h a "java/lang/String" "coder" "B" c0)
    (A : Arv Z h b kC .char N0 vs dv) (hvs : vs = cs.map Value.int) (n : Nat) (hn : cs.length = n) (hN : N0 = Int32.ofNat n) (l0 : 0 < n) (l2 : n ≤ 4000) (hp255 : ∀ c ∈ cs, ¬ c < 0 ∧ ¬ (255 : Int32) < c) (ha : a ∈ us) (hsize : Ls.size = maxL)
    (W : Nat) (hW : (st.map fun v => v.category).sum ≤ W) (hf : 4 ≤ R.frames) (hl : W + 65 ≤ R.locals) {ck cs' : Nat} (hck : cells + 1 = ck) (hcs : slots + n = cs') (hc : ck ≤ R.cells) (hs : cs' ≤ R.slots) (hd : decode bytes pc = .ok (.invokespecial ix, 3)) (pc' : Nat) (hp : pc + 3 = pc')
    (K : ∀ T' h', St p l e R s m args below meth c own bytes maxL ret nm Z EL nw us bs T' h' ck cs' → Keep h h' [a] →
      (∃ (t : Addr) (kb : ClassId), Exa Z h' a "java/lang/String" ∧ Fld Z h' a "java/lang/String" "coder" "B" (.int 0) ∧ Fld Z h' a "java/lang/String" "value" "[B" (.ref t) ∧ Arv Z h' t kb .byte (Int32.ofNat cs.length) ((cs.map fun c => c.toInt8.toInt32).map Value.int) (.int 0) ∧ (∀ c ∈ cs, ¬ c < 0 ∧ ¬ (255 : Int32) < c) ∧ cs.length ≤ 4000 ∧ h.size ≤ t) →
      Goes p e below s Z EL nw Q kk nn (T'.setTop (mkF m pc' Ls st))) : Goes p e below s Z EL nw Q kk nn (T.setTop (mkF m pc Ls (.ref b :: .ref a :: st))) := by
  subst hp hck hcs hvs hN
  obtain ⟨cx, vm0, locs, Y, N, eT, hS, hZ, hown, hE, hC, hU, hWn⟩ := X
  obtain ⟨u1, u2, u3⟩ := hU a ha
  obtain ⟨v, vm₁, B, -, Y', ⟨L, ⟨rfl, N', K', E', Co', t, kb, -, q2, -, V', A'⟩, q4, q5, q6⟩, stp⟩ := Y.specialBack cx.1 (own := own) (index := ix) (y := ySin) rfl hown (mvT (s := s.setVm vm0) hZ w1) (mvT (s := s.setVm vm0) hZ w2) (mvT (s := s.setVm vm0) hZ w4) (by decide)
    (StrChars.Road.backV (W := W) (s := s.setVm vm0) hZ hws wI (bs := cs.map fun c => c.toInt8.toInt32) u1 hE.1 E V Co A C hz hn rfl l0 l2 hp255 rfl hf hl) (g := mkF m pc Ls (.ref b :: .ref a :: st)) rfl (by rw [cx.2.2.1]; exact hsize) (Steps.refl _) (a := a) (argsL := [.ref b]) (rest := st) (lenOf pd_sin rfl) rfl (by show 2 * 0 + _ ≤ _; omega) (hb cx.2.1 hd)
    (fun _ _ => ⟨rfl, eT, hc, hs⟩)
  dsimp only [Pt.U, Pt.locs, Pt.cells, Pt.slots] at q4 q5 q6 Y'
  have hsf : ∀ x ∈ [a], Safe Z EL vm0 h x := fun x hx => by cases List.mem_singleton.mp hx; exact u3
  refine (K B.U B.U.heap ⟨cx, vm0, locs ++ L, ?_, N.app N', rfl, ⟨hS.1, hS.2.mono K'.1⟩, hZ, hown, ext_keep hE K' (fun x hx => by cases List.mem_singleton.mp hx; exact u1), hC.trans (CHr.keep K' hsf hC.1), fun x hx => ⟨(hU x hx).1, Nat.lt_of_lt_of_le (hU x hx).2.1 K'.1, Safe.keep K' hsf hC.1 (hU x hx).2.2⟩, hWn⟩ K' ⟨t, kb, E', Co', V', by rw [hn]; exact A', hp255, by omega, q2⟩).step fun t k => stp.trans k
  rw [q4, q5, q6] at Y'; exact Y'
end StrCalls
end Jvm.Pilot.@@N@@
namespace Jvm.Pilot.@@N@@
open Jvm Jvm.ClassFile Sem Op Lib Jvm.Free Jvm.Stand Jvm.LawKit Jvm.RoadKit Bundle Jvm.OwnKit Jvm.Pilot.@@N@@.Jvm.D
def EL : List (String × Nat) := consts_1
abbrev nw : Bool := false
/-- what holds of the tables and of the JDK's statics at the start -/
def Gl (Z : State) (a0 : Array Value) : Prop := (∀ d ∈ tables_1, d.before a0 Z = true) ∧ EW Z a0 EL ∧ (∀ a ∈ Bundle.stringAtoms, a.before a0 Z = true) ∧
  (∃ zc : Int32, Sta Z Z.heap "java/lang/String" "COMPACT_STRINGS" "Z" (.int zc) ∧ ¬ zc = 0) ∧
  (∃ fm : Value, Sta Z Z.heap "jdk/internal/util/Preconditions" "SIOOBE_FORMATTER" "Ljava/util/function/BiFunction;" fm ∧ fm.isRef = true) ∧
  (∃ u : Addr, Sta Z Z.heap "java/lang/Throwable" "UNASSIGNED_STACK" "[Ljava/lang/StackTraceElement;" (.ref u)) ∧ (∃ sp : Value, Sta Z Z.heap "java/lang/Throwable" "SUPPRESSED_SENTINEL" "Ljava/util/List;" sp ∧ sp.isRef = true)
theorem hwsV {Z : State} {a0 : Array Value} (hw : ∀ d ∈ tables_1, d.before a0 Z = true) : ∀ d ∈ StrChars.Road.words, d.before a0 Z = true := fun d hd => hw d ((by decide +kernel : ∀ d ∈ StrChars.Road.words, d ∈ tables_1) d hd)
theorem pd_0 : parseMethodDescriptor "(ICC)Ljava/lang/String;" = some ⟨[.int, .char, .char], (some (.object "java/lang/String"))⟩ := by decide +kernel
theorem pd_1 : parseMethodDescriptor "(Ljava/lang/String;Ljava/lang/String;)Lcom/example/capsa/capsa/BeanNameInUseException;" = some ⟨[(.object "java/lang/String"), (.object "java/lang/String")], (some (.object "com/example/capsa/capsa/BeanNameInUseException"))⟩ := by decide +kernel
theorem pd_2 : parseMethodDescriptor "(Ljava/lang/String;)V" = some ⟨[(.object "java/lang/String")], none⟩ := by decide +kernel
theorem pd_3 : parseMethodDescriptor "(Ljava/lang/String;IC)Z" = some ⟨[(.object "java/lang/String"), .int, .char], (some .boolean)⟩ := by decide +kernel
theorem pd_4 : parseMethodDescriptor "(Ljava/lang/Object;)Z" = some ⟨[(.object "java/lang/Object")], (some .boolean)⟩ := by decide +kernel
abbrev CAPS : List Nat := [16, 34, 70]
theorem elL {Z : State} {a0 : Array Value} (hw : ∀ d ∈ tables_1, d.before a0 Z = true) (n : Nat) (hn : n ∈ ([16, 34, 70] : List Nat)) : ∀ p ∈ EL, ∃ text : String, (Jvm.Cond.stringLink p.1 p.2 text).before a0 Z = true ∧ (∀ c ∈ text.toList, c.toNat < 256) ∧ text.toList.length ≠ (Int32.ofNat n).toNatClampNeg := by
  have e : (Int32.ofNat n).toNatClampNeg = n := of_nat (by simp only [List.mem_cons, List.not_mem_nil, or_false] at hn; omega)
  rw [e]
  have key : ∀ (text : String), (∀ k ∈ ([16, 34, 70] : List Nat), text.toList.length ≠ k) → text.toList.length ≠ n := fun _ q => q n hn
  intro p hp
  simp only [EL, consts_1, List.mem_cons, List.not_mem_nil, or_false] at hp
  rcases hp with rfl | rfl | rfl | rfl | rfl
  · exact ⟨"Cannot give bean \"", (hw _ (List.mem_of_getElem? (i := 50) rfl)), by decide, key _ (by decide)⟩
  · exact ⟨"\" the alias \"", (hw _ (List.mem_of_getElem? (i := 122) rfl)), by decide, key _ (by decide)⟩
  · exact ⟨"\": that name is already in use", (hw _ (List.mem_of_getElem? (i := 123) rfl)), by decide, key _ (by decide)⟩
  · exact ⟨"Cannot give bean \"\" the alias \"\": that name is already in use", (hw _ (List.mem_of_getElem? (i := 232) rfl)), by decide, key _ (by decide)⟩
  · exact ⟨"", (hw _ (List.mem_of_getElem? (i := 18) rfl)), by decide, key _ (by decide)⟩

theorem pd_5 : parseMethodDescriptor "()I" = some ⟨[], (some .int)⟩ := by decide +kernel
theorem pd_6 : parseMethodDescriptor "()B" = some ⟨[], (some .byte)⟩ := by decide +kernel
theorem pd_7 : parseMethodDescriptor "()Z" = some ⟨[], (some .boolean)⟩ := by decide +kernel
theorem pd_8 : parseMethodDescriptor "(I)C" = some ⟨[.int], (some .char)⟩ := by decide +kernel
theorem pd_9 : parseMethodDescriptor "([BI)C" = some ⟨[(.array .byte), .int], (some .char)⟩ := by decide +kernel
theorem pd_10 : parseMethodDescriptor "(II)V" = some ⟨[.int, .int], none⟩ := by decide +kernel
theorem pd_11 : parseMethodDescriptor "(IILjava/util/function/BiFunction;)I" = some ⟨[.int, .int, (.object "java/util/function/BiFunction")], (some .int)⟩ := by decide +kernel
theorem pd_12 : parseMethodDescriptor "([B[B)Z" = some ⟨[(.array .byte), (.array .byte)], (some .boolean)⟩ := by decide +kernel
theorem d11_0 : decode jdk_42_method_152_code 0 = .ok (.getstatic 38, 3) := by decide +kernel
theorem d11_3 : decode jdk_42_method_152_code 3 = .ok (.ifCond .eq 10, 3) := by decide +kernel
theorem d11_6 : decode jdk_42_method_152_code 6 = .ok (.aload_n 0, 1) := by decide +kernel
theorem d11_7 : decode jdk_42_method_152_code 7 = .ok (.getfield 15, 3) := by decide +kernel
theorem d11_10 : decode jdk_42_method_152_code 10 = .ok (.goto 4, 3) := by decide +kernel
theorem d11_13 : decode jdk_42_method_152_code 13 = .ok (.iconst 1, 1) := by decide +kernel
theorem d11_14 : decode jdk_42_method_152_code 14 = .ok (.ireturn, 1) := by decide +kernel
theorem pn_0 : plainName "java/lang/String" = true := by first | (simp [plainName, overriddenIn]; done) | decide +kernel
set_option maxRecDepth 65536 in
set_option maxHeartbeats 40000000 in
theorem c_cod (l : Launch) (Z : State) (a0 : Array Value) (G : Gl Z a0) (a : Addr) (h : Heap) (C : Fld Z h a "java/lang/String" "coder" "B" (.int (0 : Int32))) :
    Ctr l Z EL nw (⟨"java/lang/String", "coder", "()B"⟩ : MethodName) jdk_42_method_152_code 1 (Option.some Jvm.ClassFile.FieldType.byte) ({ frames := 0, cells := 0, slots := 0, locals := 0 } : Room) #[.ref a] h [] (PureQ h fun w => w = .int 0) := by
  obtain ⟨hw, hEL, hSA, ⟨zc, SC, hz⟩, ⟨fm, SF, hfm⟩, ⟨u0, SUn⟩, ⟨sp, SP, hsp⟩⟩ := id G
  refine Ctr.enter (own := "java/lang/String") (nm := "coder") rfl rfl hEL (plainFor_of_name pn_0) #[.val (.ref a)] (fun m => by first | rfl | (simp [entryFrame, mkF, argsToLocals, Value.category, maxLocals]; done)) ?_
  intro p e s m below meth c T X
  refine g_getS X (Or.inl (hw _ (List.mem_of_getElem? (i := 71) rfl))) (host := "") Via.refl (SC.ext X.old) d11_0 3 rfl ?_
  intro T1 X2
  refine g_ifNo X2 d11_3 (XT.ii_eq_f hz) 6 rfl ?_
  refine g_aloadN X2 d11_6 rfl rfl 7 rfl ?_
  refine g_getF X2 (Or.inl (hw _ (List.mem_of_getElem? (i := 25) rfl))) (host := "") Via.refl C d11_7 10 rfl ?_
  intro T3 X4
  refine g_goto X4 d11_10 14 (by decide) (by decide) ?_
  exact g_retN X4 (t := .byte) rfl (by simp) d11_14 _ rfl (by decide) (by decide) ⟨rfl, _, rfl, rfl⟩
theorem d42_0 : decode jdk_42_method_154_code 0 = .ok (.getstatic 38, 3) := by decide +kernel
theorem d42_3 : decode jdk_42_method_154_code 3 = .ok (.ifCond .eq 14, 3) := by decide +kernel
theorem d42_6 : decode jdk_42_method_154_code 6 = .ok (.aload_n 0, 1) := by decide +kernel
theorem d42_7 : decode jdk_42_method_154_code 7 = .ok (.getfield 15, 3) := by decide +kernel
theorem d42_10 : decode jdk_42_method_154_code 10 = .ok (.ifCond .ne 7, 3) := by decide +kernel
theorem d42_13 : decode jdk_42_method_154_code 13 = .ok (.iconst 1, 1) := by decide +kernel
theorem d42_14 : decode jdk_42_method_154_code 14 = .ok (.goto 4, 3) := by decide +kernel
theorem d42_17 : decode jdk_42_method_154_code 17 = .ok (.iconst 0, 1) := by decide +kernel
theorem d42_18 : decode jdk_42_method_154_code 18 = .ok (.ireturn, 1) := by decide +kernel
set_option maxRecDepth 65536 in
set_option maxHeartbeats 40000000 in
theorem c_isl (l : Launch) (Z : State) (a0 : Array Value) (G : Gl Z a0) (a : Addr) (h : Heap) (C : Fld Z h a "java/lang/String" "coder" "B" (.int (0 : Int32))) :
    Ctr l Z EL nw (⟨"java/lang/String", "isLatin1", "()Z"⟩ : MethodName) jdk_42_method_154_code 1 (Option.some Jvm.ClassFile.FieldType.boolean) ({ frames := 0, cells := 0, slots := 0, locals := 0 } : Room) #[.ref a] h [] (PureQ h fun w => w = .int 1) := by
  obtain ⟨hw, hEL, hSA, ⟨zc, SC, hz⟩, ⟨fm, SF, hfm⟩, ⟨u0, SUn⟩, ⟨sp, SP, hsp⟩⟩ := id G
  refine Ctr.enter (own := "java/lang/String") (nm := "isLatin1") rfl rfl hEL (plainFor_of_name pn_0) #[.val (.ref a)] (fun m => by first | rfl | (simp [entryFrame, mkF, argsToLocals, Value.category, maxLocals]; done)) ?_
  intro p e s m below meth c T X
  refine g_getS X (Or.inl (hw _ (List.mem_of_getElem? (i := 71) rfl))) (host := "") Via.refl (SC.ext X.old) d42_0 3 rfl ?_
  intro T1 X2
  refine g_ifNo X2 d42_3 (XT.ii_eq_f hz) 6 rfl ?_
  refine g_aloadN X2 d42_6 rfl rfl 7 rfl ?_
  refine g_getF X2 (Or.inl (hw _ (List.mem_of_getElem? (i := 25) rfl))) (host := "") Via.refl C d42_7 10 rfl ?_
  intro T3 X4
  refine g_ifNo X4 d42_10 (XT.ii_ne_f (by decide)) 13 rfl ?_
  refine g_iconst X4 (1 : Int32) d42_13 (by decide) 14 rfl ?_
  refine g_goto X4 d42_14 18 (by decide) (by decide) ?_
  exact g_retN X4 (t := .boolean) rfl (by simp) d42_18 _ rfl (by decide) (by decide) ⟨rfl, _, rfl, rfl⟩
theorem d10_0 : decode jdk_42_method_54_code 0 = .ok (.aload_n 0, 1) := by decide +kernel
theorem d10_1 : decode jdk_42_method_54_code 1 = .ok (.getfield 9, 3) := by decide +kernel
theorem d10_4 : decode jdk_42_method_54_code 4 = .ok (.arraylength, 1) := by decide +kernel
theorem d10_5 : decode jdk_42_method_54_code 5 = .ok (.aload_n 0, 1) := by decide +kernel
theorem d10_6 : decode jdk_42_method_54_code 6 = .ok (.invokevirtual 335, 3) := by decide +kernel
theorem d10_9 : decode jdk_42_method_54_code 9 = .ok (.ishr, 1) := by decide +kernel
theorem d10_10 : decode jdk_42_method_54_code 10 = .ok (.ireturn, 1) := by decide +kernel
set_option maxRecDepth 65536 in
set_option maxHeartbeats 40000000 in
theorem c_len (l : Launch) (Z : State) (a0 : Array Value) (G : Gl Z a0) (a t : Addr) (kb : ClassId) (cs : List Int32) (h : Heap) (E : Exa Z h a "java/lang/String") (C : Fld Z h a "java/lang/String" "coder" "B" (.int (0 : Int32))) (V : Fld Z h a "java/lang/String" "value" "[B" (.ref t)) (A : Arv Z h t kb .byte (Int32.ofNat cs.length) (bys cs) (.int (0 : Int32))) (hcs : ∀ c ∈ cs, ¬ c < 0 ∧ ¬ (255 : Int32) < c) (hlen : cs.length ≤ 4000) :
    Ctr l Z EL nw (⟨"java/lang/String", "length", "()I"⟩ : MethodName) jdk_42_method_54_code 1 (Option.some Jvm.ClassFile.FieldType.int) ({ frames := 1, cells := 0, slots := 0, locals := 13 } : Room) #[.ref a] h [] (PureQ h fun w => w = .int (Int32.ofNat cs.length)) := by
  obtain ⟨hw, hEL, hSA, ⟨zc, SC, hz⟩, ⟨fm, SF, hfm⟩, ⟨u0, SUn⟩, ⟨sp, SP, hsp⟩⟩ := id G
  refine Ctr.enter (own := "java/lang/String") (nm := "length") rfl rfl hEL (plainFor_of_name pn_0) #[.val (.ref a)] (fun m => by first | rfl | (simp [entryFrame, mkF, argsToLocals, Value.category, maxLocals]; done)) ?_
  intro p e s m below meth c T X
  refine g_aloadN X d10_0 rfl rfl 1 rfl ?_
  refine g_getF X (Or.inl (hw _ (List.mem_of_getElem? (i := 24) rfl))) (host := "") Via.refl V d10_1 4 rfl ?_
  intro T1 X2
  refine g_arrlen X2 A d10_4 5 rfl ?_
  refine g_aloadN X2 d10_5 rfl rfl 6 rfl ?_
  refine g_callVp X2 (hw _ (List.mem_of_getElem? (i := 66) rfl)) (hw _ (List.mem_of_getElem? (i := 67) rfl)) (hw _ (List.mem_of_getElem? (i := 69) rfl)) (hw _ (List.mem_of_getElem? (i := 68) rfl)) (hw _ (List.mem_of_getElem? (i := 6) rfl)) (hw _ (List.mem_of_getElem? (i := 70) rfl)) (nfSel (hw _ (List.mem_of_getElem? (i := 69) rfl))) (by decide) E (c_cod l Z a0 G a h C) (by simp) (argsL := []) (rest := [.int (Int32.ofNat cs.length)]) pd_6 rfl rfl rfl rfl 1 (Nat.le_of_eq rfl) (by decide) (by decide) (ck := 0) rfl (cs := 0) rfl (by decide) (by decide) d10_6 9 rfl ?_
  intro w5 T3 X4 hq6
  subst hq6
  refine g_ishr X4 d10_9 (Int32.ofNat cs.length) (shr0 _) 10 rfl ?_
  exact g_retI X4 rfl d10_10 (by decide) (by decide) ⟨rfl, _, rfl, rfl⟩
theorem d45_0 : decode jdk_41_method_11_code 0 = .ok (.iload_n 0, 1) := by decide +kernel
theorem d45_1 : decode jdk_41_method_11_code 1 = .ok (.ifCond .lt 8, 3) := by decide +kernel
theorem d45_4 : decode jdk_41_method_11_code 4 = .ok (.iload_n 0, 1) := by decide +kernel
theorem d45_5 : decode jdk_41_method_11_code 5 = .ok (.iload_n 1, 1) := by decide +kernel
theorem d45_6 : decode jdk_41_method_11_code 6 = .ok (.if_icmp .lt 10, 3) := by decide +kernel
theorem d45_9 : decode jdk_41_method_11_code 9 = .ok (.aload_n 2, 1) := by decide +kernel
theorem d45_10 : decode jdk_41_method_11_code 10 = .ok (.iload_n 0, 1) := by decide +kernel
theorem d45_11 : decode jdk_41_method_11_code 11 = .ok (.iload_n 1, 1) := by decide +kernel
theorem d45_12 : decode jdk_41_method_11_code 12 = .ok (.invokestatic 95, 3) := by decide +kernel
theorem d45_15 : decode jdk_41_method_11_code 15 = .ok (.athrow, 1) := by decide +kernel
theorem d45_16 : decode jdk_41_method_11_code 16 = .ok (.iload_n 0, 1) := by decide +kernel
theorem d45_17 : decode jdk_41_method_11_code 17 = .ok (.ireturn, 1) := by decide +kernel
theorem pn_1 : plainName "jdk/internal/util/Preconditions" = true := by first | (simp [plainName, overriddenIn]; done) | decide +kernel
set_option maxRecDepth 65536 in
set_option maxHeartbeats 40000000 in
theorem c_pci (l : Launch) (Z : State) (a0 : Array Value) (G : Gl Z a0) (i n : Int32) (v : Value) (h : Heap) (hv : v.isRef = true) (h0 : ¬ i < (0 : Int32)) (h1 : i < n) :
    Ctr l Z EL nw (⟨"jdk/internal/util/Preconditions", "checkIndex", "(IILjava/util/function/BiFunction;)I"⟩ : MethodName) jdk_41_method_11_code 3 (Option.some Jvm.ClassFile.FieldType.int) ({ frames := 0, cells := 0, slots := 0, locals := 0 } : Room) #[.int i, .int n, v] h [] (PureQ h fun w => w = .int i) := by
  obtain ⟨hw, hEL, hSA, ⟨zc, SC, hz⟩, ⟨fm, SF, hfm⟩, ⟨u0, SUn⟩, ⟨sp, SP, hsp⟩⟩ := id G
  refine Ctr.enter (own := "jdk/internal/util/Preconditions") (nm := "checkIndex") rfl rfl hEL (plainFor_of_name pn_1) #[.val (.int i), .val (.int n), .val (v)] (fun m => by rcases ref_cases hv with rfl | ⟨r, rfl⟩ <;> rfl) ?_
  intro p e s m below meth c T X
  refine g_iloadN X d45_0 rfl 1 rfl ?_
  refine g_ifNo X d45_1 (XT.ii_lt_f h0) 4 rfl ?_
  refine g_iloadN X d45_4 rfl 5 rfl ?_
  refine g_iloadN X d45_5 rfl 6 rfl ?_
  refine g_icmpYes X d45_6 (XT.ii_lt_t h1) 16 (by decide) (by decide) ?_
  refine g_iloadN X d45_16 rfl 17 rfl ?_
  exact g_retI X rfl d45_17 (by decide) (by decide) ⟨rfl, _, rfl, rfl⟩
theorem d44_0 : decode jdk_42_method_155_code 0 = .ok (.iload_n 0, 1) := by decide +kernel
theorem d44_1 : decode jdk_42_method_155_code 1 = .ok (.iload_n 1, 1) := by decide +kernel
theorem d44_2 : decode jdk_42_method_155_code 2 = .ok (.getstatic 1053, 3) := by decide +kernel
theorem d44_5 : decode jdk_42_method_155_code 5 = .ok (.invokestatic 1059, 3) := by decide +kernel
theorem d44_8 : decode jdk_42_method_155_code 8 = .ok (.pop, 1) := by decide +kernel
theorem d44_9 : decode jdk_42_method_155_code 9 = .ok (.return_, 1) := by decide +kernel
set_option maxRecDepth 65536 in
set_option maxHeartbeats 40000000 in
theorem c_ci (l : Launch) (Z : State) (a0 : Array Value) (G : Gl Z a0) (i n : Int32) (h : Heap) (h0 : ¬ i < (0 : Int32)) (h1 : i < n) :
    Ctr l Z EL nw (⟨"java/lang/String", "checkIndex", "(II)V"⟩ : MethodName) jdk_42_method_155_code 2 (Option.none : Option Jvm.ClassFile.FieldType) ({ frames := 1, cells := 0, slots := 0, locals := 14 } : Room) #[.int i, .int n] h [] (VoidQ fun h' => h = h') := by
  obtain ⟨hw, hEL, hSA, ⟨zc, SC, hz⟩, ⟨fm, SF, hfm⟩, ⟨u0, SUn⟩, ⟨sp, SP, hsp⟩⟩ := id G
  refine Ctr.enter (own := "java/lang/String") (nm := "checkIndex") rfl rfl hEL (plainFor_of_name pn_0) #[.val (.int i), .val (.int n)] (fun m => by first | rfl | (simp [entryFrame, mkF, argsToLocals, Value.category, maxLocals]; done)) ?_
  intro p e s m below meth c T X
  refine g_iloadN X d44_0 rfl 1 rfl ?_
  refine g_iloadN X d44_1 rfl 2 rfl ?_
  refine g_getS X (Or.inl (hw _ (List.mem_of_getElem? (i := 262) rfl))) (host := "") Via.refl (SF.ext X.old) d44_2 5 rfl ?_
  intro T1 X2
  refine g_callSp X2 (hw _ (List.mem_of_getElem? (i := 264) rfl)) (hw _ (List.mem_of_getElem? (i := 265) rfl)) (hw _ (List.mem_of_getElem? (i := 263) rfl)) (hw _ (List.mem_of_getElem? (i := 266) rfl)) (by decide) (c_pci l Z a0 G i n fm h hfm h0 h1) (by simp) (argsL := [.int i, .int n, fm]) (rest := []) pd_11 rfl rfl rfl rfl 0 (Nat.le_of_eq rfl) (by decide) (by decide) (ck := 0) rfl (cs := 0) rfl (by decide) (by decide) d44_5 8 rfl ?_
  intro w5 T3 X4 hq6
  subst hq6
  refine g_pop X4 d44_8 rfl 9 rfl ?_
  exact g_ret X4 rfl d44_9 (by decide) (by decide) ⟨rfl, rfl⟩
theorem d43_0 : decode jdk_43_method_2_code 0 = .ok (.iload_n 1, 1) := by decide +kernel
theorem d43_1 : decode jdk_43_method_2_code 1 = .ok (.aload_n 0, 1) := by decide +kernel
theorem d43_2 : decode jdk_43_method_2_code 2 = .ok (.arraylength, 1) := by decide +kernel
theorem d43_3 : decode jdk_43_method_2_code 3 = .ok (.invokestatic 9, 3) := by decide +kernel
theorem d43_6 : decode jdk_43_method_2_code 6 = .ok (.aload_n 0, 1) := by decide +kernel
theorem d43_7 : decode jdk_43_method_2_code 7 = .ok (.iload_n 1, 1) := by decide +kernel
theorem d43_8 : decode jdk_43_method_2_code 8 = .ok (.baload, 1) := by decide +kernel
theorem d43_9 : decode jdk_43_method_2_code 9 = .ok (.sipush 255, 3) := by decide +kernel
theorem d43_12 : decode jdk_43_method_2_code 12 = .ok (.iand, 1) := by decide +kernel
theorem d43_13 : decode jdk_43_method_2_code 13 = .ok (.i2c, 1) := by decide +kernel
theorem d43_14 : decode jdk_43_method_2_code 14 = .ok (.ireturn, 1) := by decide +kernel
theorem pn_2 : plainName "java/lang/StringLatin1" = true := by first | (simp [plainName, overriddenIn]; done) | decide +kernel
set_option maxRecDepth 65536 in
set_option maxHeartbeats 40000000 in
theorem c_lch (l : Launch) (Z : State) (a0 : Array Value) (G : Gl Z a0) (t : Addr) (kb : ClassId) (cs : List Int32) (i : Nat) (h : Heap) (A : Arv Z h t kb .byte (Int32.ofNat cs.length) (bys cs) (.int (0 : Int32))) (hcs : ∀ c ∈ cs, ¬ c < 0 ∧ ¬ (255 : Int32) < c) (hlen : cs.length ≤ 4000) (hi : i < cs.length) :
    Ctr l Z EL nw (⟨"java/lang/StringLatin1", "charAt", "([BI)C"⟩ : MethodName) jdk_43_method_2_code 2 (Option.some Jvm.ClassFile.FieldType.char) ({ frames := 2, cells := 0, slots := 0, locals := 27 } : Room) #[.ref t, .int (Int32.ofNat i)] h [] (PureQ h fun w => w = .int (cs.getD i 0)) := by
  obtain ⟨hw, hEL, hSA, ⟨zc, SC, hz⟩, ⟨fm, SF, hfm⟩, ⟨u0, SUn⟩, ⟨sp, SP, hsp⟩⟩ := id G
  refine Ctr.enter (own := "java/lang/StringLatin1") (nm := "charAt") rfl rfl hEL (plainFor_of_name pn_2) #[.val (.ref t), .val (.int (Int32.ofNat i))] (fun m => by first | rfl | (simp [entryFrame, mkF, argsToLocals, Value.category, maxLocals]; done)) ?_
  intro p e s m below meth c T X
  refine g_iloadN X d43_0 rfl 1 rfl ?_
  refine g_aloadN X d43_1 rfl rfl 2 rfl ?_
  refine g_arrlen X A d43_2 3 rfl ?_
  refine g_callSn X (hw _ (List.mem_of_getElem? (i := 259) rfl)) (hw _ (List.mem_of_getElem? (i := 260) rfl)) (hw _ (List.mem_of_getElem? (i := 6) rfl)) (hw _ (List.mem_of_getElem? (i := 261) rfl)) (by decide) (c_ci l Z a0 G _ _ h (of_nn (by omega)) (of_lt hi hlen)) (by simp) (argsL := [.int (Int32.ofNat i), .int (Int32.ofNat cs.length)]) (rest := []) pd_10 rfl rfl rfl rfl 0 (Nat.le_of_eq rfl) (by decide) (by decide) (ck := 0) rfl (cs := 0) rfl (by decide) (by decide) d43_3 6 rfl ?_
  intro T1 h4 X2 hq3
  subst hq3
  refine g_aloadN X2 d43_6 rfl rfl 7 rfl ?_
  refine g_iloadN X2 d43_7 rfl 8 rfl ?_
  refine g_baload X2 A (of_nn (by omega)) (of_lt hi hlen) _ (bys_at cs i (by omega)) d43_8 9 rfl ?_
  refine g_sipush X2 (255 : Int32) d43_9 (by decide) 12 rfl ?_
  refine g_iand X2 d43_12 (cs.getD i 0) (lo_mask (hcs _ (mem_at hi))) 13 rfl ?_
  refine g_i2c X2 d43_13 (cs.getD i 0) (nar255 (hcs _ (mem_at hi))) 14 rfl ?_
  exact g_retN X2 (t := .char) rfl (by simp) d43_14 _ (nar255 (hcs _ (mem_at hi))) (by decide) (by decide) ⟨rfl, _, rfl, rfl⟩
theorem d41_0 : decode jdk_42_method_56_code 0 = .ok (.aload_n 0, 1) := by decide +kernel
theorem d41_1 : decode jdk_42_method_56_code 1 = .ok (.invokevirtual 492, 3) := by decide +kernel
theorem d41_4 : decode jdk_42_method_56_code 4 = .ok (.ifCond .eq 12, 3) := by decide +kernel
theorem d41_7 : decode jdk_42_method_56_code 7 = .ok (.aload_n 0, 1) := by decide +kernel
theorem d41_8 : decode jdk_42_method_56_code 8 = .ok (.getfield 9, 3) := by decide +kernel
theorem d41_11 : decode jdk_42_method_56_code 11 = .ok (.iload_n 1, 1) := by decide +kernel
theorem d41_12 : decode jdk_42_method_56_code 12 = .ok (.invokestatic 495, 3) := by decide +kernel
theorem d41_15 : decode jdk_42_method_56_code 15 = .ok (.ireturn, 1) := by decide +kernel
theorem d41_16 : decode jdk_42_method_56_code 16 = .ok (.aload_n 0, 1) := by decide +kernel
theorem d41_17 : decode jdk_42_method_56_code 17 = .ok (.getfield 9, 3) := by decide +kernel
theorem d41_20 : decode jdk_42_method_56_code 20 = .ok (.iload_n 1, 1) := by decide +kernel
theorem d41_21 : decode jdk_42_method_56_code 21 = .ok (.invokestatic 498, 3) := by decide +kernel
theorem d41_24 : decode jdk_42_method_56_code 24 = .ok (.ireturn, 1) := by decide +kernel
set_option maxRecDepth 65536 in
set_option maxHeartbeats 40000000 in
theorem c_cha (l : Launch) (Z : State) (a0 : Array Value) (G : Gl Z a0) (a t : Addr) (kb : ClassId) (cs : List Int32) (i : Nat) (h : Heap) (E : Exa Z h a "java/lang/String") (C : Fld Z h a "java/lang/String" "coder" "B" (.int (0 : Int32))) (V : Fld Z h a "java/lang/String" "value" "[B" (.ref t)) (A : Arv Z h t kb .byte (Int32.ofNat cs.length) (bys cs) (.int (0 : Int32))) (hcs : ∀ c ∈ cs, ¬ c < 0 ∧ ¬ (255 : Int32) < c) (hlen : cs.length ≤ 4000) (hi : i < cs.length) :
    Ctr l Z EL nw (⟨"java/lang/String", "charAt", "(I)C"⟩ : MethodName) jdk_42_method_56_code 2 (Option.some Jvm.ClassFile.FieldType.char) ({ frames := 3, cells := 0, slots := 0, locals := 40 } : Room) #[.ref a, .int (Int32.ofNat i)] h [] (PureQ h fun w => w = .int (cs.getD i 0)) := by
  obtain ⟨hw, hEL, hSA, ⟨zc, SC, hz⟩, ⟨fm, SF, hfm⟩, ⟨u0, SUn⟩, ⟨sp, SP, hsp⟩⟩ := id G
  refine Ctr.enter (own := "java/lang/String") (nm := "charAt") rfl rfl hEL (plainFor_of_name pn_0) #[.val (.ref a), .val (.int (Int32.ofNat i))] (fun m => by first | rfl | (simp [entryFrame, mkF, argsToLocals, Value.category, maxLocals]; done)) ?_
  intro p e s m below meth c T X
  refine g_aloadN X d41_0 rfl rfl 1 rfl ?_
  refine g_callVp X (hw _ (List.mem_of_getElem? (i := 251) rfl)) (hw _ (List.mem_of_getElem? (i := 252) rfl)) (hw _ (List.mem_of_getElem? (i := 254) rfl)) (hw _ (List.mem_of_getElem? (i := 253) rfl)) (hw _ (List.mem_of_getElem? (i := 6) rfl)) (hw _ (List.mem_of_getElem? (i := 255) rfl)) (nfSel (hw _ (List.mem_of_getElem? (i := 254) rfl))) (by decide) E (c_isl l Z a0 G a h C) (by simp) (argsL := []) (rest := []) pd_7 rfl rfl rfl rfl 0 (Nat.le_of_eq rfl) (by decide) (by decide) (ck := 0) rfl (cs := 0) rfl (by decide) (by decide) d41_1 4 rfl ?_
  intro w3 T1 X2 hq4
  subst hq4
  refine g_ifNo X2 d41_4 (XT.ii_eq_f (by decide)) 7 rfl ?_
  refine g_aloadN X2 d41_7 rfl rfl 8 rfl ?_
  refine g_getF X2 (Or.inl (hw _ (List.mem_of_getElem? (i := 24) rfl))) (host := "") Via.refl V d41_8 11 rfl ?_
  intro T5 X6
  refine g_iloadN X6 d41_11 rfl 12 rfl ?_
  refine g_callSp X6 (hw _ (List.mem_of_getElem? (i := 256) rfl)) (hw _ (List.mem_of_getElem? (i := 257) rfl)) (hw _ (List.mem_of_getElem? (i := 241) rfl)) (hw _ (List.mem_of_getElem? (i := 258) rfl)) (by decide) (c_lch l Z a0 G t kb cs i h A hcs hlen hi) (by simp) (argsL := [.ref t, .int (Int32.ofNat i)]) (rest := []) pd_9 rfl rfl rfl rfl 0 (Nat.le_of_eq rfl) (by decide) (by decide) (ck := 0) rfl (cs := 0) rfl (by decide) (by decide) d41_12 15 rfl ?_
  intro w9 T7 X8 hq10
  subst hq10
  exact g_retN X8 (t := .char) rfl (by simp) d41_15 _ (nar255 (hcs _ (mem_at hi))) (by decide) (by decide) ⟨rfl, _, rfl, rfl⟩
theorem d39_0 : decode jdk_43_method_13_code 0 = .ok (.aload_n 0, 1) := by decide +kernel
theorem d39_1 : decode jdk_43_method_13_code 1 = .ok (.arraylength, 1) := by decide +kernel
theorem d39_2 : decode jdk_43_method_13_code 2 = .ok (.aload_n 1, 1) := by decide +kernel
theorem d39_3 : decode jdk_43_method_13_code 3 = .ok (.arraylength, 1) := by decide +kernel
theorem d39_4 : decode jdk_43_method_13_code 4 = .ok (.if_icmp .ne 30, 3) := by decide +kernel
theorem d39_7 : decode jdk_43_method_13_code 7 = .ok (.iconst 0, 1) := by decide +kernel
theorem d39_8 : decode jdk_43_method_13_code 8 = .ok (.istore_n 2, 1) := by decide +kernel
theorem d39_9 : decode jdk_43_method_13_code 9 = .ok (.iload_n 2, 1) := by decide +kernel
theorem d39_10 : decode jdk_43_method_13_code 10 = .ok (.aload_n 0, 1) := by decide +kernel
theorem d39_11 : decode jdk_43_method_13_code 11 = .ok (.arraylength, 1) := by decide +kernel
theorem d39_12 : decode jdk_43_method_13_code 12 = .ok (.if_icmp .ge 20, 3) := by decide +kernel
theorem d39_15 : decode jdk_43_method_13_code 15 = .ok (.aload_n 0, 1) := by decide +kernel
theorem d39_16 : decode jdk_43_method_13_code 16 = .ok (.iload_n 2, 1) := by decide +kernel
theorem d39_17 : decode jdk_43_method_13_code 17 = .ok (.baload, 1) := by decide +kernel
theorem d39_18 : decode jdk_43_method_13_code 18 = .ok (.aload_n 1, 1) := by decide +kernel
theorem d39_19 : decode jdk_43_method_13_code 19 = .ok (.iload_n 2, 1) := by decide +kernel
theorem d39_20 : decode jdk_43_method_13_code 20 = .ok (.baload, 1) := by decide +kernel
theorem d39_21 : decode jdk_43_method_13_code 21 = .ok (.if_icmp .eq 5, 3) := by decide +kernel
theorem d39_24 : decode jdk_43_method_13_code 24 = .ok (.iconst 0, 1) := by decide +kernel
theorem d39_25 : decode jdk_43_method_13_code 25 = .ok (.ireturn, 1) := by decide +kernel
theorem d39_26 : decode jdk_43_method_13_code 26 = .ok (.iinc 2 1, 3) := by decide +kernel
theorem d39_29 : decode jdk_43_method_13_code 29 = .ok (.goto (-20), 3) := by decide +kernel
theorem d39_32 : decode jdk_43_method_13_code 32 = .ok (.iconst 1, 1) := by decide +kernel
theorem d39_33 : decode jdk_43_method_13_code 33 = .ok (.ireturn, 1) := by decide +kernel
theorem d39_34 : decode jdk_43_method_13_code 34 = .ok (.iconst 0, 1) := by decide +kernel
theorem d39_35 : decode jdk_43_method_13_code 35 = .ok (.ireturn, 1) := by decide +kernel
set_option maxRecDepth 65536 in
set_option maxHeartbeats 40000000 in
theorem c_leq (l : Launch) (Z : State) (a0 : Array Value) (G : Gl Z a0) (t u : Addr) (kb kb' : ClassId) (cs ds : List Int32) (h : Heap) (A : Arv Z h t kb .byte (Int32.ofNat cs.length) (bys cs) (.int (0 : Int32))) (B : Arv Z h u kb' .byte (Int32.ofNat ds.length) (bys ds) (.int (0 : Int32))) (hcs : ∀ c ∈ cs, ¬ c < 0 ∧ ¬ (255 : Int32) < c) (hds : ∀ c ∈ ds, ¬ c < 0 ∧ ¬ (255 : Int32) < c) (hlen : cs.length ≤ 4000) (hlen' : ds.length ≤ 4000) :
    Ctr l Z EL nw (⟨"java/lang/StringLatin1", "equals", "([B[B)Z"⟩ : MethodName) jdk_43_method_13_code 3 (Option.some Jvm.ClassFile.FieldType.boolean) ({ frames := 0, cells := 0, slots := 0, locals := 0 } : Room) #[.ref t, .ref u] h [] (PureQ h fun w => w = .int (if cs = ds then 1 else 0)) := by
  obtain ⟨hw, hEL, hSA, ⟨zc, SC, hz⟩, ⟨fm, SF, hfm⟩, ⟨u0, SUn⟩, ⟨sp, SP, hsp⟩⟩ := id G
  refine Ctr.enter (own := "java/lang/StringLatin1") (nm := "equals") rfl rfl hEL (plainFor_of_name pn_2) #[.val (.ref t), .val (.ref u), .unset] (fun m => by first | rfl | (simp [entryFrame, mkF, argsToLocals, Value.category, maxLocals]; done)) ?_
  intro p e s m below meth c T X
  refine g_aloadN X d39_0 rfl rfl 1 rfl ?_
  refine g_arrlen X A d39_1 2 rfl ?_
  refine g_aloadN X d39_2 rfl rfl 3 rfl ?_
  refine g_arrlen X B d39_3 4 rfl ?_
  by_cases hl : cs.length = ds.length
  · refine g_icmpNo X d39_4 (XT.ii_ne_f (by rw [hl])) 7 rfl ?_
    refine g_iconst X (0 : Int32) d39_7 (by decide) 8 rfl ?_
    refine g_istoreN X d39_8 (Ls' := #[.val (.ref t), .val (.ref u), .val (.int (0 : Int32))]) rfl 9 rfl ?_
    have loop : ∀ (k i : Nat) (T : State), St p l e ({ frames := 0, cells := 0, slots := 0, locals := 0 } : Room) s m #[.ref t, .ref u] below meth c "java/lang/StringLatin1" jdk_43_method_13_code 3 ((Option.some Jvm.ClassFile.FieldType.boolean)) "equals" Z EL nw [] [] T h 0 0 → i + k = cs.length → cs.take i = ds.take i → OwnKit.Goes p e below s Z EL nw (PureQ h fun w => w = .int (if cs = ds then 1 else 0)) (({ frames := 0, cells := 0, slots := 0, locals := 0 } : Room)).cells (({ frames := 0, cells := 0, slots := 0, locals := 0 } : Room)).slots (T.setTop (mkF m 9 #[.val (.ref t), .val (.ref u), .val (.int (Int32.ofNat i))] [])) := by
      intro k
      induction k with
      | zero =>
        intro i T' X' hk ht
        have e1 : cs.take cs.length = ds.take cs.length := by rw [← hk]; exact ht
        refine g_iloadN X' d39_9 rfl 10 rfl ?_
        refine g_aloadN X' d39_10 rfl rfl 11 rfl ?_
        refine g_arrlen X' A d39_11 12 rfl ?_
        refine g_icmpYes X' d39_12 (XT.ii_ge_t (of_le (by omega) (by omega))) 32 (by decide) (by decide) ?_
        refine g_iconst X' (1 : Int32) d39_32 (by decide) 33 rfl ?_
        exact g_retN X' (t := .boolean) rfl (by simp) d39_33 _ rfl (by decide) (by decide) ⟨rfl, _, rfl, (by rw [if_pos (take_eq hl e1)]; rfl)⟩
      | succ k ih =>
        intro i T' X' hk ht
        have hi : i < cs.length := by omega
        refine g_iloadN X' d39_9 rfl 10 rfl ?_
        refine g_aloadN X' d39_10 rfl rfl 11 rfl ?_
        refine g_arrlen X' A d39_11 12 rfl ?_
        refine g_icmpNo X' d39_12 (XT.ii_ge_f (of_lt hi hlen)) 15 rfl ?_
        refine g_aloadN X' d39_15 rfl rfl 16 rfl ?_
        refine g_iloadN X' d39_16 rfl 17 rfl ?_
        refine g_baload X' A (of_nn (by omega)) (of_lt (by omega) (by omega)) _ (bys_at cs i (by omega)) d39_17 18 rfl ?_
        refine g_aloadN X' d39_18 rfl rfl 19 rfl ?_
        refine g_iloadN X' d39_19 rfl 20 rfl ?_
        refine g_baload X' B (of_nn (by omega)) (of_lt (by omega) (by omega)) _ (bys_at ds i (by omega)) d39_20 21 rfl ?_
        by_cases hb21 : (lo (cs.getD i 0)) = (lo (ds.getD i 0))
        · refine g_icmpYes X' d39_21 (XT.ii_eq_t hb21) 26 (by decide) (by decide) ?_
          have heq : cs.getD i 0 = ds.getD i 0 := lo_inj (hcs _ (mem_at hi)) (hds _ (mem_at (by omega))) hb21
          refine g_iinc X' d39_26 rfl (Int32.ofNat (i + 1)) (of_succ i) (Ls' := #[.val (.ref t), .val (.ref u), .val (.int (Int32.ofNat (i + 1)))]) rfl 29 rfl ?_
          refine g_goto X' d39_29 9 (by decide) (by decide) ?_
          exact ih (i + 1) T' X' (by omega) (take_more (by omega) (by omega) ht heq)
        · refine g_icmpNo X' d39_21 (XT.ii_eq_f hb21) 24 rfl ?_
          refine g_iconst X' (0 : Int32) d39_24 (by decide) 25 rfl ?_
          exact g_retN X' (t := .boolean) rfl (by simp) d39_25 _ rfl (by decide) (by decide) ⟨rfl, _, rfl, (by rw [if_neg (fun q => hb21 (by rw [q]))]; rfl)⟩
    exact loop cs.length 0 T X (by omega) rfl
  · have hl0 := hl
    refine g_icmpYes X d39_4 (XT.ii_ne_t (fun q => hl (of_eq hlen hlen' q))) 34 (by decide) (by decide) ?_
    refine g_iconst X (0 : Int32) d39_34 (by decide) 35 rfl ?_
    exact g_retN X (t := .boolean) rfl (by simp) d39_35 _ rfl (by decide) (by decide) ⟨rfl, _, rfl, (by rw [if_neg (fun q => hl0 (by rw [q]))]; rfl)⟩
theorem d38_0 : decode jdk_42_method_66_code 0 = .ok (.aload_n 0, 1) := by decide +kernel
theorem d38_1 : decode jdk_42_method_66_code 1 = .ok (.aload_n 1, 1) := by decide +kernel
theorem d38_2 : decode jdk_42_method_66_code 2 = .ok (.if_acmp .ne 5, 3) := by decide +kernel
theorem d38_5 : decode jdk_42_method_66_code 5 = .ok (.iconst 1, 1) := by decide +kernel
theorem d38_6 : decode jdk_42_method_66_code 6 = .ok (.ireturn, 1) := by decide +kernel
theorem d38_7 : decode jdk_42_method_66_code 7 = .ok (.aload_n 1, 1) := by decide +kernel
theorem d38_8 : decode jdk_42_method_66_code 8 = .ok (.instanceof 10, 3) := by decide +kernel
theorem d38_11 : decode jdk_42_method_66_code 11 = .ok (.ifCond .eq 43, 3) := by decide +kernel
theorem d38_14 : decode jdk_42_method_66_code 14 = .ok (.aload_n 1, 1) := by decide +kernel
theorem d38_15 : decode jdk_42_method_66_code 15 = .ok (.checkcast 10, 3) := by decide +kernel
theorem d38_18 : decode jdk_42_method_66_code 18 = .ok (.astore_n 2, 1) := by decide +kernel
theorem d38_19 : decode jdk_42_method_66_code 19 = .ok (.getstatic 38, 3) := by decide +kernel
theorem d38_22 : decode jdk_42_method_66_code 22 = .ok (.ifCond .eq 14, 3) := by decide +kernel
theorem d38_25 : decode jdk_42_method_66_code 25 = .ok (.aload_n 0, 1) := by decide +kernel
theorem d38_26 : decode jdk_42_method_66_code 26 = .ok (.getfield 15, 3) := by decide +kernel
theorem d38_29 : decode jdk_42_method_66_code 29 = .ok (.aload_n 2, 1) := by decide +kernel
theorem d38_30 : decode jdk_42_method_66_code 30 = .ok (.getfield 15, 3) := by decide +kernel
theorem d38_33 : decode jdk_42_method_66_code 33 = .ok (.if_icmp .ne 21, 3) := by decide +kernel
theorem d38_36 : decode jdk_42_method_66_code 36 = .ok (.aload_n 0, 1) := by decide +kernel
theorem d38_37 : decode jdk_42_method_66_code 37 = .ok (.getfield 9, 3) := by decide +kernel
theorem d38_40 : decode jdk_42_method_66_code 40 = .ok (.aload_n 2, 1) := by decide +kernel
theorem d38_41 : decode jdk_42_method_66_code 41 = .ok (.getfield 9, 3) := by decide +kernel
theorem d38_44 : decode jdk_42_method_66_code 44 = .ok (.invokestatic 541, 3) := by decide +kernel
theorem d38_47 : decode jdk_42_method_66_code 47 = .ok (.ifCond .eq 7, 3) := by decide +kernel
theorem d38_50 : decode jdk_42_method_66_code 50 = .ok (.iconst 1, 1) := by decide +kernel
theorem d38_51 : decode jdk_42_method_66_code 51 = .ok (.goto 4, 3) := by decide +kernel
theorem d38_54 : decode jdk_42_method_66_code 54 = .ok (.iconst 0, 1) := by decide +kernel
theorem d38_55 : decode jdk_42_method_66_code 55 = .ok (.ireturn, 1) := by decide +kernel
set_option maxRecDepth 65536 in
set_option maxHeartbeats 40000000 in
theorem c_seq (l : Launch) (Z : State) (a0 : Array Value) (G : Gl Z a0) (a b t u : Addr) (kb kb' : ClassId) (cs ds : List Int32) (hab : a = b → cs = ds) (h : Heap) (E : Exa Z h a "java/lang/String") (C : Fld Z h a "java/lang/String" "coder" "B" (.int (0 : Int32))) (V : Fld Z h a "java/lang/String" "value" "[B" (.ref t)) (A : Arv Z h t kb .byte (Int32.ofNat cs.length) (bys cs) (.int (0 : Int32))) (hcs : ∀ c ∈ cs, ¬ c < 0 ∧ ¬ (255 : Int32) < c) (hlen : cs.length ≤ 4000) (E' : Exa Z h b "java/lang/String") (C' : Fld Z h b "java/lang/String" "coder" "B" (.int (0 : Int32))) (V' : Fld Z h b "java/lang/String" "value" "[B" (.ref u)) (A' : Arv Z h u kb' .byte (Int32.ofNat ds.length) (bys ds) (.int (0 : Int32))) (hds : ∀ c ∈ ds, ¬ c < 0 ∧ ¬ (255 : Int32) < c) (hlen' : ds.length ≤ 4000) :
    Ctr l Z EL nw (⟨"java/lang/String", "equals", "(Ljava/lang/Object;)Z"⟩ : MethodName) jdk_42_method_66_code 3 (Option.some Jvm.ClassFile.FieldType.boolean) ({ frames := 1, cells := 0, slots := 0, locals := 14 } : Room) #[.ref a, .ref b] h [] (PureQ h fun w => w = .int (if cs = ds then 1 else 0)) := by
  obtain ⟨hw, hEL, hSA, ⟨zc, SC, hz⟩, ⟨fm, SF, hfm⟩, ⟨u0, SUn⟩, ⟨sp, SP, hsp⟩⟩ := id G
  refine Ctr.enter (own := "java/lang/String") (nm := "equals") rfl rfl hEL (plainFor_of_name pn_0) #[.val (.ref a), .val (.ref b), .unset] (fun m => by first | rfl | (simp [entryFrame, mkF, argsToLocals, Value.category, maxLocals]; done)) ?_
  intro p e s m below meth c T X
  refine g_aloadN X d38_0 rfl rfl 1 rfl ?_
  refine g_aloadN X d38_1 rfl rfl 2 rfl ?_
  by_cases hb2 : (.ref a : Value) = .ref b
  · refine g_acmpNo X d38_2 rfl rfl (XT.aa_ne_f hb2) 5 rfl ?_
    refine g_iconst X (1 : Int32) d38_5 (by decide) 6 rfl ?_
    exact g_retN X (t := .boolean) rfl (by simp) d38_6 _ rfl (by decide) (by decide) ⟨rfl, _, rfl, (by rw [if_pos (hab (Value.ref.inj hb2))]; rfl)⟩
  · refine g_acmpYes X d38_2 rfl rfl (XT.aa_ne_t hb2) 7 (by decide) (by decide) ?_
    refine g_aloadN X d38_7 rfl rfl 8 rfl ?_
    refine g_instY X (hw _ (List.mem_of_getElem? (i := 238) rfl)) (Ins.self E') d38_8 11 rfl ?_
    intro T1 X2
    refine g_ifNo X2 d38_11 (XT.ii_eq_f (by decide)) 14 rfl ?_
    refine g_aloadN X2 d38_14 rfl rfl 15 rfl ?_
    refine g_cast X2 (hw _ (List.mem_of_getElem? (i := 238) rfl)) (Ins.self E') d38_15 18 rfl ?_
    intro T3 X4
    refine g_astoreN X4 d38_18 rfl (Ls' := #[.val (.ref a), .val (.ref b), .val (.ref b)]) rfl 19 rfl ?_
    refine g_getS X4 (Or.inl (hw _ (List.mem_of_getElem? (i := 71) rfl))) (host := "") Via.refl (SC.ext X4.old) d38_19 22 rfl ?_
    intro T5 X6
    refine g_ifNo X6 d38_22 (XT.ii_eq_f hz) 25 rfl ?_
    refine g_aloadN X6 d38_25 rfl rfl 26 rfl ?_
    refine g_getF X6 (Or.inl (hw _ (List.mem_of_getElem? (i := 25) rfl))) (host := "") Via.refl C d38_26 29 rfl ?_
    intro T7 X8
    refine g_aloadN X8 d38_29 rfl rfl 30 rfl ?_
    refine g_getF X8 (Or.inl (hw _ (List.mem_of_getElem? (i := 25) rfl))) (host := "") Via.refl C' d38_30 33 rfl ?_
    intro T9 X10
    refine g_icmpNo X10 d38_33 (XT.ii_ne_f (by decide)) 36 rfl ?_
    refine g_aloadN X10 d38_36 rfl rfl 37 rfl ?_
    refine g_getF X10 (Or.inl (hw _ (List.mem_of_getElem? (i := 24) rfl))) (host := "") Via.refl V d38_37 40 rfl ?_
    intro T11 X12
    refine g_aloadN X12 d38_40 rfl rfl 41 rfl ?_
    refine g_getF X12 (Or.inl (hw _ (List.mem_of_getElem? (i := 24) rfl))) (host := "") Via.refl V' d38_41 44 rfl ?_
    intro T13 X14
    refine g_callSp X14 (hw _ (List.mem_of_getElem? (i := 239) rfl)) (hw _ (List.mem_of_getElem? (i := 240) rfl)) (hw _ (List.mem_of_getElem? (i := 241) rfl)) (hw _ (List.mem_of_getElem? (i := 242) rfl)) (by decide) (c_leq l Z a0 G t u kb kb' cs ds h A A' hcs hds hlen hlen') (by simp) (argsL := [.ref t, .ref u]) (rest := []) pd_12 rfl rfl rfl rfl 0 (Nat.le_of_eq rfl) (by decide) (by decide) (ck := 0) rfl (cs := 0) rfl (by decide) (by decide) d38_44 47 rfl ?_
    intro w17 T15 X16 hq18
    subst hq18
    by_cases hb47 : (if cs = ds then (1 : Int32) else 0) = (0 : Int32)
    · refine g_ifYes X16 d38_47 (XT.ii_eq_t hb47) 54 (by decide) (by decide) ?_
      refine g_iconst X16 (0 : Int32) d38_54 (by decide) 55 rfl ?_
      exact g_retN X16 (t := .boolean) rfl (by simp) d38_55 _ rfl (by decide) (by decide) ⟨rfl, _, rfl, (by by_cases q : cs = ds <;> simp [q] at hb47 ⊢ <;> rfl)⟩
    · refine g_ifNo X16 d38_47 (XT.ii_eq_f hb47) 50 rfl ?_
      refine g_iconst X16 (1 : Int32) d38_50 (by decide) 51 rfl ?_
      refine g_goto X16 d38_51 55 (by decide) (by decide) ?_
      exact g_retN X16 (t := .boolean) rfl (by simp) d38_55 _ rfl (by decide) (by decide) ⟨rfl, _, rfl, (by by_cases q : cs = ds <;> simp [q] at hb47 ⊢ <;> rfl)⟩
theorem pd_13 : parseMethodDescriptor "([C)V" = some ⟨[(.array .char)], none⟩ := by decide +kernel
theorem pd_14 : parseMethodDescriptor "([CIILjava/lang/Void;)V" = some ⟨[(.array .char), .int, .int, (.object "java/lang/Void")], none⟩ := by decide +kernel
theorem d3_0 : decode jdk_42_method_149_code 0 = .ok (.aload_n 0, 1) := by decide +kernel
theorem d3_1 : decode jdk_42_method_149_code 1 = .ok (.invokespecial 1, 3) := by decide +kernel
theorem d3_4 : decode jdk_42_method_149_code 4 = .ok (.iload_n 3, 1) := by decide +kernel
theorem d3_5 : decode jdk_42_method_149_code 5 = .ok (.ifCond .ne 22, 3) := by decide +kernel
theorem d3_8 : decode jdk_42_method_149_code 8 = .ok (.aload_n 0, 1) := by decide +kernel
theorem d3_9 : decode jdk_42_method_149_code 9 = .ok (.ldc 7, 2) := by decide +kernel
theorem d3_11 : decode jdk_42_method_149_code 11 = .ok (.getfield 9, 3) := by decide +kernel
theorem d3_14 : decode jdk_42_method_149_code 14 = .ok (.putfield 9, 3) := by decide +kernel
theorem d3_17 : decode jdk_42_method_149_code 17 = .ok (.aload_n 0, 1) := by decide +kernel
theorem d3_18 : decode jdk_42_method_149_code 18 = .ok (.ldc 7, 2) := by decide +kernel
theorem d3_20 : decode jdk_42_method_149_code 20 = .ok (.getfield 15, 3) := by decide +kernel
theorem d3_23 : decode jdk_42_method_149_code 23 = .ok (.putfield 15, 3) := by decide +kernel
theorem d3_26 : decode jdk_42_method_149_code 26 = .ok (.return_, 1) := by decide +kernel
theorem d3_27 : decode jdk_42_method_149_code 27 = .ok (.getstatic 38, 3) := by decide +kernel
theorem d3_30 : decode jdk_42_method_149_code 30 = .ok (.ifCond .eq 28, 3) := by decide +kernel
theorem d3_33 : decode jdk_42_method_149_code 33 = .ok (.aload_n 1, 1) := by decide +kernel
theorem d3_34 : decode jdk_42_method_149_code 34 = .ok (.iload_n 2, 1) := by decide +kernel
theorem d3_35 : decode jdk_42_method_149_code 35 = .ok (.iload_n 3, 1) := by decide +kernel
theorem d3_36 : decode jdk_42_method_149_code 36 = .ok (.invokestatic 177, 3) := by decide +kernel
theorem d3_39 : decode jdk_42_method_149_code 39 = .ok (.astore 5, 2) := by decide +kernel
theorem d3_41 : decode jdk_42_method_149_code 41 = .ok (.aload_n 0, 1) := by decide +kernel
theorem d3_42 : decode jdk_42_method_149_code 42 = .ok (.aload 5, 2) := by decide +kernel
theorem d3_44 : decode jdk_42_method_149_code 44 = .ok (.iload_n 3, 1) := by decide +kernel
theorem d3_45 : decode jdk_42_method_149_code 45 = .ok (.invokestatic 47, 3) := by decide +kernel
theorem d3_48 : decode jdk_42_method_149_code 48 = .ok (.putfield 15, 3) := by decide +kernel
theorem d3_51 : decode jdk_42_method_149_code 51 = .ok (.aload_n 0, 1) := by decide +kernel
theorem d3_52 : decode jdk_42_method_149_code 52 = .ok (.aload 5, 2) := by decide +kernel
theorem d3_54 : decode jdk_42_method_149_code 54 = .ok (.putfield 9, 3) := by decide +kernel
theorem d3_57 : decode jdk_42_method_149_code 57 = .ok (.return_, 1) := by decide +kernel
theorem d3_58 : decode jdk_42_method_149_code 58 = .ok (.aload_n 0, 1) := by decide +kernel
theorem d3_59 : decode jdk_42_method_149_code 59 = .ok (.iconst 1, 1) := by decide +kernel
theorem d3_60 : decode jdk_42_method_149_code 60 = .ok (.putfield 15, 3) := by decide +kernel
theorem d3_63 : decode jdk_42_method_149_code 63 = .ok (.aload_n 0, 1) := by decide +kernel
theorem d3_64 : decode jdk_42_method_149_code 64 = .ok (.aload_n 1, 1) := by decide +kernel
theorem d3_65 : decode jdk_42_method_149_code 65 = .ok (.iload_n 2, 1) := by decide +kernel
theorem d3_66 : decode jdk_42_method_149_code 66 = .ok (.iload_n 3, 1) := by decide +kernel
theorem d3_67 : decode jdk_42_method_149_code 67 = .ok (.invokestatic 180, 3) := by decide +kernel
theorem d3_70 : decode jdk_42_method_149_code 70 = .ok (.putfield 9, 3) := by decide +kernel
theorem d3_73 : decode jdk_42_method_149_code 73 = .ok (.return_, 1) := by decide +kernel
set_option maxRecDepth 65536 in
set_option maxHeartbeats 40000000 in
theorem c_s149 (l : Launch) (Z : State) (a0 : Array Value) (G : Gl Z a0) (a b : Addr) (us : List Addr) (h : Heap) (E : Exa Z h a "java/lang/String") (V : Fld Z h a "java/lang/String" "value" "[B" .null) (C : Fld Z h a "java/lang/String" "coder" "B" (.int (0 : Int32))) (hne : ∀ x ∈ us, x ≠ a) :
    Ctr l Z EL nw (⟨"java/lang/String", "<init>", "([CIILjava/lang/Void;)V"⟩ : MethodName) jdk_42_method_149_code 6 (Option.none : Option Jvm.ClassFile.FieldType) ({ frames := 1, cells := 2, slots := 4, locals := 12 } : Room) #[.ref a, .ref b, .int (0 : Int32), .int (0 : Int32), .null] h (a :: us) (VoidQ fun h' => Keep h h' [a] ∧ Str Z h' us a []) := by
  obtain ⟨hw, hEL, hSA, ⟨zc, SC, hz⟩, ⟨fm, SF, hfm⟩, ⟨u0, SUn⟩, ⟨sp, SP, hsp⟩⟩ := id G
  refine Ctr.enter (own := "java/lang/String") (nm := "<init>") rfl rfl hEL (plainFor_of_name pn_0) #[.val (.ref a), .val (.ref b), .val (.int (0 : Int32)), .val (.int (0 : Int32)), .val (.null), .unset] (fun m => by first | rfl | (simp [entryFrame, mkF, argsToLocals, Value.category, maxLocals]; done)) ?_
  intro p e s m below meth c T X
  refine g_aloadN X d3_0 rfl rfl 1 rfl ?_
  refine g_initO X (hw _ (List.mem_of_getElem? (i := 15) rfl)) (hw _ (List.mem_of_getElem? (i := 16) rfl)) (hw _ (List.mem_of_getElem? (i := 17) rfl)) rfl d3_1 (by decide) 0 (Nat.le_of_eq rfl) (by decide) 4 rfl ?_
  intro T1 X2
  refine g_iloadN X2 d3_4 rfl 5 rfl ?_
  refine g_ifNo X2 d3_5 (XT.ii_ne_f (by decide)) 8 rfl ?_
  refine g_aloadN X2 d3_8 rfl rfl 9 rfl ?_
  refine g_ldcS X2 (cs := []) rfl (hw _ (List.mem_of_getElem? (i := 18) rfl)) hSA (by simp [EL, consts_1]) ⟨by decide, by decide⟩ (by decide) (by decide) d3_9 0 (by decide) (by decide) (ck := 2) rfl (cs' := 4) rfl (by decide) (by decide) 11 rfl ?_
  intro s3 T4 h5 X6 E7 S8
  obtain ⟨t11, kb12, e13, f14, f15, kc16, b17, l18, n19⟩ := id S8
  refine g_getF X6 (Or.inl (hw _ (List.mem_of_getElem? (i := 24) rfl))) (host := "") Via.refl f15 d3_11 14 rfl ?_
  intro T9 X10
  refine g_putF X10 (Or.inl (hw _ (List.mem_of_getElem? (i := 24) rfl))) (host := "") Via.refl (V.ext E7) (E.ext E7) (Or.inr ⟨(hw _ (List.mem_of_getElem? (i := 20) rfl)), rfl, rfl⟩) (hw _ (List.mem_of_getElem? (i := 5) rfl)) (ty := (.array .byte)) (by decide +kernel) rfl rfl (by simp) d3_14 17 rfl ?_
  intro T20 h21 X22 W23 F24 E25
  refine g_aloadN X22 d3_17 rfl rfl 18 rfl ?_
  refine g_ldcA X22 (hw _ (List.mem_of_getElem? (i := 18) rfl)) (a := s3) (by simp) d3_18 20 rfl ?_
  refine g_getF X22 (Or.inl (hw _ (List.mem_of_getElem? (i := 25) rfl))) (host := "") Via.refl (f14.other W23 (Or.inl (Ne.symm (n19 a (by simp)).1))) d3_20 23 rfl ?_
  intro T26 X27
  refine g_putF X27 (Or.inl (hw _ (List.mem_of_getElem? (i := 25) rfl))) (host := "") Via.refl ((C.ext E7).other W23 (Or.inr (slot_ne (t := .byte) (t' := (.array .byte)) (Or.inr (hw _ (List.mem_of_getElem? (i := 21) rfl))) (Or.inr (hw _ (List.mem_of_getElem? (i := 20) rfl))) (by decide) (by decide +kernel) (by decide +kernel)))) E25 (Or.inr ⟨(hw _ (List.mem_of_getElem? (i := 21) rfl)), rfl, rfl⟩) (hw _ (List.mem_of_getElem? (i := 5) rfl)) (ty := .byte) (by decide +kernel) rfl rfl (by simp) d3_23 26 rfl ?_
  intro T28 h29 X30 W31 F32 E33
  exact g_ret X30 rfl d3_26 (by decide) (by decide) ⟨rfl, ⟨((((Keep.refl h [a]).ext E7).wr W23 (Or.inl (by simp))).wr W31 (Or.inl (by simp))), t11, kb12, E33, F32, (F24.other W31 (Or.inr (slot_ne (t := (.array .byte)) (t' := .byte) (Or.inr (hw _ (List.mem_of_getElem? (i := 20) rfl))) (Or.inr (hw _ (List.mem_of_getElem? (i := 21) rfl))) (by decide) (by decide +kernel) (by decide +kernel)))), ((kc16.other W23 (Ne.symm (n19 a (by simp)).2)).other W31 (Ne.symm (n19 a (by simp)).2)), b17, l18, fun x hx => ⟨hne x hx, (n19 x (List.mem_cons_of_mem _ hx)).2⟩⟩⟩
theorem d2_0 : decode jdk_42_method_3_code 0 = .ok (.aload_n 0, 1) := by decide +kernel
theorem d2_1 : decode jdk_42_method_3_code 1 = .ok (.aload_n 1, 1) := by decide +kernel
theorem d2_2 : decode jdk_42_method_3_code 2 = .ok (.iconst 0, 1) := by decide +kernel
theorem d2_3 : decode jdk_42_method_3_code 3 = .ok (.aload_n 1, 1) := by decide +kernel
theorem d2_4 : decode jdk_42_method_3_code 4 = .ok (.arraylength, 1) := by decide +kernel
theorem d2_5 : decode jdk_42_method_3_code 5 = .ok (.aconst_null, 1) := by decide +kernel
theorem d2_6 : decode jdk_42_method_3_code 6 = .ok (.invokespecial 27, 3) := by decide +kernel
theorem d2_9 : decode jdk_42_method_3_code 9 = .ok (.return_, 1) := by decide +kernel
set_option maxRecDepth 65536 in
set_option maxHeartbeats 40000000 in
theorem c_s3 (l : Launch) (Z : State) (a0 : Array Value) (G : Gl Z a0) (a b : Addr) (kb : ClassId) (us : List Addr) (h : Heap) (E : Exa Z h a "java/lang/String") (V : Fld Z h a "java/lang/String" "value" "[B" .null) (C : Fld Z h a "java/lang/String" "coder" "B" (.int (0 : Int32))) (hne : ∀ x ∈ us, x ≠ a) (A : Arv Z h b kb .char (0 : Int32) [] (.int (0 : Int32))) :
    Ctr l Z EL nw (⟨"java/lang/String", "<init>", "([C)V"⟩ : MethodName) jdk_42_method_3_code 2 (Option.none : Option Jvm.ClassFile.FieldType) ({ frames := 2, cells := 2, slots := 4, locals := 29 } : Room) #[.ref a, .ref b] h (a :: us) (VoidQ fun h' => Keep h h' [a] ∧ Str Z h' us a []) := by
  obtain ⟨hw, hEL, hSA, ⟨zc, SC, hz⟩, ⟨fm, SF, hfm⟩, ⟨u0, SUn⟩, ⟨sp, SP, hsp⟩⟩ := id G
  refine Ctr.enter (own := "java/lang/String") (nm := "<init>") rfl rfl hEL (plainFor_of_name pn_0) #[.val (.ref a), .val (.ref b)] (fun m => by first | rfl | (simp [entryFrame, mkF, argsToLocals, Value.category, maxLocals]; done)) ?_
  intro p e s m below meth c T X
  refine g_aloadN X d2_0 rfl rfl 1 rfl ?_
  refine g_aloadN X d2_1 rfl rfl 2 rfl ?_
  refine g_iconst X (0 : Int32) d2_2 (by decide) 3 rfl ?_
  refine g_aloadN X d2_3 rfl rfl 4 rfl ?_
  refine g_arrlen X A d2_4 5 rfl ?_
  refine g_aconstNull X d2_5 6 rfl ?_
  refine g_callIn X rfl (hw _ (List.mem_of_getElem? (i := 11) rfl)) (hw _ (List.mem_of_getElem? (i := 12) rfl)) (hw _ (List.mem_of_getElem? (i := 6) rfl)) (hw _ (List.mem_of_getElem? (i := 14) rfl)) (by decide) (c_s149 l Z a0 G a b us h E V C hne) (fun _ q => q) (argsL := [.ref b, .int (0 : Int32), .int (0 : Int32), .null]) (rest := []) pd_14 rfl rfl rfl rfl 0 (Nat.le_of_eq rfl) (by decide) (by decide) (ck := 2) rfl (cs := 4) rfl (by decide) (by decide) d2_6 9 rfl ?_
  intro T1 h4 X2 hq3
  obtain ⟨K5, S6⟩ := hq3
  exact g_ret X2 rfl d2_9 (by decide) (by decide) ⟨rfl, ⟨K5, S6⟩⟩
theorem pd_15 : parseMethodDescriptor "()V" = some ⟨[], none⟩ := by decide +kernel
theorem pd_16 : parseMethodDescriptor "(I)V" = some ⟨[.int], none⟩ := by decide +kernel
theorem pd_17 : parseMethodDescriptor "(Ljava/lang/String;)Ljava/lang/StringBuilder;" = some ⟨[(.object "java/lang/String")], (some (.object "java/lang/StringBuilder"))⟩ := by decide +kernel
theorem pd_18 : parseMethodDescriptor "(Ljava/lang/String;)Ljava/lang/AbstractStringBuilder;" = some ⟨[(.object "java/lang/String")], (some (.object "java/lang/AbstractStringBuilder"))⟩ := by decide +kernel
theorem pd_19 : parseMethodDescriptor "(ILjava/lang/String;)V" = some ⟨[.int, (.object "java/lang/String")], none⟩ := by decide +kernel
theorem pd_20 : parseMethodDescriptor "([BIB)V" = some ⟨[(.array .byte), .int, .byte], none⟩ := by decide +kernel
theorem pd_21 : parseMethodDescriptor "()Ljava/lang/String;" = some ⟨[], (some (.object "java/lang/String"))⟩ := by decide +kernel
theorem pd_22 : parseMethodDescriptor "(Ljava/lang/StringBuilder;)V" = some ⟨[(.object "java/lang/StringBuilder")], none⟩ := by decide +kernel
theorem pd_23 : parseMethodDescriptor "(Ljava/lang/AbstractStringBuilder;Ljava/lang/Void;)V" = some ⟨[(.object "java/lang/AbstractStringBuilder"), (.object "java/lang/Void")], none⟩ := by decide +kernel
theorem pd_24 : parseMethodDescriptor "()[B" = some ⟨[], (some (.array .byte))⟩ := by decide +kernel
theorem pd_25 : parseMethodDescriptor "([BII)[B" = some ⟨[(.array .byte), .int, .int], (some (.array .byte))⟩ := by decide +kernel
theorem pd_26 : parseMethodDescriptor "(II)I" = some ⟨[.int, .int], (some .int)⟩ := by decide +kernel
theorem d7_0 : decode jdk_68_method_2_code 0 = .ok (.aload_n 0, 1) := by decide +kernel
theorem d7_1 : decode jdk_68_method_2_code 1 = .ok (.invokespecial 3, 3) := by decide +kernel
theorem d7_4 : decode jdk_68_method_2_code 4 = .ok (.getstatic 18, 3) := by decide +kernel
theorem d7_7 : decode jdk_68_method_2_code 7 = .ok (.ifCond .eq 18, 3) := by decide +kernel
theorem d7_10 : decode jdk_68_method_2_code 10 = .ok (.aload_n 0, 1) := by decide +kernel
theorem d7_11 : decode jdk_68_method_2_code 11 = .ok (.iload_n 1, 1) := by decide +kernel
theorem d7_12 : decode jdk_68_method_2_code 12 = .ok (.newarray .byte, 2) := by decide +kernel
theorem d7_14 : decode jdk_68_method_2_code 14 = .ok (.putfield 15, 3) := by decide +kernel
theorem d7_17 : decode jdk_68_method_2_code 17 = .ok (.aload_n 0, 1) := by decide +kernel
theorem d7_18 : decode jdk_68_method_2_code 18 = .ok (.iconst 0, 1) := by decide +kernel
theorem d7_19 : decode jdk_68_method_2_code 19 = .ok (.putfield 22, 3) := by decide +kernel
theorem d7_22 : decode jdk_68_method_2_code 22 = .ok (.goto 16, 3) := by decide +kernel
theorem d7_25 : decode jdk_68_method_2_code 25 = .ok (.aload_n 0, 1) := by decide +kernel
theorem d7_26 : decode jdk_68_method_2_code 26 = .ok (.iload_n 1, 1) := by decide +kernel
theorem d7_27 : decode jdk_68_method_2_code 27 = .ok (.invokestatic 26, 3) := by decide +kernel
theorem d7_30 : decode jdk_68_method_2_code 30 = .ok (.putfield 15, 3) := by decide +kernel
theorem d7_33 : decode jdk_68_method_2_code 33 = .ok (.aload_n 0, 1) := by decide +kernel
theorem d7_34 : decode jdk_68_method_2_code 34 = .ok (.iconst 1, 1) := by decide +kernel
theorem d7_35 : decode jdk_68_method_2_code 35 = .ok (.putfield 22, 3) := by decide +kernel
theorem d7_38 : decode jdk_68_method_2_code 38 = .ok (.return_, 1) := by decide +kernel
theorem pn_3 : plainName "java/lang/AbstractStringBuilder" = true := by first | (simp [plainName, overriddenIn]; done) | decide +kernel
set_option maxRecDepth 65536 in
set_option maxHeartbeats 40000000 in
theorem c_asi (l : Launch) (Z : State) (a0 : Array Value) (G : Gl Z a0) (a : Addr) (h : Heap) (E : Exa Z h a "java/lang/StringBuilder") (V : Fld Z h a "java/lang/AbstractStringBuilder" "value" "[B" .null) (C : Fld Z h a "java/lang/AbstractStringBuilder" "coder" "B" (.int (0 : Int32))) (N : Fld Z h a "java/lang/AbstractStringBuilder" "count" "I" (.int (0 : Int32))) :
    Ctr l Z EL nw (⟨"java/lang/AbstractStringBuilder", "<init>", "(I)V"⟩ : MethodName) jdk_68_method_2_code 2 (Option.none : Option Jvm.ClassFile.FieldType) ({ frames := 1, cells := 1, slots := 16, locals := 12 } : Room) #[.ref a, .int (16 : Int32)] h [a] (VoidQ fun h' => ∃ (b : Addr) (kb : ClassId), Keep h h' [a] ∧ h.size ≤ b ∧ Sb Z h' a b kb 16 []) := by
  obtain ⟨hw, hEL, hSA, ⟨zc, SC, hz⟩, ⟨fm, SF, hfm⟩, ⟨u0, SUn⟩, ⟨sp, SP, hsp⟩⟩ := id G
  refine Ctr.enter (own := "java/lang/AbstractStringBuilder") (nm := "<init>") rfl rfl hEL (plainFor_of_name pn_3) #[.val (.ref a), .val (.int (16 : Int32))] (fun m => by first | rfl | (simp [entryFrame, mkF, argsToLocals, Value.category, maxLocals]; done)) ?_
  intro p e s m below meth c T X
  refine g_aloadN X d7_0 rfl rfl 1 rfl ?_
  refine g_initO X (hw _ (List.mem_of_getElem? (i := 44) rfl)) (hw _ (List.mem_of_getElem? (i := 16) rfl)) (hw _ (List.mem_of_getElem? (i := 17) rfl)) rfl d7_1 (by decide) 0 (Nat.le_of_eq rfl) (by decide) 4 rfl ?_
  intro T1 X2
  refine g_getS X2 (Or.inl (hw _ (List.mem_of_getElem? (i := 45) rfl))) (host := "") Via.refl (SC.ext X2.old) d7_4 7 rfl ?_
  intro T3 X4
  refine g_ifNo X4 d7_7 (XT.ii_eq_f hz) 10 rfl ?_
  refine g_aloadN X4 d7_10 rfl rfl 11 rfl ?_
  refine g_iloadN X4 d7_11 rfl 12 rfl ?_
  refine g_newP X4 (hw _ (List.mem_of_getElem? (i := 19) rfl)) d7_12 (by decide) 16 (by decide) (by decide) (ck := 1) rfl (cs := 16) rfl (by decide) (by decide) 14 rfl ?_
  intro a5 T6 h7 kc8 ea9 X10 E11 A12
  have A13 : Arv Z h7 a5 kc8 .byte (16 : Int32) [.int (0 : Int32), .int (0 : Int32), .int (0 : Int32), .int (0 : Int32), .int (0 : Int32), .int (0 : Int32), .int (0 : Int32), .int (0 : Int32), .int (0 : Int32), .int (0 : Int32), .int (0 : Int32), .int (0 : Int32), .int (0 : Int32), .int (0 : Int32), .int (0 : Int32), .int (0 : Int32)] (.int (0 : Int32)) := A12.pad (pad_rep [] _ 16)
  have ne_a_a5 : a ≠ a5 := by rw [ea9]; exact Nat.ne_of_lt E.lt
  have le_a5 : h.size ≤ a5 := by rw [ea9]; exact Nat.le_refl _
  refine g_putF X10 (Or.inl (hw _ (List.mem_of_getElem? (i := 46) rfl))) (host := "") Via.refl (V.ext E11) (E.ext E11) (Or.inl (hw _ (List.mem_of_getElem? (i := 47) rfl))) (hw _ (List.mem_of_getElem? (i := 33) rfl)) (ty := (.array .byte)) (by decide +kernel) rfl rfl (by simp) d7_14 17 rfl ?_
  intro T14 h15 X16 W17 F18 E19
  refine g_aloadN X16 d7_17 rfl rfl 18 rfl ?_
  refine g_iconst X16 (0 : Int32) d7_18 (by decide) 19 rfl ?_
  refine g_putF X16 (Or.inl (hw _ (List.mem_of_getElem? (i := 48) rfl))) (host := "") Via.refl ((C.ext E11).other W17 (Or.inr (slot_ne (t := .byte) (t' := (.array .byte)) (Or.inl (hw _ (List.mem_of_getElem? (i := 49) rfl))) (Or.inl (hw _ (List.mem_of_getElem? (i := 47) rfl))) (by decide) (by decide +kernel) (by decide +kernel)))) E19 (Or.inl (hw _ (List.mem_of_getElem? (i := 49) rfl))) (hw _ (List.mem_of_getElem? (i := 33) rfl)) (ty := .byte) (by decide +kernel) rfl rfl (by simp) d7_19 22 rfl ?_
  intro T20 h21 X22 W23 F24 E25
  refine g_goto X22 d7_22 38 (by decide) (by decide) ?_
  exact g_ret X22 rfl d7_38 (by decide) (by decide) ⟨rfl, ⟨a5, _, ((((Keep.refl h [a]).ext E11).wr W17 (Or.inl (by simp))).wr W23 (Or.inl (by simp))), le_a5, E25, F24, (((N.ext E11).other W17 (Or.inr (slot_ne (t := .int) (t' := (.array .byte)) (Or.inl (hw _ (List.mem_of_getElem? (i := 73) rfl))) (Or.inl (hw _ (List.mem_of_getElem? (i := 47) rfl))) (by decide) (by decide +kernel) (by decide +kernel)))).other W23 (Or.inr (slot_ne (t := .int) (t' := .byte) (Or.inl (hw _ (List.mem_of_getElem? (i := 73) rfl))) (Or.inl (hw _ (List.mem_of_getElem? (i := 49) rfl))) (by decide) (by decide +kernel) (by decide +kernel)))), (F18.other W23 (Or.inr (slot_ne (t := (.array .byte)) (t' := .byte) (Or.inl (hw _ (List.mem_of_getElem? (i := 47) rfl))) (Or.inl (hw _ (List.mem_of_getElem? (i := 49) rfl))) (by decide) (by decide +kernel) (by decide +kernel)))), ((A13.other W17 (Ne.symm ne_a_a5)).other W23 (Ne.symm ne_a_a5)), (by simp), (by decide), (by decide), ne_a_a5⟩⟩
theorem d6_0 : decode jdk_67_method_1_code 0 = .ok (.aload_n 0, 1) := by decide +kernel
theorem d6_1 : decode jdk_67_method_1_code 1 = .ok (.bipush 16, 2) := by decide +kernel
theorem d6_3 : decode jdk_67_method_1_code 3 = .ok (.invokespecial 1, 3) := by decide +kernel
theorem d6_6 : decode jdk_67_method_1_code 6 = .ok (.return_, 1) := by decide +kernel
theorem pn_4 : plainName "java/lang/StringBuilder" = true := by first | (simp [plainName, overriddenIn]; done) | decide +kernel
set_option maxRecDepth 65536 in
set_option maxHeartbeats 40000000 in
theorem c_sbi (l : Launch) (Z : State) (a0 : Array Value) (G : Gl Z a0) (a : Addr) (h : Heap) (E : Exa Z h a "java/lang/StringBuilder") (V : Fld Z h a "java/lang/AbstractStringBuilder" "value" "[B" .null) (C : Fld Z h a "java/lang/AbstractStringBuilder" "coder" "B" (.int (0 : Int32))) (N : Fld Z h a "java/lang/AbstractStringBuilder" "count" "I" (.int (0 : Int32))) :
    Ctr l Z EL nw (⟨"java/lang/StringBuilder", "<init>", "()V"⟩ : MethodName) jdk_67_method_1_code 1 (Option.none : Option Jvm.ClassFile.FieldType) ({ frames := 2, cells := 1, slots := 16, locals := 25 } : Room) #[.ref a] h [a] (VoidQ fun h' => ∃ (b : Addr) (kb : ClassId), Keep h h' [a] ∧ h.size ≤ b ∧ Sb Z h' a b kb 16 []) := by
  obtain ⟨hw, hEL, hSA, ⟨zc, SC, hz⟩, ⟨fm, SF, hfm⟩, ⟨u0, SUn⟩, ⟨sp, SP, hsp⟩⟩ := id G
  refine Ctr.enter (own := "java/lang/StringBuilder") (nm := "<init>") rfl rfl hEL (plainFor_of_name pn_4) #[.val (.ref a)] (fun m => by first | rfl | (simp [entryFrame, mkF, argsToLocals, Value.category, maxLocals]; done)) ?_
  intro p e s m below meth c T X
  refine g_aloadN X d6_0 rfl rfl 1 rfl ?_
  refine g_bipush X (16 : Int32) d6_1 (by decide) 3 rfl ?_
  refine g_callIn X rfl (hw _ (List.mem_of_getElem? (i := 38) rfl)) (hw _ (List.mem_of_getElem? (i := 39) rfl)) (hw _ (List.mem_of_getElem? (i := 42) rfl)) (hw _ (List.mem_of_getElem? (i := 43) rfl)) (by decide) (c_asi l Z a0 G a h E V C N) (by simp) (argsL := [.int (16 : Int32)]) (rest := []) pd_16 rfl rfl rfl rfl 0 (Nat.le_of_eq rfl) (by decide) (by decide) (ck := 1) rfl (cs := 16) rfl (by decide) (by decide) d6_3 6 rfl ?_
  intro T1 h4 X2 hq3
  exact g_ret X2 rfl d6_6 (by decide) (by decide) ⟨rfl, hq3⟩
theorem d12_0 : decode jdk_68_method_9_code 0 = .ok (.aload_n 0, 1) := by decide +kernel
theorem d12_1 : decode jdk_68_method_9_code 1 = .ok (.getfield 15, 3) := by decide +kernel
theorem d12_4 : decode jdk_68_method_9_code 4 = .ok (.arraylength, 1) := by decide +kernel
theorem d12_5 : decode jdk_68_method_9_code 5 = .ok (.aload_n 0, 1) := by decide +kernel
theorem d12_6 : decode jdk_68_method_9_code 6 = .ok (.getfield 22, 3) := by decide +kernel
theorem d12_9 : decode jdk_68_method_9_code 9 = .ok (.ishr, 1) := by decide +kernel
theorem d12_10 : decode jdk_68_method_9_code 10 = .ok (.istore_n 2, 1) := by decide +kernel
theorem d12_11 : decode jdk_68_method_9_code 11 = .ok (.iload_n 1, 1) := by decide +kernel
theorem d12_12 : decode jdk_68_method_9_code 12 = .ok (.iload_n 2, 1) := by decide +kernel
theorem d12_13 : decode jdk_68_method_9_code 13 = .ok (.isub, 1) := by decide +kernel
theorem d12_14 : decode jdk_68_method_9_code 14 = .ok (.ifCond .le 24, 3) := by decide +kernel
theorem d12_17 : decode jdk_68_method_9_code 17 = .ok (.aload_n 0, 1) := by decide +kernel
theorem d12_18 : decode jdk_68_method_9_code 18 = .ok (.aload_n 0, 1) := by decide +kernel
theorem d12_19 : decode jdk_68_method_9_code 19 = .ok (.getfield 15, 3) := by decide +kernel
theorem d12_22 : decode jdk_68_method_9_code 22 = .ok (.aload_n 0, 1) := by decide +kernel
theorem d12_23 : decode jdk_68_method_9_code 23 = .ok (.iload_n 1, 1) := by decide +kernel
theorem d12_24 : decode jdk_68_method_9_code 24 = .ok (.invokevirtual 104, 3) := by decide +kernel
theorem d12_27 : decode jdk_68_method_9_code 27 = .ok (.aload_n 0, 1) := by decide +kernel
theorem d12_28 : decode jdk_68_method_9_code 28 = .ok (.getfield 22, 3) := by decide +kernel
theorem d12_31 : decode jdk_68_method_9_code 31 = .ok (.ishl, 1) := by decide +kernel
theorem d12_32 : decode jdk_68_method_9_code 32 = .ok (.invokestatic 108, 3) := by decide +kernel
theorem d12_35 : decode jdk_68_method_9_code 35 = .ok (.putfield 15, 3) := by decide +kernel
theorem d12_38 : decode jdk_68_method_9_code 38 = .ok (.return_, 1) := by decide +kernel
set_option maxRecDepth 65536 in
set_option maxHeartbeats 40000000 in
theorem c_eci (l : Launch) (Z : State) (a0 : Array Value) (G : Gl Z a0) (a b : Addr) (kb : ClassId) (cap k : Nat) (vs : List Value) (h : Heap) (C : Fld Z h a "java/lang/AbstractStringBuilder" "coder" "B" (.int (0 : Int32))) (V : Fld Z h a "java/lang/AbstractStringBuilder" "value" "[B" (.ref b)) (A : Arv Z h b kb .byte (Int32.ofNat cap) vs (.int (0 : Int32))) (hk : k ≤ cap) (hcap : cap ≤ 4000) :
    Ctr l Z EL nw (⟨"java/lang/AbstractStringBuilder", "ensureCapacityInternal", "(I)V"⟩ : MethodName) jdk_68_method_9_code 3 (Option.none : Option Jvm.ClassFile.FieldType) ({ frames := 0, cells := 0, slots := 0, locals := 0 } : Room) #[.ref a, .int (Int32.ofNat k)] h [] (VoidQ fun h' => h = h') := by
  obtain ⟨hw, hEL, hSA, ⟨zc, SC, hz⟩, ⟨fm, SF, hfm⟩, ⟨u0, SUn⟩, ⟨sp, SP, hsp⟩⟩ := id G
  refine Ctr.enter (own := "java/lang/AbstractStringBuilder") (nm := "ensureCapacityInternal") rfl rfl hEL (plainFor_of_name pn_3) #[.val (.ref a), .val (.int (Int32.ofNat k)), .unset] (fun m => by first | rfl | (simp [entryFrame, mkF, argsToLocals, Value.category, maxLocals]; done)) ?_
  intro p e s m below meth c T X
  refine g_aloadN X d12_0 rfl rfl 1 rfl ?_
  refine g_getF X (Or.inl (hw _ (List.mem_of_getElem? (i := 46) rfl))) (host := "") Via.refl V d12_1 4 rfl ?_
  intro T1 X2
  refine g_arrlen X2 A d12_4 5 rfl ?_
  refine g_aloadN X2 d12_5 rfl rfl 6 rfl ?_
  refine g_getF X2 (Or.inl (hw _ (List.mem_of_getElem? (i := 48) rfl))) (host := "") Via.refl C d12_6 9 rfl ?_
  intro T3 X4
  refine g_ishr X4 d12_9 (Int32.ofNat cap) (shr0 _) 10 rfl ?_
  refine g_istoreN X4 d12_10 (Ls' := #[.val (.ref a), .val (.int (Int32.ofNat k)), .val (.int (Int32.ofNat cap))]) rfl 11 rfl ?_
  refine g_iloadN X4 d12_11 rfl 12 rfl ?_
  refine g_iloadN X4 d12_12 rfl 13 rfl ?_
  refine g_isub X4 d12_13 _ rfl 14 rfl ?_
  refine g_ifYes X4 d12_14 (XT.ii_le_t (sub_le hk hcap)) 38 (by decide) (by decide) ?_
  exact g_ret X4 rfl d12_38 (by decide) (by decide) ⟨rfl, rfl⟩
theorem d19_0 : decode jdk_68_method_71_code 0 = .ok (.getstatic 18, 3) := by decide +kernel
theorem d19_3 : decode jdk_68_method_71_code 3 = .ok (.ifCond .eq 18, 3) := by decide +kernel
theorem d19_6 : decode jdk_68_method_71_code 6 = .ok (.aload_n 0, 1) := by decide +kernel
theorem d19_7 : decode jdk_68_method_71_code 7 = .ok (.getfield 22, 3) := by decide +kernel
theorem d19_10 : decode jdk_68_method_71_code 10 = .ok (.aload_n 1, 1) := by decide +kernel
theorem d19_11 : decode jdk_68_method_71_code 11 = .ok (.invokevirtual 40, 3) := by decide +kernel
theorem d19_14 : decode jdk_68_method_71_code 14 = .ok (.if_icmp .eq 7, 3) := by decide +kernel
theorem d19_17 : decode jdk_68_method_71_code 17 = .ok (.aload_n 0, 1) := by decide +kernel
theorem d19_18 : decode jdk_68_method_71_code 18 = .ok (.invokevirtual 195, 3) := by decide +kernel
theorem d19_21 : decode jdk_68_method_71_code 21 = .ok (.return_, 1) := by decide +kernel
set_option maxRecDepth 65536 in
set_option maxHeartbeats 40000000 in
theorem c_inf (l : Launch) (Z : State) (a0 : Array Value) (G : Gl Z a0) (a u : Addr) (h : Heap) (C : Fld Z h a "java/lang/AbstractStringBuilder" "coder" "B" (.int (0 : Int32))) (Eu : Exa Z h u "java/lang/String") (Cu : Fld Z h u "java/lang/String" "coder" "B" (.int (0 : Int32))) :
    Ctr l Z EL nw (⟨"java/lang/AbstractStringBuilder", "inflateIfNeededFor", "(Ljava/lang/String;)V"⟩ : MethodName) jdk_68_method_71_code 2 (Option.none : Option Jvm.ClassFile.FieldType) ({ frames := 1, cells := 0, slots := 0, locals := 13 } : Room) #[.ref a, .ref u] h [] (VoidQ fun h' => h = h') := by
  obtain ⟨hw, hEL, hSA, ⟨zc, SC, hz⟩, ⟨fm, SF, hfm⟩, ⟨u0, SUn⟩, ⟨sp, SP, hsp⟩⟩ := id G
  refine Ctr.enter (own := "java/lang/AbstractStringBuilder") (nm := "inflateIfNeededFor") rfl rfl hEL (plainFor_of_name pn_3) #[.val (.ref a), .val (.ref u)] (fun m => by first | rfl | (simp [entryFrame, mkF, argsToLocals, Value.category, maxLocals]; done)) ?_
  intro p e s m below meth c T X
  refine g_getS X (Or.inl (hw _ (List.mem_of_getElem? (i := 45) rfl))) (host := "") Via.refl (SC.ext X.old) d19_0 3 rfl ?_
  intro T1 X2
  refine g_ifNo X2 d19_3 (XT.ii_eq_f hz) 6 rfl ?_
  refine g_aloadN X2 d19_6 rfl rfl 7 rfl ?_
  refine g_getF X2 (Or.inl (hw _ (List.mem_of_getElem? (i := 48) rfl))) (host := "") Via.refl C d19_7 10 rfl ?_
  intro T3 X4
  refine g_aloadN X4 d19_10 rfl rfl 11 rfl ?_
  refine g_callVp X4 (hw _ (List.mem_of_getElem? (i := 115) rfl)) (hw _ (List.mem_of_getElem? (i := 67) rfl)) (hw _ (List.mem_of_getElem? (i := 69) rfl)) (hw _ (List.mem_of_getElem? (i := 68) rfl)) (hw _ (List.mem_of_getElem? (i := 6) rfl)) (hw _ (List.mem_of_getElem? (i := 70) rfl)) (nfSel (hw _ (List.mem_of_getElem? (i := 69) rfl))) (by decide) Eu (c_cod l Z a0 G u h Cu) (by simp) (argsL := []) (rest := [.int (0 : Int32)]) pd_6 rfl rfl rfl rfl 1 (Nat.le_of_eq rfl) (by decide) (by decide) (ck := 0) rfl (cs := 0) rfl (by decide) (by decide) d19_11 14 rfl ?_
  intro w7 T5 X6 hq8
  subst hq8
  refine g_icmpYes X6 d19_14 (XT.ii_eq_t (by decide)) 21 (by decide) (by decide) ?_
  exact g_ret X6 rfl d19_21 (by decide) (by decide) ⟨rfl, rfl⟩
theorem d20_0 : decode jdk_42_method_147_code 0 = .ok (.aload_n 0, 1) := by decide +kernel
theorem d20_1 : decode jdk_42_method_147_code 1 = .ok (.invokevirtual 335, 3) := by decide +kernel
theorem d20_4 : decode jdk_42_method_147_code 4 = .ok (.iload_n 3, 1) := by decide +kernel
theorem d20_5 : decode jdk_42_method_147_code 5 = .ok (.if_icmp .ne 23, 3) := by decide +kernel
theorem d20_8 : decode jdk_42_method_147_code 8 = .ok (.aload_n 0, 1) := by decide +kernel
theorem d20_9 : decode jdk_42_method_147_code 9 = .ok (.getfield 9, 3) := by decide +kernel
theorem d20_12 : decode jdk_42_method_147_code 12 = .ok (.iconst 0, 1) := by decide +kernel
theorem d20_13 : decode jdk_42_method_147_code 13 = .ok (.aload_n 1, 1) := by decide +kernel
theorem d20_14 : decode jdk_42_method_147_code 14 = .ok (.iload_n 2, 1) := by decide +kernel
theorem d20_15 : decode jdk_42_method_147_code 15 = .ok (.iload_n 3, 1) := by decide +kernel
theorem d20_16 : decode jdk_42_method_147_code 16 = .ok (.ishl, 1) := by decide +kernel
theorem d20_17 : decode jdk_42_method_147_code 17 = .ok (.aload_n 0, 1) := by decide +kernel
theorem d20_18 : decode jdk_42_method_147_code 18 = .ok (.getfield 9, 3) := by decide +kernel
theorem d20_21 : decode jdk_42_method_147_code 21 = .ok (.arraylength, 1) := by decide +kernel
theorem d20_22 : decode jdk_42_method_147_code 22 = .ok (.invokestatic 212, 3) := by decide +kernel
theorem d20_25 : decode jdk_42_method_147_code 25 = .ok (.goto 18, 3) := by decide +kernel
theorem d20_28 : decode jdk_42_method_147_code 28 = .ok (.aload_n 0, 1) := by decide +kernel
theorem d20_29 : decode jdk_42_method_147_code 29 = .ok (.getfield 9, 3) := by decide +kernel
theorem d20_32 : decode jdk_42_method_147_code 32 = .ok (.iconst 0, 1) := by decide +kernel
theorem d20_33 : decode jdk_42_method_147_code 33 = .ok (.aload_n 1, 1) := by decide +kernel
theorem d20_34 : decode jdk_42_method_147_code 34 = .ok (.iload_n 2, 1) := by decide +kernel
theorem d20_35 : decode jdk_42_method_147_code 35 = .ok (.aload_n 0, 1) := by decide +kernel
theorem d20_36 : decode jdk_42_method_147_code 36 = .ok (.getfield 9, 3) := by decide +kernel
theorem d20_39 : decode jdk_42_method_147_code 39 = .ok (.arraylength, 1) := by decide +kernel
theorem d20_40 : decode jdk_42_method_147_code 40 = .ok (.invokestatic 106, 3) := by decide +kernel
theorem d20_43 : decode jdk_42_method_147_code 43 = .ok (.return_, 1) := by decide +kernel
set_option maxRecDepth 65536 in
set_option maxHeartbeats 40000000 in
theorem c_gb (l : Launch) (Z : State) (a0 : Array Value) (G : Gl Z a0) (u t b : Addr) (kt kb : ClassId) (cap : Nat) (cs ds : List Int32) (h : Heap) (Eu : Exa Z h u "java/lang/String") (Cu : Fld Z h u "java/lang/String" "coder" "B" (.int (0 : Int32))) (Vu : Fld Z h u "java/lang/String" "value" "[B" (.ref t)) (At : Arv Z h t kt .byte (Int32.ofNat ds.length) (bys ds) (.int (0 : Int32))) (hds : ∀ c ∈ ds, ¬ c < 0 ∧ ¬ (255 : Int32) < c) (hdl : ds.length ≤ 4000) (A : Arv Z h b kb .byte (Int32.ofNat cap) (padB cap cs) (.int (0 : Int32))) (hfit : cs.length + ds.length ≤ cap) (hcap : cap ≤ 4000) :
    Ctr l Z EL nw (⟨"java/lang/String", "getBytes", "([BIB)V"⟩ : MethodName) jdk_42_method_147_code 4 (Option.none : Option Jvm.ClassFile.FieldType) ({ frames := 1, cells := 0, slots := 0, locals := 18 } : Room) #[.ref u, .ref b, .int (Int32.ofNat cs.length), .int (0 : Int32)] h [b] (VoidQ fun h' => Keep h h' [b] ∧ Arv Z h' b kb .byte (Int32.ofNat cap) (padB cap (cs ++ ds)) (.int (0 : Int32))) := by
  obtain ⟨hw, hEL, hSA, ⟨zc, SC, hz⟩, ⟨fm, SF, hfm⟩, ⟨u0, SUn⟩, ⟨sp, SP, hsp⟩⟩ := id G
  refine Ctr.enter (own := "java/lang/String") (nm := "getBytes") rfl rfl hEL (plainFor_of_name pn_0) #[.val (.ref u), .val (.ref b), .val (.int (Int32.ofNat cs.length)), .val (.int (0 : Int32))] (fun m => by first | rfl | (simp [entryFrame, mkF, argsToLocals, Value.category, maxLocals]; done)) ?_
  intro p e s m below meth c T X
  refine g_aloadN X d20_0 rfl rfl 1 rfl ?_
  refine g_callVp X (hw _ (List.mem_of_getElem? (i := 66) rfl)) (hw _ (List.mem_of_getElem? (i := 67) rfl)) (hw _ (List.mem_of_getElem? (i := 69) rfl)) (hw _ (List.mem_of_getElem? (i := 68) rfl)) (hw _ (List.mem_of_getElem? (i := 6) rfl)) (hw _ (List.mem_of_getElem? (i := 70) rfl)) (nfSel (hw _ (List.mem_of_getElem? (i := 69) rfl))) (by decide) Eu (c_cod l Z a0 G u h Cu) (by simp) (argsL := []) (rest := []) pd_6 rfl rfl rfl rfl 0 (Nat.le_of_eq rfl) (by decide) (by decide) (ck := 0) rfl (cs := 0) rfl (by decide) (by decide) d20_1 4 rfl ?_
  intro w3 T1 X2 hq4
  subst hq4
  refine g_iloadN X2 d20_4 rfl 5 rfl ?_
  refine g_icmpNo X2 d20_5 (XT.ii_ne_f (by decide)) 8 rfl ?_
  refine g_aloadN X2 d20_8 rfl rfl 9 rfl ?_
  refine g_getF X2 (Or.inl (hw _ (List.mem_of_getElem? (i := 24) rfl))) (host := "") Via.refl Vu d20_9 12 rfl ?_
  intro T5 X6
  refine g_iconst X6 (0 : Int32) d20_12 (by decide) 13 rfl ?_
  refine g_aloadN X6 d20_13 rfl rfl 14 rfl ?_
  refine g_iloadN X6 d20_14 rfl 15 rfl ?_
  refine g_iloadN X6 d20_15 rfl 16 rfl ?_
  refine g_ishl X6 d20_16 (Int32.ofNat cs.length) (shl0 _) 17 rfl ?_
  refine g_aloadN X6 d20_17 rfl rfl 18 rfl ?_
  refine g_getF X6 (Or.inl (hw _ (List.mem_of_getElem? (i := 24) rfl))) (host := "") Via.refl Vu d20_18 21 rfl ?_
  intro T7 X8
  refine g_arrlen X8 At d20_21 22 rfl ?_
  refine g_arrcopy X8 (hw _ (List.mem_of_getElem? (i := 121) rfl)) (hw _ (List.mem_of_getElem? (i := 104) rfl)) (hw _ (List.mem_of_getElem? (i := 102) rfl)) (hw _ (List.mem_of_getElem? (i := 103) rfl)) At A rfl (by decide) (of_nn (by omega)) (of_nn (by omega)) (by rw [clamp0, of_nat (by omega)]; omega) (by rw [of_nat (by omega), of_nat (by omega), of_nat hcap]; omega) (by rw [of_nat (by omega), of_nat (by omega), padB_len (by omega)]; omega) (padB cap (cs ++ ds)) (pad_put hfit hcap) (by simp) rfl d20_22 (by decide) 0 (Nat.le_of_eq rfl) (by decide) 25 rfl ?_
  intro T9 h10 X11 K12 A13
  refine g_goto X11 d20_25 43 (by decide) (by decide) ?_
  exact g_ret X11 rfl d20_43 (by decide) (by decide) ⟨rfl, ⟨K12, A13⟩⟩
theorem d18_0 : decode jdk_68_method_73_code 0 = .ok (.aload_n 0, 1) := by decide +kernel
theorem d18_1 : decode jdk_68_method_73_code 1 = .ok (.aload_n 2, 1) := by decide +kernel
theorem d18_2 : decode jdk_68_method_73_code 2 = .ok (.invokevirtual 397, 3) := by decide +kernel
theorem d18_5 : decode jdk_68_method_73_code 5 = .ok (.aload_n 2, 1) := by decide +kernel
theorem d18_6 : decode jdk_68_method_73_code 6 = .ok (.aload_n 0, 1) := by decide +kernel
theorem d18_7 : decode jdk_68_method_73_code 7 = .ok (.getfield 15, 3) := by decide +kernel
theorem d18_10 : decode jdk_68_method_73_code 10 = .ok (.iload_n 1, 1) := by decide +kernel
theorem d18_11 : decode jdk_68_method_73_code 11 = .ok (.aload_n 0, 1) := by decide +kernel
theorem d18_12 : decode jdk_68_method_73_code 12 = .ok (.getfield 22, 3) := by decide +kernel
theorem d18_15 : decode jdk_68_method_73_code 15 = .ok (.invokevirtual 399, 3) := by decide +kernel
theorem d18_18 : decode jdk_68_method_73_code 18 = .ok (.return_, 1) := by decide +kernel
set_option maxRecDepth 65536 in
set_option maxHeartbeats 40000000 in
theorem c_psa (l : Launch) (Z : State) (a0 : Array Value) (G : Gl Z a0) (a u t b : Addr) (kt kb : ClassId) (cap : Nat) (cs ds : List Int32) (h : Heap) (E : Exa Z h a "java/lang/StringBuilder") (C : Fld Z h a "java/lang/AbstractStringBuilder" "coder" "B" (.int (0 : Int32))) (V : Fld Z h a "java/lang/AbstractStringBuilder" "value" "[B" (.ref b)) (Eu : Exa Z h u "java/lang/String") (Cu : Fld Z h u "java/lang/String" "coder" "B" (.int (0 : Int32))) (Vu : Fld Z h u "java/lang/String" "value" "[B" (.ref t)) (At : Arv Z h t kt .byte (Int32.ofNat ds.length) (bys ds) (.int (0 : Int32))) (hds : ∀ c ∈ ds, ¬ c < 0 ∧ ¬ (255 : Int32) < c) (hdl : ds.length ≤ 4000) (A : Arv Z h b kb .byte (Int32.ofNat cap) (padB cap cs) (.int (0 : Int32))) (hfit : cs.length + ds.length ≤ cap) (hcap : cap ≤ 4000) :
    Ctr l Z EL nw (⟨"java/lang/AbstractStringBuilder", "putStringAt", "(ILjava/lang/String;)V"⟩ : MethodName) jdk_68_method_73_code 3 (Option.none : Option Jvm.ClassFile.FieldType) ({ frames := 2, cells := 0, slots := 0, locals := 33 } : Room) #[.ref a, .int (Int32.ofNat cs.length), .ref u] h [b] (VoidQ fun h' => Keep h h' [b] ∧ Arv Z h' b kb .byte (Int32.ofNat cap) (padB cap (cs ++ ds)) (.int (0 : Int32))) := by
  obtain ⟨hw, hEL, hSA, ⟨zc, SC, hz⟩, ⟨fm, SF, hfm⟩, ⟨u0, SUn⟩, ⟨sp, SP, hsp⟩⟩ := id G
  refine Ctr.enter (own := "java/lang/AbstractStringBuilder") (nm := "putStringAt") rfl rfl hEL (plainFor_of_name pn_3) #[.val (.ref a), .val (.int (Int32.ofNat cs.length)), .val (.ref u)] (fun m => by first | rfl | (simp [entryFrame, mkF, argsToLocals, Value.category, maxLocals]; done)) ?_
  intro p e s m below meth c T X
  refine g_aloadN X d18_0 rfl rfl 1 rfl ?_
  refine g_aloadN X d18_1 rfl rfl 2 rfl ?_
  refine g_callVn X (hw _ (List.mem_of_getElem? (i := 110) rfl)) (own_declares (hw _ (List.mem_of_getElem? (i := 111) rfl)) (hw _ (List.mem_of_getElem? (i := 114) rfl))) (hw _ (List.mem_of_getElem? (i := 113) rfl)) (hw _ (List.mem_of_getElem? (i := 111) rfl)) (hw _ (List.mem_of_getElem? (i := 42) rfl)) (hw _ (List.mem_of_getElem? (i := 114) rfl)) (nfSel (hw _ (List.mem_of_getElem? (i := 113) rfl))) (by decide) E (c_inf l Z a0 G a u h C Eu Cu) (by simp) (argsL := [.ref u]) (rest := []) pd_2 rfl rfl rfl rfl 0 (Nat.le_of_eq rfl) (by decide) (by decide) (ck := 0) rfl (cs := 0) rfl (by decide) (by decide) d18_2 5 rfl ?_
  intro T1 h4 X2 hq3
  subst hq3
  refine g_aloadN X2 d18_5 rfl rfl 6 rfl ?_
  refine g_aloadN X2 d18_6 rfl rfl 7 rfl ?_
  refine g_getF X2 (Or.inl (hw _ (List.mem_of_getElem? (i := 46) rfl))) (host := "") Via.refl V d18_7 10 rfl ?_
  intro T5 X6
  refine g_iloadN X6 d18_10 rfl 11 rfl ?_
  refine g_aloadN X6 d18_11 rfl rfl 12 rfl ?_
  refine g_getF X6 (Or.inl (hw _ (List.mem_of_getElem? (i := 48) rfl))) (host := "") Via.refl C d18_12 15 rfl ?_
  intro T7 X8
  refine g_callVn X8 (hw _ (List.mem_of_getElem? (i := 116) rfl)) (hw _ (List.mem_of_getElem? (i := 117) rfl)) (hw _ (List.mem_of_getElem? (i := 119) rfl)) (hw _ (List.mem_of_getElem? (i := 118) rfl)) (hw _ (List.mem_of_getElem? (i := 6) rfl)) (hw _ (List.mem_of_getElem? (i := 120) rfl)) (nfSel (hw _ (List.mem_of_getElem? (i := 119) rfl))) (by decide) Eu (c_gb l Z a0 G u t b kt kb cap cs ds h Eu Cu Vu At hds hdl A hfit hcap) (by simp) (argsL := [.ref b, .int (Int32.ofNat cs.length), .int (0 : Int32)]) (rest := []) pd_20 rfl rfl rfl rfl 0 (Nat.le_of_eq rfl) (by decide) (by decide) (ck := 0) rfl (cs := 0) rfl (by decide) (by decide) d18_15 18 rfl ?_
  intro T9 h12 X10 hq11
  exact g_ret X10 rfl d18_18 (by decide) (by decide) ⟨rfl, hq11⟩
theorem d9_0 : decode jdk_68_method_22_code 0 = .ok (.aload_n 1, 1) := by decide +kernel
theorem d9_1 : decode jdk_68_method_22_code 1 = .ok (.ifnonnull 8, 3) := by decide +kernel
theorem d9_4 : decode jdk_68_method_22_code 4 = .ok (.aload_n 0, 1) := by decide +kernel
theorem d9_5 : decode jdk_68_method_22_code 5 = .ok (.invokevirtual 204, 3) := by decide +kernel
theorem d9_8 : decode jdk_68_method_22_code 8 = .ok (.areturn, 1) := by decide +kernel
theorem d9_9 : decode jdk_68_method_22_code 9 = .ok (.aload_n 1, 1) := by decide +kernel
theorem d9_10 : decode jdk_68_method_22_code 10 = .ok (.invokevirtual 32, 3) := by decide +kernel
theorem d9_13 : decode jdk_68_method_22_code 13 = .ok (.istore_n 2, 1) := by decide +kernel
theorem d9_14 : decode jdk_68_method_22_code 14 = .ok (.aload_n 0, 1) := by decide +kernel
theorem d9_15 : decode jdk_68_method_22_code 15 = .ok (.aload_n 0, 1) := by decide +kernel
theorem d9_16 : decode jdk_68_method_22_code 16 = .ok (.getfield 79, 3) := by decide +kernel
theorem d9_19 : decode jdk_68_method_22_code 19 = .ok (.iload_n 2, 1) := by decide +kernel
theorem d9_20 : decode jdk_68_method_22_code 20 = .ok (.iadd, 1) := by decide +kernel
theorem d9_21 : decode jdk_68_method_22_code 21 = .ok (.invokevirtual 100, 3) := by decide +kernel
theorem d9_24 : decode jdk_68_method_22_code 24 = .ok (.aload_n 0, 1) := by decide +kernel
theorem d9_25 : decode jdk_68_method_22_code 25 = .ok (.aload_n 0, 1) := by decide +kernel
theorem d9_26 : decode jdk_68_method_22_code 26 = .ok (.getfield 79, 3) := by decide +kernel
theorem d9_29 : decode jdk_68_method_22_code 29 = .ok (.aload_n 1, 1) := by decide +kernel
theorem d9_30 : decode jdk_68_method_22_code 30 = .ok (.invokevirtual 208, 3) := by decide +kernel
theorem d9_33 : decode jdk_68_method_22_code 33 = .ok (.aload_n 0, 1) := by decide +kernel
theorem d9_34 : decode jdk_68_method_22_code 34 = .ok (.dup, 1) := by decide +kernel
theorem d9_35 : decode jdk_68_method_22_code 35 = .ok (.getfield 79, 3) := by decide +kernel
theorem d9_38 : decode jdk_68_method_22_code 38 = .ok (.iload_n 2, 1) := by decide +kernel
theorem d9_39 : decode jdk_68_method_22_code 39 = .ok (.iadd, 1) := by decide +kernel
theorem d9_40 : decode jdk_68_method_22_code 40 = .ok (.putfield 79, 3) := by decide +kernel
theorem d9_43 : decode jdk_68_method_22_code 43 = .ok (.aload_n 0, 1) := by decide +kernel
theorem d9_44 : decode jdk_68_method_22_code 44 = .ok (.areturn, 1) := by decide +kernel
set_option maxRecDepth 65536 in
set_option maxHeartbeats 40000000 in
theorem c_asa (l : Launch) (Z : State) (a0 : Array Value) (G : Gl Z a0) (a u t b : Addr) (kt kb : ClassId) (cap : Nat) (cs ds : List Int32) (h : Heap) (S : Sb Z h a b kb cap cs) (Eu : Exa Z h u "java/lang/String") (Cu : Fld Z h u "java/lang/String" "coder" "B" (.int (0 : Int32))) (Vu : Fld Z h u "java/lang/String" "value" "[B" (.ref t)) (At : Arv Z h t kt .byte (Int32.ofNat ds.length) (bys ds) (.int (0 : Int32))) (hds : ∀ c ∈ ds, ¬ c < 0 ∧ ¬ (255 : Int32) < c) (hdl : ds.length ≤ 4000) (hfit : cs.length + ds.length ≤ cap) :
    Ctr l Z EL nw (⟨"java/lang/AbstractStringBuilder", "append", "(Ljava/lang/String;)Ljava/lang/AbstractStringBuilder;"⟩ : MethodName) jdk_68_method_22_code 3 (Option.some (Jvm.ClassFile.FieldType.object "java/lang/AbstractStringBuilder")) ({ frames := 3, cells := 0, slots := 0, locals := 47 } : Room) #[.ref a, .ref u] h [a, b] (ValQ fun w h' => w = .ref a ∧ Keep h h' [a, b] ∧ Sb Z h' a b kb cap (cs ++ ds)) := by
  obtain ⟨hw, hEL, hSA, ⟨zc, SC, hz⟩, ⟨fm, SF, hfm⟩, ⟨u0, SUn⟩, ⟨sp, SP, hsp⟩⟩ := id G
  refine Ctr.enter (own := "java/lang/AbstractStringBuilder") (nm := "append") rfl rfl hEL (plainFor_of_name pn_3) #[.val (.ref a), .val (.ref u), .unset] (fun m => by first | rfl | (simp [entryFrame, mkF, argsToLocals, Value.category, maxLocals]; done)) ?_
  intro p e s m below meth c T X
  obtain ⟨E, C, N, V, A, hcs, hlen, hcap, hab⟩ := id S
  refine g_aloadN X d9_0 rfl rfl 1 rfl ?_
  refine g_ifnonnullYes X d9_1 9 (by decide) (by decide) ?_
  refine g_aloadN X d9_9 rfl rfl 10 rfl ?_
  refine g_callVp X (hw _ (List.mem_of_getElem? (i := 61) rfl)) (hw _ (List.mem_of_getElem? (i := 62) rfl)) (hw _ (List.mem_of_getElem? (i := 64) rfl)) (hw _ (List.mem_of_getElem? (i := 63) rfl)) (hw _ (List.mem_of_getElem? (i := 6) rfl)) (hw _ (List.mem_of_getElem? (i := 65) rfl)) (nfSel (hw _ (List.mem_of_getElem? (i := 64) rfl))) (by decide) Eu (c_len l Z a0 G u t kt ds h Eu Cu Vu At hds hdl) (by simp) (argsL := []) (rest := []) pd_5 rfl rfl rfl rfl 0 (Nat.le_of_eq rfl) (by decide) (by decide) (ck := 0) rfl (cs := 0) rfl (by decide) (by decide) d9_10 13 rfl ?_
  intro w3 T1 X2 hq4
  subst hq4
  refine g_istoreN X2 d9_13 (Ls' := #[.val (.ref a), .val (.ref u), .val (.int (Int32.ofNat ds.length))]) rfl 14 rfl ?_
  refine g_aloadN X2 d9_14 rfl rfl 15 rfl ?_
  refine g_aloadN X2 d9_15 rfl rfl 16 rfl ?_
  refine g_getF X2 (Or.inl (hw _ (List.mem_of_getElem? (i := 72) rfl))) (host := "") Via.refl N d9_16 19 rfl ?_
  intro T5 X6
  refine g_iloadN X6 d9_19 rfl 20 rfl ?_
  refine g_iadd X6 d9_20 (Int32.ofNat (cs.length + ds.length)) (of_add _ _) 21 rfl ?_
  refine g_callVn X6 (hw _ (List.mem_of_getElem? (i := 74) rfl)) (own_declares (hw _ (List.mem_of_getElem? (i := 75) rfl)) (hw _ (List.mem_of_getElem? (i := 78) rfl))) (hw _ (List.mem_of_getElem? (i := 77) rfl)) (hw _ (List.mem_of_getElem? (i := 75) rfl)) (hw _ (List.mem_of_getElem? (i := 42) rfl)) (hw _ (List.mem_of_getElem? (i := 78) rfl)) (nfSel (hw _ (List.mem_of_getElem? (i := 77) rfl))) (by decide) E (c_eci l Z a0 G a b kb cap (cs.length + ds.length) _ h C V A hfit hcap) (by simp) (argsL := [.int (Int32.ofNat (cs.length + ds.length))]) (rest := []) pd_16 rfl rfl rfl rfl 0 (Nat.le_of_eq rfl) (by decide) (by decide) (ck := 0) rfl (cs := 0) rfl (by decide) (by decide) d9_21 24 rfl ?_
  intro T7 h10 X8 hq9
  subst hq9
  refine g_aloadN X8 d9_24 rfl rfl 25 rfl ?_
  refine g_aloadN X8 d9_25 rfl rfl 26 rfl ?_
  refine g_getF X8 (Or.inl (hw _ (List.mem_of_getElem? (i := 72) rfl))) (host := "") Via.refl N d9_26 29 rfl ?_
  intro T11 X12
  refine g_aloadN X12 d9_29 rfl rfl 30 rfl ?_
  refine g_callVn X12 (hw _ (List.mem_of_getElem? (i := 105) rfl)) (own_declares (hw _ (List.mem_of_getElem? (i := 106) rfl)) (hw _ (List.mem_of_getElem? (i := 109) rfl))) (hw _ (List.mem_of_getElem? (i := 108) rfl)) (hw _ (List.mem_of_getElem? (i := 106) rfl)) (hw _ (List.mem_of_getElem? (i := 42) rfl)) (hw _ (List.mem_of_getElem? (i := 109) rfl)) (nfSel (hw _ (List.mem_of_getElem? (i := 108) rfl))) (by decide) E (c_psa l Z a0 G a u t b kt kb cap cs ds h E C V Eu Cu Vu At hds hdl A hfit hcap) (by simp) (argsL := [.int (Int32.ofNat cs.length), .ref u]) (rest := []) pd_19 rfl rfl rfl rfl 0 (Nat.le_of_eq rfl) (by decide) (by decide) (ck := 0) rfl (cs := 0) rfl (by decide) (by decide) d9_30 33 rfl ?_
  intro T13 h16 X14 hq15
  obtain ⟨K17, A18⟩ := hq15
  refine g_aloadN X14 d9_33 rfl rfl 34 rfl ?_
  refine g_dup X14 d9_34 rfl 35 rfl ?_
  refine g_getF X14 (Or.inl (hw _ (List.mem_of_getElem? (i := 72) rfl))) (host := "") Via.refl (N.keep K17 (ninS hab nin0)) d9_35 38 rfl ?_
  intro T19 X20
  refine g_iloadN X20 d9_38 rfl 39 rfl ?_
  refine g_iadd X20 d9_39 (Int32.ofNat (cs.length + ds.length)) (of_add _ _) 40 rfl ?_
  refine g_putF X20 (Or.inl (hw _ (List.mem_of_getElem? (i := 72) rfl))) (host := "") Via.refl (N.keep K17 (ninS hab nin0)) (E.keep K17) (Or.inl (hw _ (List.mem_of_getElem? (i := 73) rfl))) (hw _ (List.mem_of_getElem? (i := 33) rfl)) (ty := .int) (by decide +kernel) rfl rfl (by simp) d9_40 43 rfl ?_
  intro T21 h22 X23 W24 F25 E26
  refine g_aloadN X23 d9_43 rfl rfl 44 rfl ?_
  exact g_retA X23 rfl rfl rfl d9_44 (by decide) (by decide) ⟨_, rfl, ⟨rfl, (((Keep.refl h [a, b]).trans K17 (by simp)).wr W24 (Or.inl (by simp))), E26, ((C.keep K17 (ninS hab nin0)).other W24 (Or.inr (slot_ne (t := .byte) (t' := .int) (Or.inl (hw _ (List.mem_of_getElem? (i := 49) rfl))) (Or.inl (hw _ (List.mem_of_getElem? (i := 73) rfl))) (by decide) (by decide +kernel) (by decide +kernel)))), (by rw [List.length_append]; exact F25), ((V.keep K17 (ninS hab nin0)).other W24 (Or.inr (slot_ne (t := (.array .byte)) (t' := .int) (Or.inl (hw _ (List.mem_of_getElem? (i := 47) rfl))) (Or.inl (hw _ (List.mem_of_getElem? (i := 73) rfl))) (by decide) (by decide +kernel) (by decide +kernel)))), (A18.other W24 (Ne.symm hab)), ok_app hcs hds, (by rw [List.length_append]; exact hfit), hcap, hab⟩⟩
theorem d8_0 : decode jdk_67_method_7_code 0 = .ok (.aload_n 0, 1) := by decide +kernel
theorem d8_1 : decode jdk_67_method_7_code 1 = .ok (.aload_n 1, 1) := by decide +kernel
theorem d8_2 : decode jdk_67_method_7_code 2 = .ok (.invokespecial 29, 3) := by decide +kernel
theorem d8_5 : decode jdk_67_method_7_code 5 = .ok (.pop, 1) := by decide +kernel
theorem d8_6 : decode jdk_67_method_7_code 6 = .ok (.aload_n 0, 1) := by decide +kernel
theorem d8_7 : decode jdk_67_method_7_code 7 = .ok (.areturn, 1) := by decide +kernel
set_option maxRecDepth 65536 in
set_option maxHeartbeats 40000000 in
theorem c_sba (l : Launch) (Z : State) (a0 : Array Value) (G : Gl Z a0) (a u t b : Addr) (kt kb : ClassId) (cap : Nat) (cs ds : List Int32) (h : Heap) (S : Sb Z h a b kb cap cs) (Eu : Exa Z h u "java/lang/String") (Cu : Fld Z h u "java/lang/String" "coder" "B" (.int (0 : Int32))) (Vu : Fld Z h u "java/lang/String" "value" "[B" (.ref t)) (At : Arv Z h t kt .byte (Int32.ofNat ds.length) (bys ds) (.int (0 : Int32))) (hds : ∀ c ∈ ds, ¬ c < 0 ∧ ¬ (255 : Int32) < c) (hdl : ds.length ≤ 4000) (hfit : cs.length + ds.length ≤ cap) :
    Ctr l Z EL nw (⟨"java/lang/StringBuilder", "append", "(Ljava/lang/String;)Ljava/lang/StringBuilder;"⟩ : MethodName) jdk_67_method_7_code 2 (Option.some (Jvm.ClassFile.FieldType.object "java/lang/StringBuilder")) ({ frames := 4, cells := 0, slots := 0, locals := 61 } : Room) #[.ref a, .ref u] h [a, b] (ValQ fun w h' => w = .ref a ∧ Keep h h' [a, b] ∧ Sb Z h' a b kb cap (cs ++ ds)) := by
  obtain ⟨hw, hEL, hSA, ⟨zc, SC, hz⟩, ⟨fm, SF, hfm⟩, ⟨u0, SUn⟩, ⟨sp, SP, hsp⟩⟩ := id G
  refine Ctr.enter (own := "java/lang/StringBuilder") (nm := "append") rfl rfl hEL (plainFor_of_name pn_4) #[.val (.ref a), .val (.ref u)] (fun m => by first | rfl | (simp [entryFrame, mkF, argsToLocals, Value.category, maxLocals]; done)) ?_
  intro p e s m below meth c T X
  refine g_aloadN X d8_0 rfl rfl 1 rfl ?_
  refine g_aloadN X d8_1 rfl rfl 2 rfl ?_
  refine g_callUv X (by decide) (hw _ (List.mem_of_getElem? (i := 56) rfl)) (own_same (hw _ (List.mem_of_getElem? (i := 57) rfl)) (hw _ (List.mem_of_getElem? (i := 77) rfl)) rfl (by decide)) (hw _ (List.mem_of_getElem? (i := 57) rfl)) (hw _ (List.mem_of_getElem? (i := 58) rfl)) (hw _ (List.mem_of_getElem? (i := 42) rfl)) (hw _ (List.mem_of_getElem? (i := 60) rfl)) S.1 (c_asa l Z a0 G a u t b kt kb cap cs ds h S Eu Cu Vu At hds hdl hfit) (by simp) (argsL := [.ref u]) (rest := []) pd_18 rfl rfl rfl rfl 0 (Nat.le_of_eq rfl) (by decide) (by decide) (ck := 0) rfl (cs := 0) rfl (by decide) (by decide) d8_2 5 rfl ?_
  intro w3 T1 h5 X2 hq4
  obtain ⟨rfl, hK, hS⟩ := hq4
  refine g_pop X2 d8_5 rfl 6 rfl ?_
  refine g_aloadN X2 d8_6 rfl rfl 7 rfl ?_
  exact g_retA X2 rfl rfl rfl d8_7 (by decide) (by decide) ⟨_, rfl, ⟨rfl, hK, hS⟩⟩
theorem d24_0 : decode jdk_68_method_64_code 0 = .ok (.aload_n 0, 1) := by decide +kernel
theorem d24_1 : decode jdk_68_method_64_code 1 = .ok (.getfield 15, 3) := by decide +kernel
theorem d24_4 : decode jdk_68_method_64_code 4 = .ok (.areturn, 1) := by decide +kernel
set_option maxRecDepth 65536 in
set_option maxHeartbeats 40000000 in
theorem c_gv (l : Launch) (Z : State) (a0 : Array Value) (G : Gl Z a0) (a b : Addr) (h : Heap) (V : Fld Z h a "java/lang/AbstractStringBuilder" "value" "[B" (.ref b)) :
    Ctr l Z EL nw (⟨"java/lang/AbstractStringBuilder", "getValue", "()[B"⟩ : MethodName) jdk_68_method_64_code 1 (Option.some (Jvm.ClassFile.FieldType.array Jvm.ClassFile.FieldType.byte)) ({ frames := 0, cells := 0, slots := 0, locals := 0 } : Room) #[.ref a] h [] (PureQ h fun w => w = .ref b) := by
  obtain ⟨hw, hEL, hSA, ⟨zc, SC, hz⟩, ⟨fm, SF, hfm⟩, ⟨u0, SUn⟩, ⟨sp, SP, hsp⟩⟩ := id G
  refine Ctr.enter (own := "java/lang/AbstractStringBuilder") (nm := "getValue") rfl rfl hEL (plainFor_of_name pn_3) #[.val (.ref a)] (fun m => by first | rfl | (simp [entryFrame, mkF, argsToLocals, Value.category, maxLocals]; done)) ?_
  intro p e s m below meth c T X
  refine g_aloadN X d24_0 rfl rfl 1 rfl ?_
  refine g_getF X (Or.inl (hw _ (List.mem_of_getElem? (i := 46) rfl))) (host := "") Via.refl V d24_1 4 rfl ?_
  intro T1 X2
  exact g_retA X2 rfl rfl rfl d24_4 (by decide) (by decide) ⟨rfl, _, rfl, rfl⟩
theorem d26_0 : decode jdk_68_method_6_code 0 = .ok (.aload_n 0, 1) := by decide +kernel
theorem d26_1 : decode jdk_68_method_6_code 1 = .ok (.getfield 79, 3) := by decide +kernel
theorem d26_4 : decode jdk_68_method_6_code 4 = .ok (.ireturn, 1) := by decide +kernel
set_option maxRecDepth 65536 in
set_option maxHeartbeats 40000000 in
theorem c_aln (l : Launch) (Z : State) (a0 : Array Value) (G : Gl Z a0) (a : Addr) (cs : List Int32) (h : Heap) (N : Fld Z h a "java/lang/AbstractStringBuilder" "count" "I" (.int (Int32.ofNat cs.length))) :
    Ctr l Z EL nw (⟨"java/lang/AbstractStringBuilder", "length", "()I"⟩ : MethodName) jdk_68_method_6_code 1 (Option.some Jvm.ClassFile.FieldType.int) ({ frames := 0, cells := 0, slots := 0, locals := 0 } : Room) #[.ref a] h [] (PureQ h fun w => w = .int (Int32.ofNat cs.length)) := by
  obtain ⟨hw, hEL, hSA, ⟨zc, SC, hz⟩, ⟨fm, SF, hfm⟩, ⟨u0, SUn⟩, ⟨sp, SP, hsp⟩⟩ := id G
  refine Ctr.enter (own := "java/lang/AbstractStringBuilder") (nm := "length") rfl rfl hEL (plainFor_of_name pn_3) #[.val (.ref a)] (fun m => by first | rfl | (simp [entryFrame, mkF, argsToLocals, Value.category, maxLocals]; done)) ?_
  intro p e s m below meth c T X
  refine g_aloadN X d26_0 rfl rfl 1 rfl ?_
  refine g_getF X (Or.inl (hw _ (List.mem_of_getElem? (i := 72) rfl))) (host := "") Via.refl N d26_1 4 rfl ?_
  intro T1 X2
  exact g_retI X2 rfl d26_4 (by decide) (by decide) ⟨rfl, _, rfl, rfl⟩
theorem d25_0 : decode jdk_67_method_93_code 0 = .ok (.aload_n 0, 1) := by decide +kernel
theorem d25_1 : decode jdk_67_method_93_code 1 = .ok (.invokespecial 343, 3) := by decide +kernel
theorem d25_4 : decode jdk_67_method_93_code 4 = .ok (.ireturn, 1) := by decide +kernel
set_option maxRecDepth 65536 in
set_option maxHeartbeats 40000000 in
theorem c_sln (l : Launch) (Z : State) (a0 : Array Value) (G : Gl Z a0) (a : Addr) (cs : List Int32) (h : Heap) (E : Exa Z h a "java/lang/StringBuilder") (N : Fld Z h a "java/lang/AbstractStringBuilder" "count" "I" (.int (Int32.ofNat cs.length))) :
    Ctr l Z EL nw (⟨"java/lang/StringBuilder", "length", "()I"⟩ : MethodName) jdk_67_method_93_code 1 (Option.some Jvm.ClassFile.FieldType.int) ({ frames := 1, cells := 0, slots := 0, locals := 12 } : Room) #[.ref a] h [] (PureQ h fun w => w = .int (Int32.ofNat cs.length)) := by
  obtain ⟨hw, hEL, hSA, ⟨zc, SC, hz⟩, ⟨fm, SF, hfm⟩, ⟨u0, SUn⟩, ⟨sp, SP, hsp⟩⟩ := id G
  refine Ctr.enter (own := "java/lang/StringBuilder") (nm := "length") rfl rfl hEL (plainFor_of_name pn_4) #[.val (.ref a)] (fun m => by first | rfl | (simp [entryFrame, mkF, argsToLocals, Value.category, maxLocals]; done)) ?_
  intro p e s m below meth c T X
  refine g_aloadN X d25_0 rfl rfl 1 rfl ?_
  refine g_callUp X (by decide) (hw _ (List.mem_of_getElem? (i := 147) rfl)) (own_same (hw _ (List.mem_of_getElem? (i := 143) rfl)) (hw _ (List.mem_of_getElem? (i := 77) rfl)) rfl (by decide)) (hw _ (List.mem_of_getElem? (i := 143) rfl)) (hw _ (List.mem_of_getElem? (i := 58) rfl)) (hw _ (List.mem_of_getElem? (i := 42) rfl)) (hw _ (List.mem_of_getElem? (i := 148) rfl)) E (c_aln l Z a0 G a cs h N) (by simp) (argsL := []) (rest := []) pd_5 rfl rfl rfl rfl 0 (Nat.le_of_eq rfl) (by decide) (by decide) (ck := 0) rfl (cs := 0) rfl (by decide) (by decide) d25_1 4 rfl ?_
  intro w3 T1 X2 hq4
  subst hq4
  exact g_retI X2 rfl d25_4 (by decide) (by decide) ⟨rfl, _, rfl, rfl⟩
theorem d27_0 : decode jdk_68_method_68_code 0 = .ok (.getstatic 18, 3) := by decide +kernel
theorem d27_3 : decode jdk_68_method_68_code 3 = .ok (.ifCond .eq 14, 3) := by decide +kernel
theorem d27_6 : decode jdk_68_method_68_code 6 = .ok (.aload_n 0, 1) := by decide +kernel
theorem d27_7 : decode jdk_68_method_68_code 7 = .ok (.getfield 22, 3) := by decide +kernel
theorem d27_10 : decode jdk_68_method_68_code 10 = .ok (.ifCond .ne 7, 3) := by decide +kernel
theorem d27_13 : decode jdk_68_method_68_code 13 = .ok (.iconst 1, 1) := by decide +kernel
theorem d27_14 : decode jdk_68_method_68_code 14 = .ok (.goto 4, 3) := by decide +kernel
theorem d27_17 : decode jdk_68_method_68_code 17 = .ok (.iconst 0, 1) := by decide +kernel
theorem d27_18 : decode jdk_68_method_68_code 18 = .ok (.ireturn, 1) := by decide +kernel
set_option maxRecDepth 65536 in
set_option maxHeartbeats 40000000 in
theorem c_ail (l : Launch) (Z : State) (a0 : Array Value) (G : Gl Z a0) (a : Addr) (h : Heap) (C : Fld Z h a "java/lang/AbstractStringBuilder" "coder" "B" (.int (0 : Int32))) :
    Ctr l Z EL nw (⟨"java/lang/AbstractStringBuilder", "isLatin1", "()Z"⟩ : MethodName) jdk_68_method_68_code 1 (Option.some Jvm.ClassFile.FieldType.boolean) ({ frames := 0, cells := 0, slots := 0, locals := 0 } : Room) #[.ref a] h [] (PureQ h fun w => w = .int 1) := by
  obtain ⟨hw, hEL, hSA, ⟨zc, SC, hz⟩, ⟨fm, SF, hfm⟩, ⟨u0, SUn⟩, ⟨sp, SP, hsp⟩⟩ := id G
  refine Ctr.enter (own := "java/lang/AbstractStringBuilder") (nm := "isLatin1") rfl rfl hEL (plainFor_of_name pn_3) #[.val (.ref a)] (fun m => by first | rfl | (simp [entryFrame, mkF, argsToLocals, Value.category, maxLocals]; done)) ?_
  intro p e s m below meth c T X
  refine g_getS X (Or.inl (hw _ (List.mem_of_getElem? (i := 45) rfl))) (host := "") Via.refl (SC.ext X.old) d27_0 3 rfl ?_
  intro T1 X2
  refine g_ifNo X2 d27_3 (XT.ii_eq_f hz) 6 rfl ?_
  refine g_aloadN X2 d27_6 rfl rfl 7 rfl ?_
  refine g_getF X2 (Or.inl (hw _ (List.mem_of_getElem? (i := 48) rfl))) (host := "") Via.refl C d27_7 10 rfl ?_
  intro T3 X4
  refine g_ifNo X4 d27_10 (XT.ii_ne_f (by decide)) 13 rfl ?_
  refine g_iconst X4 (1 : Int32) d27_13 (by decide) 14 rfl ?_
  refine g_goto X4 d27_14 18 (by decide) (by decide) ?_
  exact g_retN X4 (t := .boolean) rfl (by simp) d27_18 _ rfl (by decide) (by decide) ⟨rfl, _, rfl, rfl⟩
theorem d30_0 : decode jdk_65_method_131_code 0 = .ok (.iload_n 1, 1) := by decide +kernel
theorem d30_1 : decode jdk_65_method_131_code 1 = .ok (.iload_n 0, 1) := by decide +kernel
theorem d30_2 : decode jdk_65_method_131_code 2 = .ok (.if_icmp .ge 35, 3) := by decide +kernel
theorem d30_5 : decode jdk_65_method_131_code 5 = .ok (.new 43, 3) := by decide +kernel
theorem d30_8 : decode jdk_65_method_131_code 8 = .ok (.dup, 1) := by decide +kernel
theorem d30_9 : decode jdk_65_method_131_code 9 = .ok (.new 45, 3) := by decide +kernel
theorem d30_12 : decode jdk_65_method_131_code 12 = .ok (.dup, 1) := by decide +kernel
theorem d30_13 : decode jdk_65_method_131_code 13 = .ok (.invokespecial 47, 3) := by decide +kernel
theorem d30_16 : decode jdk_65_method_131_code 16 = .ok (.iload_n 0, 1) := by decide +kernel
theorem d30_17 : decode jdk_65_method_131_code 17 = .ok (.invokevirtual 54, 3) := by decide +kernel
theorem d30_20 : decode jdk_65_method_131_code 20 = .ok (.ldc_w 337, 3) := by decide +kernel
theorem d30_23 : decode jdk_65_method_131_code 23 = .ok (.invokevirtual 50, 3) := by decide +kernel
theorem d30_26 : decode jdk_65_method_131_code 26 = .ok (.iload_n 1, 1) := by decide +kernel
theorem d30_27 : decode jdk_65_method_131_code 27 = .ok (.invokevirtual 54, 3) := by decide +kernel
theorem d30_30 : decode jdk_65_method_131_code 30 = .ok (.invokevirtual 61, 3) := by decide +kernel
theorem d30_33 : decode jdk_65_method_131_code 33 = .ok (.invokespecial 65, 3) := by decide +kernel
theorem d30_36 : decode jdk_65_method_131_code 36 = .ok (.athrow, 1) := by decide +kernel
theorem d30_37 : decode jdk_65_method_131_code 37 = .ok (.return_, 1) := by decide +kernel
theorem pn_5 : plainName "java/util/Arrays" = true := by first | (simp [plainName, overriddenIn]; done) | decide +kernel
set_option maxRecDepth 65536 in
set_option maxHeartbeats 40000000 in
theorem c_ckl (l : Launch) (Z : State) (a0 : Array Value) (G : Gl Z a0) (n : Nat) (h : Heap) (hn : n ≤ 4000) :
    Ctr l Z EL nw (⟨"java/util/Arrays", "checkLength", "(II)V"⟩ : MethodName) jdk_65_method_131_code 2 (Option.none : Option Jvm.ClassFile.FieldType) ({ frames := 0, cells := 0, slots := 0, locals := 0 } : Room) #[.int (0 : Int32), .int (Int32.ofNat n)] h [] (VoidQ fun h' => h = h') := by
  obtain ⟨hw, hEL, hSA, ⟨zc, SC, hz⟩, ⟨fm, SF, hfm⟩, ⟨u0, SUn⟩, ⟨sp, SP, hsp⟩⟩ := id G
  refine Ctr.enter (own := "java/util/Arrays") (nm := "checkLength") rfl rfl hEL (plainFor_of_name pn_5) #[.val (.int (0 : Int32)), .val (.int (Int32.ofNat n))] (fun m => by first | rfl | (simp [entryFrame, mkF, argsToLocals, Value.category, maxLocals]; done)) ?_
  intro p e s m below meth c T X
  refine g_iloadN X d30_0 rfl 1 rfl ?_
  refine g_iloadN X d30_1 rfl 2 rfl ?_
  refine g_icmpYes X d30_2 (XT.ii_ge_t (of_nn hn)) 37 (by decide) (by decide) ?_
  exact g_ret X rfl d30_37 (by decide) (by decide) ⟨rfl, rfl⟩
theorem d17_0 : decode jdk_29_method_69_code 0 = .ok (.iload_n 0, 1) := by decide +kernel
theorem d17_1 : decode jdk_29_method_69_code 1 = .ok (.iload_n 1, 1) := by decide +kernel
theorem d17_2 : decode jdk_29_method_69_code 2 = .ok (.if_icmp .gt 7, 3) := by decide +kernel
theorem d17_5 : decode jdk_29_method_69_code 5 = .ok (.iload_n 0, 1) := by decide +kernel
theorem d17_6 : decode jdk_29_method_69_code 6 = .ok (.goto 4, 3) := by decide +kernel
theorem d17_9 : decode jdk_29_method_69_code 9 = .ok (.iload_n 1, 1) := by decide +kernel
theorem d17_10 : decode jdk_29_method_69_code 10 = .ok (.ireturn, 1) := by decide +kernel
set_option maxRecDepth 65536 in
set_option maxHeartbeats 40000000 in
theorem c_min (l : Launch) (Z : State) (a0 : Array Value) (G : Gl Z a0) (x y : Int32) (h : Heap) (hlt : y < x) :
    Ctr l Z EL nw (⟨"java/lang/Math", "min", "(II)I"⟩ : MethodName) jdk_29_method_69_code 2 (Option.some Jvm.ClassFile.FieldType.int) ({ frames := 0, cells := 0, slots := 0, locals := 0 } : Room) #[.int x, .int y] h [] (PureQ h fun w => w = .int y) := by
  obtain ⟨hw, hEL, hSA, ⟨zc, SC, hz⟩, ⟨fm, SF, hfm⟩, ⟨u0, SUn⟩, ⟨sp, SP, hsp⟩⟩ := id G
  refine Ctr.enter (own := "java/lang/Math") (nm := "min") rfl rfl hEL (by decide +kernel) #[.val (.int x), .val (.int y)] (fun m => by first | rfl | (simp [entryFrame, mkF, argsToLocals, Value.category, maxLocals]; done)) ?_
  intro p e s m below meth c T X
  refine g_iloadN X d17_0 rfl 1 rfl ?_
  refine g_iloadN X d17_1 rfl 2 rfl ?_
  refine g_icmpYes X d17_2 (XT.ii_gt_t hlt) 9 (by decide) (by decide) ?_
  refine g_iloadN X d17_9 rfl 10 rfl ?_
  exact g_retI X rfl d17_10 (by decide) (by decide) ⟨rfl, _, rfl, rfl⟩
theorem d29_0 : decode jdk_65_method_133_code 0 = .ok (.iload_n 1, 1) := by decide +kernel
theorem d29_1 : decode jdk_65_method_133_code 1 = .ok (.iload_n 2, 1) := by decide +kernel
theorem d29_2 : decode jdk_65_method_133_code 2 = .ok (.invokestatic 343, 3) := by decide +kernel
theorem d29_5 : decode jdk_65_method_133_code 5 = .ok (.iload_n 2, 1) := by decide +kernel
theorem d29_6 : decode jdk_65_method_133_code 6 = .ok (.iload_n 1, 1) := by decide +kernel
theorem d29_7 : decode jdk_65_method_133_code 7 = .ok (.isub, 1) := by decide +kernel
theorem d29_8 : decode jdk_65_method_133_code 8 = .ok (.istore_n 3, 1) := by decide +kernel
theorem d29_9 : decode jdk_65_method_133_code 9 = .ok (.iload_n 3, 1) := by decide +kernel
theorem d29_10 : decode jdk_65_method_133_code 10 = .ok (.newarray .byte, 2) := by decide +kernel
theorem d29_12 : decode jdk_65_method_133_code 12 = .ok (.astore 4, 2) := by decide +kernel
theorem d29_14 : decode jdk_65_method_133_code 14 = .ok (.aload_n 0, 1) := by decide +kernel
theorem d29_15 : decode jdk_65_method_133_code 15 = .ok (.iload_n 1, 1) := by decide +kernel
theorem d29_16 : decode jdk_65_method_133_code 16 = .ok (.aload 4, 2) := by decide +kernel
theorem d29_18 : decode jdk_65_method_133_code 18 = .ok (.iconst 0, 1) := by decide +kernel
theorem d29_19 : decode jdk_65_method_133_code 19 = .ok (.aload_n 0, 1) := by decide +kernel
theorem d29_20 : decode jdk_65_method_133_code 20 = .ok (.arraylength, 1) := by decide +kernel
theorem d29_21 : decode jdk_65_method_133_code 21 = .ok (.iload_n 1, 1) := by decide +kernel
theorem d29_22 : decode jdk_65_method_133_code 22 = .ok (.isub, 1) := by decide +kernel
theorem d29_23 : decode jdk_65_method_133_code 23 = .ok (.iload_n 3, 1) := by decide +kernel
theorem d29_24 : decode jdk_65_method_133_code 24 = .ok (.invokestatic 304, 3) := by decide +kernel
theorem d29_27 : decode jdk_65_method_133_code 27 = .ok (.invokestatic 150, 3) := by decide +kernel
theorem d29_30 : decode jdk_65_method_133_code 30 = .ok (.aload 4, 2) := by decide +kernel
theorem d29_32 : decode jdk_65_method_133_code 32 = .ok (.areturn, 1) := by decide +kernel
set_option maxRecDepth 65536 in
set_option maxHeartbeats 40000000 in
theorem c_corb (l : Launch) (Z : State) (a0 : Array Value) (G : Gl Z a0) (b : Addr) (kb : ClassId) (cap : Nat) (cs : List Int32) (h : Heap) (A : Arv Z h b kb .byte (Int32.ofNat cap) (padB cap cs) (.int (0 : Int32))) (hlt : cs.length < cap) (hcap : cap ≤ 4000) (hB : cs.length ≤ 65) :
    Ctr l Z EL nw (⟨"java/util/Arrays", "copyOfRangeByte", "([BII)[B"⟩ : MethodName) jdk_65_method_133_code 5 (Option.some (Jvm.ClassFile.FieldType.array Jvm.ClassFile.FieldType.byte)) ({ frames := 1, cells := 1, slots := 65, locals := 18 } : Room) #[.ref b, .int (0 : Int32), .int (Int32.ofNat cs.length)] h [] (ValQ fun w h' => ∃ (t : Addr) (kt : ClassId), w = .ref t ∧ Ext h h' ∧ h.size ≤ t ∧ Arv Z h' t kt .byte (Int32.ofNat cs.length) (bys cs) (.int (0 : Int32))) := by
  obtain ⟨hw, hEL, hSA, ⟨zc, SC, hz⟩, ⟨fm, SF, hfm⟩, ⟨u0, SUn⟩, ⟨sp, SP, hsp⟩⟩ := id G
  refine Ctr.enter (own := "java/util/Arrays") (nm := "copyOfRangeByte") rfl rfl hEL (plainFor_of_name pn_5) #[.val (.ref b), .val (.int (0 : Int32)), .val (.int (Int32.ofNat cs.length)), .unset, .unset] (fun m => by first | rfl | (simp [entryFrame, mkF, argsToLocals, Value.category, maxLocals]; done)) ?_
  intro p e s m below meth c T X
  refine g_iloadN X d29_0 rfl 1 rfl ?_
  refine g_iloadN X d29_1 rfl 2 rfl ?_
  refine g_callSn X (hw _ (List.mem_of_getElem? (i := 160) rfl)) (hw _ (List.mem_of_getElem? (i := 161) rfl)) (hw _ (List.mem_of_getElem? (i := 96) rfl)) (hw _ (List.mem_of_getElem? (i := 162) rfl)) (by decide) (c_ckl l Z a0 G cs.length h (by omega)) (by simp) (argsL := [.int (0 : Int32), .int (Int32.ofNat cs.length)]) (rest := []) pd_10 rfl rfl rfl rfl 0 (Nat.le_of_eq rfl) (by decide) (by decide) (ck := 0) rfl (cs := 0) rfl (by decide) (by decide) d29_2 5 rfl ?_
  intro T1 h4 X2 hq3
  subst hq3
  refine g_iloadN X2 d29_5 rfl 6 rfl ?_
  refine g_iloadN X2 d29_6 rfl 7 rfl ?_
  refine g_isub X2 d29_7 (Int32.ofNat cs.length) (Int32.sub_zero _) 8 rfl ?_
  refine g_istoreN X2 d29_8 (Ls' := #[.val (.ref b), .val (.int (0 : Int32)), .val (.int (Int32.ofNat cs.length)), .val (.int (Int32.ofNat cs.length)), .unset]) rfl 9 rfl ?_
  refine g_iloadN X2 d29_9 rfl 10 rfl ?_
  refine g_newP X2 (hw _ (List.mem_of_getElem? (i := 19) rfl)) d29_10 (of_nn (by omega)) 65 (by rw [of_nat (by omega)]; exact hB) (by decide) (ck := 1) rfl (cs := 65) rfl (by decide) (by decide) 12 rfl ?_
  intro a5 T6 h7 k8 ea9 X10 E11 A12
  have A13 : Arv Z h7 a5 k8 .byte (Int32.ofNat cs.length) (List.replicate (cs.length) (.int (0 : Int32))) (.int (0 : Int32)) := A12.pad (pad_rep [] _ (cs.length))
  have le_a5 : h.size ≤ a5 := by rw [ea9]; exact (Ext.refl h).1
  have ne_b_a5 : b ≠ a5 := by rw [ea9]; exact Nat.ne_of_lt A.lt
  refine g_astore X10 d29_12 rfl (Ls' := #[.val (.ref b), .val (.int (0 : Int32)), .val (.int (Int32.ofNat cs.length)), .val (.int (Int32.ofNat cs.length)), .val (.ref a5)]) rfl 14 rfl ?_
  refine g_aloadN X10 d29_14 rfl rfl 15 rfl ?_
  refine g_iloadN X10 d29_15 rfl 16 rfl ?_
  refine g_aload X10 d29_16 rfl rfl 18 rfl ?_
  refine g_iconst X10 (0 : Int32) d29_18 (by decide) 19 rfl ?_
  refine g_aloadN X10 d29_19 rfl rfl 20 rfl ?_
  refine g_arrlen X10 (A.ext E11) d29_20 21 rfl ?_
  refine g_iloadN X10 d29_21 rfl 22 rfl ?_
  refine g_isub X10 d29_22 (Int32.ofNat cap) (Int32.sub_zero _) 23 rfl ?_
  refine g_iloadN X10 d29_23 rfl 24 rfl ?_
  refine g_callSp X10 (hw _ (List.mem_of_getElem? (i := 98) rfl)) (hw _ (List.mem_of_getElem? (i := 99) rfl)) (hw _ (List.mem_of_getElem? (i := 90) rfl)) (hw _ (List.mem_of_getElem? (i := 100) rfl)) (by decide) (c_min l Z a0 G (Int32.ofNat cap) (Int32.ofNat cs.length) h7 (of_lt hlt hcap)) (by simp) (argsL := [.int (Int32.ofNat cap), .int (Int32.ofNat cs.length)]) (rest := [.int (0 : Int32), .ref a5, .int (0 : Int32), .ref b]) pd_26 rfl rfl rfl rfl 4 (Nat.le_of_eq rfl) (by decide) (by decide) (ck := 1) rfl (cs := 65) rfl (by decide) (by decide) d29_24 27 rfl ?_
  intro w16 T14 X15 hq17
  subst hq17
  refine g_arrcopy X15 (hw _ (List.mem_of_getElem? (i := 101) rfl)) (hw _ (List.mem_of_getElem? (i := 104) rfl)) (hw _ (List.mem_of_getElem? (i := 102) rfl)) (hw _ (List.mem_of_getElem? (i := 103) rfl)) (A.ext E11) A13 rfl (by decide) (by decide) (of_nn (by omega)) (by rw [clamp0, of_nat (by omega), of_nat hcap]; omega) (by rw [clamp0, of_nat (by omega)]; omega) (by rw [clamp0, of_nat (by omega), List.length_replicate]; omega) (bys cs) (pad_get (by omega) hcap _ rfl) (by simp) rfl d29_27 (by decide) 0 (Nat.le_of_eq rfl) (by decide) 30 rfl ?_
  intro T18 h19 X20 K21 A22
  refine g_aload X20 d29_30 rfl rfl 32 rfl ?_
  exact g_retA X20 rfl rfl rfl d29_32 (by decide) (by decide) ⟨_, rfl, ⟨a5, _, rfl, (ext_keep ((Ext.refl h).trans E11) K21 (fun x hx => by cases List.mem_singleton.mp hx; exact le_a5)), le_a5, A22⟩⟩
theorem d28_0 : decode jdk_65_method_132_code 0 = .ok (.iload_n 1, 1) := by decide +kernel
theorem d28_1 : decode jdk_65_method_132_code 1 = .ok (.ifCond .ne 9, 3) := by decide +kernel
theorem d28_4 : decode jdk_65_method_132_code 4 = .ok (.iload_n 2, 1) := by decide +kernel
theorem d28_5 : decode jdk_65_method_132_code 5 = .ok (.aload_n 0, 1) := by decide +kernel
theorem d28_6 : decode jdk_65_method_132_code 6 = .ok (.arraylength, 1) := by decide +kernel
theorem d28_7 : decode jdk_65_method_132_code 7 = .ok (.if_icmp .eq 10, 3) := by decide +kernel
theorem d28_10 : decode jdk_65_method_132_code 10 = .ok (.aload_n 0, 1) := by decide +kernel
theorem d28_11 : decode jdk_65_method_132_code 11 = .ok (.iload_n 1, 1) := by decide +kernel
theorem d28_12 : decode jdk_65_method_132_code 12 = .ok (.iload_n 2, 1) := by decide +kernel
theorem d28_13 : decode jdk_65_method_132_code 13 = .ok (.invokestatic 339, 3) := by decide +kernel
theorem d28_16 : decode jdk_65_method_132_code 16 = .ok (.areturn, 1) := by decide +kernel
theorem d28_17 : decode jdk_65_method_132_code 17 = .ok (.aload_n 0, 1) := by decide +kernel
theorem d28_18 : decode jdk_65_method_132_code 18 = .ok (.invokevirtual 310, 3) := by decide +kernel
theorem d28_21 : decode jdk_65_method_132_code 21 = .ok (.checkcast 311, 3) := by decide +kernel
theorem d28_24 : decode jdk_65_method_132_code 24 = .ok (.areturn, 1) := by decide +kernel
set_option maxRecDepth 65536 in
set_option maxHeartbeats 40000000 in
theorem c_cor (l : Launch) (Z : State) (a0 : Array Value) (G : Gl Z a0) (b : Addr) (kb : ClassId) (cap : Nat) (cs : List Int32) (h : Heap) (A : Arv Z h b kb .byte (Int32.ofNat cap) (padB cap cs) (.int (0 : Int32))) (hlt : cs.length < cap) (hcap : cap ≤ 4000) (hB : cs.length ≤ 65) :
    Ctr l Z EL nw (⟨"java/util/Arrays", "copyOfRange", "([BII)[B"⟩ : MethodName) jdk_65_method_132_code 3 (Option.some (Jvm.ClassFile.FieldType.array Jvm.ClassFile.FieldType.byte)) ({ frames := 2, cells := 1, slots := 65, locals := 34 } : Room) #[.ref b, .int (0 : Int32), .int (Int32.ofNat cs.length)] h [] (ValQ fun w h' => ∃ (t : Addr) (kt : ClassId), w = .ref t ∧ Ext h h' ∧ h.size ≤ t ∧ Arv Z h' t kt .byte (Int32.ofNat cs.length) (bys cs) (.int (0 : Int32))) := by
  obtain ⟨hw, hEL, hSA, ⟨zc, SC, hz⟩, ⟨fm, SF, hfm⟩, ⟨u0, SUn⟩, ⟨sp, SP, hsp⟩⟩ := id G
  refine Ctr.enter (own := "java/util/Arrays") (nm := "copyOfRange") rfl rfl hEL (plainFor_of_name pn_5) #[.val (.ref b), .val (.int (0 : Int32)), .val (.int (Int32.ofNat cs.length))] (fun m => by first | rfl | (simp [entryFrame, mkF, argsToLocals, Value.category, maxLocals]; done)) ?_
  intro p e s m below meth c T X
  refine g_iloadN X d28_0 rfl 1 rfl ?_
  refine g_ifNo X d28_1 (XT.ii_ne_f (by decide)) 4 rfl ?_
  refine g_iloadN X d28_4 rfl 5 rfl ?_
  refine g_aloadN X d28_5 rfl rfl 6 rfl ?_
  refine g_arrlen X A d28_6 7 rfl ?_
  refine g_icmpNo X d28_7 (XT.ii_eq_f (fun q => absurd (of_eq (by omega) hcap q) (by omega))) 10 rfl ?_
  refine g_aloadN X d28_10 rfl rfl 11 rfl ?_
  refine g_iloadN X d28_11 rfl 12 rfl ?_
  refine g_iloadN X d28_12 rfl 13 rfl ?_
  refine g_callSv X (hw _ (List.mem_of_getElem? (i := 157) rfl)) (hw _ (List.mem_of_getElem? (i := 158) rfl)) (hw _ (List.mem_of_getElem? (i := 96) rfl)) (hw _ (List.mem_of_getElem? (i := 159) rfl)) (by decide) (c_corb l Z a0 G b kb cap cs h A hlt hcap hB) (by simp) (argsL := [.ref b, .int (0 : Int32), .int (Int32.ofNat cs.length)]) (rest := []) pd_25 rfl rfl rfl rfl 0 (Nat.le_of_eq rfl) (by decide) (by decide) (ck := 1) rfl (cs := 65) rfl (by decide) (by decide) d28_13 16 rfl ?_
  intro w3 T1 h5 X2 hq4
  obtain ⟨tt, kt, rfl, hE, hle, hA⟩ := hq4
  exact g_retA X2 rfl rfl rfl d28_16 (by decide) (by decide) ⟨_, rfl, ⟨tt, kt, rfl, hE, hle, hA⟩⟩
theorem d23_0 : decode jdk_42_method_150_code 0 = .ok (.aload_n 0, 1) := by decide +kernel
theorem d23_1 : decode jdk_42_method_150_code 1 = .ok (.invokespecial 1, 3) := by decide +kernel
theorem d23_4 : decode jdk_42_method_150_code 4 = .ok (.aload_n 1, 1) := by decide +kernel
theorem d23_5 : decode jdk_42_method_150_code 5 = .ok (.invokevirtual 552, 3) := by decide +kernel
theorem d23_8 : decode jdk_42_method_150_code 8 = .ok (.astore_n 3, 1) := by decide +kernel
theorem d23_9 : decode jdk_42_method_150_code 9 = .ok (.aload_n 1, 1) := by decide +kernel
theorem d23_10 : decode jdk_42_method_150_code 10 = .ok (.invokevirtual 549, 3) := by decide +kernel
theorem d23_13 : decode jdk_42_method_150_code 13 = .ok (.istore 4, 2) := by decide +kernel
theorem d23_15 : decode jdk_42_method_150_code 15 = .ok (.aload_n 1, 1) := by decide +kernel
theorem d23_16 : decode jdk_42_method_150_code 16 = .ok (.invokevirtual 1047, 3) := by decide +kernel
theorem d23_19 : decode jdk_42_method_150_code 19 = .ok (.ifCond .eq 22, 3) := by decide +kernel
theorem d23_22 : decode jdk_42_method_150_code 22 = .ok (.aload_n 0, 1) := by decide +kernel
theorem d23_23 : decode jdk_42_method_150_code 23 = .ok (.iconst 0, 1) := by decide +kernel
theorem d23_24 : decode jdk_42_method_150_code 24 = .ok (.putfield 15, 3) := by decide +kernel
theorem d23_27 : decode jdk_42_method_150_code 27 = .ok (.aload_n 0, 1) := by decide +kernel
theorem d23_28 : decode jdk_42_method_150_code 28 = .ok (.aload_n 3, 1) := by decide +kernel
theorem d23_29 : decode jdk_42_method_150_code 29 = .ok (.iconst 0, 1) := by decide +kernel
theorem d23_30 : decode jdk_42_method_150_code 30 = .ok (.iload 4, 2) := by decide +kernel
theorem d23_32 : decode jdk_42_method_150_code 32 = .ok (.invokestatic 54, 3) := by decide +kernel
theorem d23_35 : decode jdk_42_method_150_code 35 = .ok (.putfield 9, 3) := by decide +kernel
theorem d23_38 : decode jdk_42_method_150_code 38 = .ok (.goto 59, 3) := by decide +kernel
theorem d23_41 : decode jdk_42_method_150_code 41 = .ok (.getstatic 38, 3) := by decide +kernel
theorem d23_44 : decode jdk_42_method_150_code 44 = .ok (.ifCond .eq 35, 3) := by decide +kernel
theorem d23_47 : decode jdk_42_method_150_code 47 = .ok (.aload_n 1, 1) := by decide +kernel
theorem d23_48 : decode jdk_42_method_150_code 48 = .ok (.getfield 1048, 3) := by decide +kernel
theorem d23_51 : decode jdk_42_method_150_code 51 = .ok (.ifCond .eq 28, 3) := by decide +kernel
theorem d23_54 : decode jdk_42_method_150_code 54 = .ok (.aload_n 0, 1) := by decide +kernel
theorem d23_55 : decode jdk_42_method_150_code 55 = .ok (.aload_n 3, 1) := by decide +kernel
theorem d23_56 : decode jdk_42_method_150_code 56 = .ok (.iconst 0, 1) := by decide +kernel
theorem d23_57 : decode jdk_42_method_150_code 57 = .ok (.iload 4, 2) := by decide +kernel
theorem d23_59 : decode jdk_42_method_150_code 59 = .ok (.invokestatic 1051, 3) := by decide +kernel
theorem d23_62 : decode jdk_42_method_150_code 62 = .ok (.putfield 9, 3) := by decide +kernel
theorem d23_65 : decode jdk_42_method_150_code 65 = .ok (.aload_n 0, 1) := by decide +kernel
theorem d23_66 : decode jdk_42_method_150_code 66 = .ok (.aload_n 0, 1) := by decide +kernel
theorem d23_67 : decode jdk_42_method_150_code 67 = .ok (.getfield 9, 3) := by decide +kernel
theorem d23_70 : decode jdk_42_method_150_code 70 = .ok (.iload 4, 2) := by decide +kernel
theorem d23_72 : decode jdk_42_method_150_code 72 = .ok (.invokestatic 47, 3) := by decide +kernel
theorem d23_75 : decode jdk_42_method_150_code 75 = .ok (.putfield 15, 3) := by decide +kernel
theorem d23_78 : decode jdk_42_method_150_code 78 = .ok (.return_, 1) := by decide +kernel
theorem d23_79 : decode jdk_42_method_150_code 79 = .ok (.aload_n 0, 1) := by decide +kernel
theorem d23_80 : decode jdk_42_method_150_code 80 = .ok (.iconst 1, 1) := by decide +kernel
theorem d23_81 : decode jdk_42_method_150_code 81 = .ok (.putfield 15, 3) := by decide +kernel
theorem d23_84 : decode jdk_42_method_150_code 84 = .ok (.aload_n 0, 1) := by decide +kernel
theorem d23_85 : decode jdk_42_method_150_code 85 = .ok (.aload_n 3, 1) := by decide +kernel
theorem d23_86 : decode jdk_42_method_150_code 86 = .ok (.iconst 0, 1) := by decide +kernel
theorem d23_87 : decode jdk_42_method_150_code 87 = .ok (.iload 4, 2) := by decide +kernel
theorem d23_89 : decode jdk_42_method_150_code 89 = .ok (.iconst 1, 1) := by decide +kernel
theorem d23_90 : decode jdk_42_method_150_code 90 = .ok (.ishl, 1) := by decide +kernel
theorem d23_91 : decode jdk_42_method_150_code 91 = .ok (.invokestatic 54, 3) := by decide +kernel
theorem d23_94 : decode jdk_42_method_150_code 94 = .ok (.putfield 9, 3) := by decide +kernel
theorem d23_97 : decode jdk_42_method_150_code 97 = .ok (.return_, 1) := by decide +kernel
set_option maxRecDepth 65536 in
set_option maxHeartbeats 40000000 in
theorem c_s150 (l : Launch) (Z : State) (a0 : Array Value) (G : Gl Z a0) (r a b : Addr) (kb : ClassId) (cap : Nat) (cs : List Int32) (h : Heap) (S : Sb Z h a b kb cap cs) (Er : Exa Z h r "java/lang/String") (Vr : Fld Z h r "java/lang/String" "value" "[B" .null) (Cr : Fld Z h r "java/lang/String" "coder" "B" (.int (0 : Int32))) (hra : r ≠ a) (hrb : r ≠ b) (hlt : cs.length < cap) (hB : cs.length ≤ 65) :
    Ctr l Z EL nw (⟨"java/lang/String", "<init>", "(Ljava/lang/AbstractStringBuilder;Ljava/lang/Void;)V"⟩ : MethodName) jdk_42_method_150_code 5 (Option.none : Option Jvm.ClassFile.FieldType) ({ frames := 3, cells := 1, slots := 65, locals := 49 } : Room) #[.ref r, .ref a, .null] h [r] (VoidQ fun h' => Keep h h' [r] ∧ ∃ (t : Addr) (kt : ClassId), Exa Z h' r "java/lang/String" ∧ Fld Z h' r "java/lang/String" "coder" "B" (.int (0 : Int32)) ∧ Fld Z h' r "java/lang/String" "value" "[B" (.ref t) ∧ Arv Z h' t kt .byte (Int32.ofNat cs.length) (bys cs) (.int (0 : Int32)) ∧ (∀ c ∈ cs, ¬ c < 0 ∧ ¬ (255 : Int32) < c) ∧ cs.length ≤ 4000 ∧ h.size ≤ t) := by
  obtain ⟨hw, hEL, hSA, ⟨zc, SC, hz⟩, ⟨fm, SF, hfm⟩, ⟨u0, SUn⟩, ⟨sp, SP, hsp⟩⟩ := id G
  refine Ctr.enter (own := "java/lang/String") (nm := "<init>") rfl rfl hEL (plainFor_of_name pn_0) #[.val (.ref r), .val (.ref a), .val (.null), .unset, .unset] (fun m => by first | rfl | (simp [entryFrame, mkF, argsToLocals, Value.category, maxLocals]; done)) ?_
  intro p e s m below meth c T X
  obtain ⟨E, C, N, V, A, hcs, hlen, hcap, hab⟩ := id S
  refine g_aloadN X d23_0 rfl rfl 1 rfl ?_
  refine g_initO X (hw _ (List.mem_of_getElem? (i := 15) rfl)) (hw _ (List.mem_of_getElem? (i := 16) rfl)) (hw _ (List.mem_of_getElem? (i := 17) rfl)) rfl d23_1 (by decide) 0 (Nat.le_of_eq rfl) (by decide) 4 rfl ?_
  intro T1 X2
  refine g_aloadN X2 d23_4 rfl rfl 5 rfl ?_
  refine g_callVp X2 (hw _ (List.mem_of_getElem? (i := 136) rfl)) (hw _ (List.mem_of_getElem? (i := 137) rfl)) (hw _ (List.mem_of_getElem? (i := 139) rfl)) (hw _ (List.mem_of_getElem? (i := 138) rfl)) (hw _ (List.mem_of_getElem? (i := 42) rfl)) (hw _ (List.mem_of_getElem? (i := 140) rfl)) (nfSel (hw _ (List.mem_of_getElem? (i := 139) rfl))) (by decide) E (c_gv l Z a0 G a b h V) (by simp) (argsL := []) (rest := []) pd_24 rfl rfl rfl rfl 0 (Nat.le_of_eq rfl) (by decide) (by decide) (ck := 0) rfl (cs := 0) rfl (by decide) (by decide) d23_5 8 rfl ?_
  intro w5 T3 X4 hq6
  subst hq6
  refine g_astoreN X4 d23_8 rfl (Ls' := #[.val (.ref r), .val (.ref a), .val (.null), .val (.ref b), .unset]) rfl 9 rfl ?_
  refine g_aloadN X4 d23_9 rfl rfl 10 rfl ?_
  refine g_callVp X4 (hw _ (List.mem_of_getElem? (i := 141) rfl)) (hw _ (List.mem_of_getElem? (i := 142) rfl)) (hw _ (List.mem_of_getElem? (i := 144) rfl)) (hw _ (List.mem_of_getElem? (i := 145) rfl)) (hw _ (List.mem_of_getElem? (i := 34) rfl)) (hw _ (List.mem_of_getElem? (i := 146) rfl)) (nfOf (hw _ (List.mem_of_getElem? (i := 77) rfl)) rfl) (by decide) E (c_sln l Z a0 G a cs h E N) (by simp) (argsL := []) (rest := []) pd_5 rfl rfl rfl rfl 0 (Nat.le_of_eq rfl) (by decide) (by decide) (ck := 0) rfl (cs := 0) rfl (by decide) (by decide) d23_10 13 rfl ?_
  intro w9 T7 X8 hq10
  subst hq10
  refine g_istore X8 d23_13 (Ls' := #[.val (.ref r), .val (.ref a), .val (.null), .val (.ref b), .val (.int (Int32.ofNat cs.length))]) rfl 15 rfl ?_
  refine g_aloadN X8 d23_15 rfl rfl 16 rfl ?_
  refine g_callVp X8 (hw _ (List.mem_of_getElem? (i := 149) rfl)) (hw _ (List.mem_of_getElem? (i := 150) rfl)) (hw _ (List.mem_of_getElem? (i := 152) rfl)) (hw _ (List.mem_of_getElem? (i := 151) rfl)) (hw _ (List.mem_of_getElem? (i := 42) rfl)) (hw _ (List.mem_of_getElem? (i := 153) rfl)) (nfSel (hw _ (List.mem_of_getElem? (i := 152) rfl))) (by decide) E (c_ail l Z a0 G a h C) (by simp) (argsL := []) (rest := []) pd_7 rfl rfl rfl rfl 0 (Nat.le_of_eq rfl) (by decide) (by decide) (ck := 0) rfl (cs := 0) rfl (by decide) (by decide) d23_16 19 rfl ?_
  intro w13 T11 X12 hq14
  subst hq14
  refine g_ifNo X12 d23_19 (XT.ii_eq_f (by decide)) 22 rfl ?_
  refine g_aloadN X12 d23_22 rfl rfl 23 rfl ?_
  refine g_iconst X12 (0 : Int32) d23_23 (by decide) 24 rfl ?_
  refine g_putF X12 (Or.inl (hw _ (List.mem_of_getElem? (i := 25) rfl))) (host := "") Via.refl Cr Er (Or.inr ⟨(hw _ (List.mem_of_getElem? (i := 21) rfl)), rfl, rfl⟩) (hw _ (List.mem_of_getElem? (i := 5) rfl)) (ty := .byte) (by decide +kernel) rfl rfl (by simp) d23_24 27 rfl ?_
  intro T15 h16 X17 W18 F19 E20
  refine g_aloadN X17 d23_27 rfl rfl 28 rfl ?_
  refine g_aloadN X17 d23_28 rfl rfl 29 rfl ?_
  refine g_iconst X17 (0 : Int32) d23_29 (by decide) 30 rfl ?_
  refine g_iload X17 d23_30 rfl 32 rfl ?_
  refine g_callSv X17 (hw _ (List.mem_of_getElem? (i := 154) rfl)) (hw _ (List.mem_of_getElem? (i := 155) rfl)) (hw _ (List.mem_of_getElem? (i := 96) rfl)) (hw _ (List.mem_of_getElem? (i := 156) rfl)) (by decide) (c_cor l Z a0 G b kb cap cs h16 (A.other W18 (Ne.symm hrb)) hlt hcap hB) (by simp) (argsL := [.ref b, .int (0 : Int32), .int (Int32.ofNat cs.length)]) (rest := [.ref r]) pd_25 rfl rfl rfl rfl 1 (Nat.le_of_eq rfl) (by decide) (by decide) (ck := 1) rfl (cs := 65) rfl (by decide) (by decide) d23_32 35 rfl ?_
  intro w23 T21 h25 X22 hq24
  obtain ⟨t26, k27, rfl, E28, le29, A30⟩ := hq24
  have ne_r_t26 : r ≠ t26 := Nat.ne_of_lt (Nat.lt_of_lt_of_le E20.lt le29)
  have le_t26 : h.size ≤ t26 := Nat.le_trans ((Keep.refl h [r]).wr W18 (Or.inl (by simp))).1 le29
  refine g_putF X22 (Or.inl (hw _ (List.mem_of_getElem? (i := 24) rfl))) (host := "") Via.refl ((Vr.other W18 (Or.inr (slot_ne (t := (.array .byte)) (t' := .byte) (Or.inr (hw _ (List.mem_of_getElem? (i := 20) rfl))) (Or.inr (hw _ (List.mem_of_getElem? (i := 21) rfl))) (by decide) (by decide +kernel) (by decide +kernel)))).ext E28) (E20.ext E28) (Or.inr ⟨(hw _ (List.mem_of_getElem? (i := 20) rfl)), rfl, rfl⟩) (hw _ (List.mem_of_getElem? (i := 5) rfl)) (ty := (.array .byte)) (by decide +kernel) rfl rfl (by simp) d23_35 38 rfl ?_
  intro T31 h32 X33 W34 F35 E36
  refine g_goto X33 d23_38 97 (by decide) (by decide) ?_
  exact g_ret X33 rfl d23_97 (by decide) (by decide) ⟨rfl, ⟨((((Keep.refl h [r]).wr W18 (Or.inl (by simp))).ext E28).wr W34 (Or.inl (by simp))), t26, _, E36, ((F19.ext E28).other W34 (Or.inr (slot_ne (t := .byte) (t' := (.array .byte)) (Or.inr (hw _ (List.mem_of_getElem? (i := 21) rfl))) (Or.inr (hw _ (List.mem_of_getElem? (i := 20) rfl))) (by decide) (by decide +kernel) (by decide +kernel)))), F35, (A30.other W34 (Ne.symm ne_r_t26)), hcs, (by omega), le_t26⟩⟩
theorem d22_0 : decode jdk_42_method_53_code 0 = .ok (.aload_n 0, 1) := by decide +kernel
theorem d22_1 : decode jdk_42_method_53_code 1 = .ok (.aload_n 1, 1) := by decide +kernel
theorem d22_2 : decode jdk_42_method_53_code 2 = .ok (.aconst_null, 1) := by decide +kernel
theorem d22_3 : decode jdk_42_method_53_code 3 = .ok (.invokespecial 489, 3) := by decide +kernel
theorem d22_6 : decode jdk_42_method_53_code 6 = .ok (.return_, 1) := by decide +kernel
set_option maxRecDepth 65536 in
set_option maxHeartbeats 40000000 in
theorem c_s53 (l : Launch) (Z : State) (a0 : Array Value) (G : Gl Z a0) (r a b : Addr) (kb : ClassId) (cap : Nat) (cs : List Int32) (h : Heap) (S : Sb Z h a b kb cap cs) (Er : Exa Z h r "java/lang/String") (Vr : Fld Z h r "java/lang/String" "value" "[B" .null) (Cr : Fld Z h r "java/lang/String" "coder" "B" (.int (0 : Int32))) (hra : r ≠ a) (hrb : r ≠ b) (hlt : cs.length < cap) (hB : cs.length ≤ 65) :
    Ctr l Z EL nw (⟨"java/lang/String", "<init>", "(Ljava/lang/StringBuilder;)V"⟩ : MethodName) jdk_42_method_53_code 2 (Option.none : Option Jvm.ClassFile.FieldType) ({ frames := 4, cells := 1, slots := 65, locals := 65 } : Room) #[.ref r, .ref a] h [r] (VoidQ fun h' => Keep h h' [r] ∧ ∃ (t : Addr) (kt : ClassId), Exa Z h' r "java/lang/String" ∧ Fld Z h' r "java/lang/String" "coder" "B" (.int (0 : Int32)) ∧ Fld Z h' r "java/lang/String" "value" "[B" (.ref t) ∧ Arv Z h' t kt .byte (Int32.ofNat cs.length) (bys cs) (.int (0 : Int32)) ∧ (∀ c ∈ cs, ¬ c < 0 ∧ ¬ (255 : Int32) < c) ∧ cs.length ≤ 4000 ∧ h.size ≤ t) := by
  obtain ⟨hw, hEL, hSA, ⟨zc, SC, hz⟩, ⟨fm, SF, hfm⟩, ⟨u0, SUn⟩, ⟨sp, SP, hsp⟩⟩ := id G
  refine Ctr.enter (own := "java/lang/String") (nm := "<init>") rfl rfl hEL (plainFor_of_name pn_0) #[.val (.ref r), .val (.ref a)] (fun m => by first | rfl | (simp [entryFrame, mkF, argsToLocals, Value.category, maxLocals]; done)) ?_
  intro p e s m below meth c T X
  refine g_aloadN X d22_0 rfl rfl 1 rfl ?_
  refine g_aloadN X d22_1 rfl rfl 2 rfl ?_
  refine g_aconstNull X d22_2 3 rfl ?_
  refine g_callIn X rfl (hw _ (List.mem_of_getElem? (i := 133) rfl)) (hw _ (List.mem_of_getElem? (i := 134) rfl)) (hw _ (List.mem_of_getElem? (i := 6) rfl)) (hw _ (List.mem_of_getElem? (i := 135) rfl)) (by decide) (c_s150 l Z a0 G r a b kb cap cs h S Er Vr Cr hra hrb hlt hB) (by simp) (argsL := [.ref a, .null]) (rest := []) pd_23 rfl rfl rfl rfl 0 (Nat.le_of_eq rfl) (by decide) (by decide) (ck := 1) rfl (cs := 65) rfl (by decide) (by decide) d22_3 6 rfl ?_
  intro T1 h4 X2 hq3
  exact g_ret X2 rfl d22_6 (by decide) (by decide) ⟨rfl, hq3⟩
theorem d21_0 : decode jdk_67_method_42_code 0 = .ok (.new 18, 3) := by decide +kernel
theorem d21_3 : decode jdk_67_method_42_code 3 = .ok (.dup, 1) := by decide +kernel
theorem d21_4 : decode jdk_67_method_42_code 4 = .ok (.aload_n 0, 1) := by decide +kernel
theorem d21_5 : decode jdk_67_method_42_code 5 = .ok (.invokespecial 137, 3) := by decide +kernel
theorem d21_8 : decode jdk_67_method_42_code 8 = .ok (.areturn, 1) := by decide +kernel
set_option maxRecDepth 65536 in
set_option maxHeartbeats 40000000 in
theorem c_sts (l : Launch) (Z : State) (a0 : Array Value) (G : Gl Z a0) (a b : Addr) (kb : ClassId) (cap : Nat) (cs : List Int32) (h : Heap) (S : Sb Z h a b kb cap cs) (hlt : cs.length < cap) (hB : cs.length ≤ 65) :
    Ctr l Z EL nw (⟨"java/lang/StringBuilder", "toString", "()Ljava/lang/String;"⟩ : MethodName) jdk_67_method_42_code 1 (Option.some (Jvm.ClassFile.FieldType.object "java/lang/String")) ({ frames := 5, cells := 2, slots := 69, locals := 79 } : Room) #[.ref a] h [] (ValQ fun w h' => ∃ r, w = .ref r ∧ Ext h h' ∧ StrN Z h h' r cs) := by
  obtain ⟨hw, hEL, hSA, ⟨zc, SC, hz⟩, ⟨fm, SF, hfm⟩, ⟨u0, SUn⟩, ⟨sp, SP, hsp⟩⟩ := id G
  refine Ctr.enter (own := "java/lang/StringBuilder") (nm := "toString") rfl rfl hEL (plainFor_of_name pn_4) #[.val (.ref a)] (fun m => by first | rfl | (simp [entryFrame, mkF, argsToLocals, Value.category, maxLocals]; done)) ?_
  intro p e s m below meth c T X
  refine g_new X (hw _ (List.mem_of_getElem? (i := 129) rfl)) (hw _ (List.mem_of_getElem? (i := 5) rfl)) (hw _ (List.mem_of_getElem? (i := 6) rfl)) d21_0 (ck := 1) rfl (cs := 4) rfl (by decide) (by decide) 3 rfl ?_
  intro a1 T2 h3 ea4 X5 E6 A7 D8
  have le_a1 : h.size ≤ a1 := by rw [ea4]; exact (Ext.refl h).1
  have ne_a_a1 : a ≠ a1 := by rw [ea4]; exact Nat.ne_of_lt S.lt
  have ne_b_a1 : b ≠ a1 := by rw [ea4]; exact Nat.ne_of_lt S.arv.lt
  have F9 : Fld Z h3 a1 "java/lang/String" "value" "[B" (.null) := D8 (Or.inr (hw _ (List.mem_of_getElem? (i := 20) rfl))) (ty := (.array .byte)) (by decide +kernel)
  have F10 : Fld Z h3 a1 "java/lang/String" "coder" "B" (.int (0 : Int32)) := D8 (Or.inr (hw _ (List.mem_of_getElem? (i := 21) rfl))) (ty := .byte) (by decide +kernel)
  refine g_dup X5 d21_3 rfl 4 rfl ?_
  refine g_aloadN X5 d21_4 rfl rfl 5 rfl ?_
  refine g_callIn X5 rfl (hw _ (List.mem_of_getElem? (i := 130) rfl)) (hw _ (List.mem_of_getElem? (i := 131) rfl)) (hw _ (List.mem_of_getElem? (i := 6) rfl)) (hw _ (List.mem_of_getElem? (i := 132) rfl)) (by decide) (c_s53 l Z a0 G a1 a b kb cap cs h3 (S.ext E6) A7 F9 F10 (Ne.symm ne_a_a1) (Ne.symm ne_b_a1) hlt hB) (by simp) (argsL := [.ref a]) (rest := [.ref a1]) pd_22 rfl rfl rfl rfl 1 (Nat.le_of_eq rfl) (by decide) (by decide) (ck := 2) rfl (cs := 69) rfl (by decide) (by decide) d21_5 8 rfl ?_
  intro T11 h14 X12 hq13
  obtain ⟨K15, Q16⟩ := hq13
  exact g_retA X12 rfl rfl rfl d21_8 (by decide) (by decide) ⟨_, rfl, ⟨a1, rfl, (ext_keep ((Ext.refl h).trans E6) K15 (fun x hx => by cases List.mem_singleton.mp hx; exact le_a1)), strN_of Q16 le_a1 ((Ext.refl h).trans E6).1⟩⟩
theorem pd_27 : parseMethodDescriptor "(III)I" = some ⟨[.int, .int, .int], (some .int)⟩ := by decide +kernel
theorem pd_28 : parseMethodDescriptor "([BI)[B" = some ⟨[(.array .byte), .int], (some (.array .byte))⟩ := by decide +kernel
theorem pd_29 : parseMethodDescriptor "(I)I" = some ⟨[.int], (some .int)⟩ := by decide +kernel
set_option maxRecDepth 65536 in
set_option maxHeartbeats 40000000 in
theorem c_minL (l : Launch) (Z : State) (a0 : Array Value) (G : Gl Z a0) (x y : Int32) (h : Heap) (hle : ¬ y < x) :
    Ctr l Z EL nw (⟨"java/lang/Math", "min", "(II)I"⟩ : MethodName) jdk_29_method_69_code 2 (Option.some Jvm.ClassFile.FieldType.int) ({ frames := 0, cells := 0, slots := 0, locals := 0 } : Room) #[.int x, .int y] h [] (PureQ h fun w => w = .int x) := by
  obtain ⟨hw, hEL, hSA, ⟨zc, SC, hz⟩, ⟨fm, SF, hfm⟩, ⟨u0, SUn⟩, ⟨sp, SP, hsp⟩⟩ := id G
  refine Ctr.enter (own := "java/lang/Math") (nm := "min") rfl rfl hEL (by decide +kernel) #[.val (.int x), .val (.int y)] (fun m => by first | rfl | (simp [entryFrame, mkF, argsToLocals, Value.category, maxLocals]; done)) ?_
  intro p e s m below meth c T X
  refine g_iloadN X d17_0 rfl 1 rfl ?_
  refine g_iloadN X d17_1 rfl 2 rfl ?_
  refine g_icmpNo X d17_2 (XT.ii_gt_f hle) 5 rfl ?_
  refine g_iloadN X d17_5 rfl 6 rfl ?_
  refine g_goto X d17_6 10 (by decide) (by decide) ?_
  exact g_retI X rfl d17_10 (by decide) (by decide) ⟨rfl, _, rfl, rfl⟩
theorem d15_0 : decode jdk_29_method_65_code 0 = .ok (.iload_n 0, 1) := by decide +kernel
theorem d15_1 : decode jdk_29_method_65_code 1 = .ok (.iload_n 1, 1) := by decide +kernel
theorem d15_2 : decode jdk_29_method_65_code 2 = .ok (.if_icmp .lt 7, 3) := by decide +kernel
theorem d15_5 : decode jdk_29_method_65_code 5 = .ok (.iload_n 0, 1) := by decide +kernel
theorem d15_6 : decode jdk_29_method_65_code 6 = .ok (.goto 4, 3) := by decide +kernel
theorem d15_9 : decode jdk_29_method_65_code 9 = .ok (.iload_n 1, 1) := by decide +kernel
theorem d15_10 : decode jdk_29_method_65_code 10 = .ok (.ireturn, 1) := by decide +kernel
set_option maxRecDepth 65536 in
set_option maxHeartbeats 40000000 in
theorem c_max (l : Launch) (Z : State) (a0 : Array Value) (G : Gl Z a0) (x y : Int32) (h : Heap) (hlt : x < y) :
    Ctr l Z EL nw (⟨"java/lang/Math", "max", "(II)I"⟩ : MethodName) jdk_29_method_65_code 2 (Option.some Jvm.ClassFile.FieldType.int) ({ frames := 0, cells := 0, slots := 0, locals := 0 } : Room) #[.int x, .int y] h [] (PureQ h fun w => w = .int y) := by
  obtain ⟨hw, hEL, hSA, ⟨zc, SC, hz⟩, ⟨fm, SF, hfm⟩, ⟨u0, SUn⟩, ⟨sp, SP, hsp⟩⟩ := id G
  refine Ctr.enter (own := "java/lang/Math") (nm := "max") rfl rfl hEL (by decide +kernel) #[.val (.int x), .val (.int y)] (fun m => by first | rfl | (simp [entryFrame, mkF, argsToLocals, Value.category, maxLocals]; done)) ?_
  intro p e s m below meth c T X
  refine g_iloadN X d15_0 rfl 1 rfl ?_
  refine g_iloadN X d15_1 rfl 2 rfl ?_
  refine g_icmpYes X d15_2 (XT.ii_lt_t hlt) 9 (by decide) (by decide) ?_
  refine g_iloadN X d15_9 rfl 10 rfl ?_
  exact g_retI X rfl d15_10 (by decide) (by decide) ⟨rfl, _, rfl, rfl⟩
theorem d14_0 : decode jdk_48_method_27_code 0 = .ok (.iload_n 0, 1) := by decide +kernel
theorem d14_1 : decode jdk_48_method_27_code 1 = .ok (.iload_n 1, 1) := by decide +kernel
theorem d14_2 : decode jdk_48_method_27_code 2 = .ok (.iload_n 2, 1) := by decide +kernel
theorem d14_3 : decode jdk_48_method_27_code 3 = .ok (.invokestatic 194, 3) := by decide +kernel
theorem d14_6 : decode jdk_48_method_27_code 6 = .ok (.iadd, 1) := by decide +kernel
theorem d14_7 : decode jdk_48_method_27_code 7 = .ok (.istore_n 3, 1) := by decide +kernel
theorem d14_8 : decode jdk_48_method_27_code 8 = .ok (.iconst 0, 1) := by decide +kernel
theorem d14_9 : decode jdk_48_method_27_code 9 = .ok (.iload_n 3, 1) := by decide +kernel
theorem d14_10 : decode jdk_48_method_27_code 10 = .ok (.if_icmp .ge 11, 3) := by decide +kernel
theorem d14_13 : decode jdk_48_method_27_code 13 = .ok (.iload_n 3, 1) := by decide +kernel
theorem d14_14 : decode jdk_48_method_27_code 14 = .ok (.ldc 200, 2) := by decide +kernel
theorem d14_16 : decode jdk_48_method_27_code 16 = .ok (.if_icmp .gt 5, 3) := by decide +kernel
theorem d14_19 : decode jdk_48_method_27_code 19 = .ok (.iload_n 3, 1) := by decide +kernel
theorem d14_20 : decode jdk_48_method_27_code 20 = .ok (.ireturn, 1) := by decide +kernel
theorem d14_21 : decode jdk_48_method_27_code 21 = .ok (.iload_n 0, 1) := by decide +kernel
theorem d14_22 : decode jdk_48_method_27_code 22 = .ok (.iload_n 1, 1) := by decide +kernel
theorem d14_23 : decode jdk_48_method_27_code 23 = .ok (.invokestatic 201, 3) := by decide +kernel
theorem d14_26 : decode jdk_48_method_27_code 26 = .ok (.ireturn, 1) := by decide +kernel
theorem pn_6 : plainName "jdk/internal/util/ArraysSupport" = true := by first | (simp [plainName, overriddenIn]; done) | decide +kernel
set_option maxRecDepth 65536 in
set_option maxHeartbeats 40000000 in
theorem c_nl (l : Launch) (Z : State) (a0 : Array Value) (G : Gl Z a0) (cap k : Nat) (h : Heap) (hk : cap < k) (hk2 : k ≤ cap + (cap + 1)) (hcap : cap + (cap + 2) ≤ 4000) :
    Ctr l Z EL nw (⟨"jdk/internal/util/ArraysSupport", "newLength", "(III)I"⟩ : MethodName) jdk_48_method_27_code 4 (Option.some Jvm.ClassFile.FieldType.int) ({ frames := 1, cells := 0, slots := 0, locals := 14 } : Room) #[.int (Int32.ofNat cap), .int (Int32.ofNat (k - cap)), .int (Int32.ofNat (cap + 2))] h [] (PureQ h fun w => w = .int (Int32.ofNat (cap + (cap + 2)))) := by
  obtain ⟨hw, hEL, hSA, ⟨zc, SC, hz⟩, ⟨fm, SF, hfm⟩, ⟨u0, SUn⟩, ⟨sp, SP, hsp⟩⟩ := id G
  refine Ctr.enter (own := "jdk/internal/util/ArraysSupport") (nm := "newLength") rfl rfl hEL (plainFor_of_name pn_6) #[.val (.int (Int32.ofNat cap)), .val (.int (Int32.ofNat (k - cap))), .val (.int (Int32.ofNat (cap + 2))), .unset] (fun m => by first | rfl | (simp [entryFrame, mkF, argsToLocals, Value.category, maxLocals]; done)) ?_
  intro p e s m below meth c T X
  refine g_iloadN X d14_0 rfl 1 rfl ?_
  refine g_iloadN X d14_1 rfl 2 rfl ?_
  refine g_iloadN X d14_2 rfl 3 rfl ?_
  refine g_callSp X (hw _ (List.mem_of_getElem? (i := 88) rfl)) (hw _ (List.mem_of_getElem? (i := 89) rfl)) (hw _ (List.mem_of_getElem? (i := 90) rfl)) (hw _ (List.mem_of_getElem? (i := 91) rfl)) (by decide) (c_max l Z a0 G _ _ h (of_lt (by omega) (by omega))) (by simp) (argsL := [.int (Int32.ofNat (k - cap)), .int (Int32.ofNat (cap + 2))]) (rest := [.int (Int32.ofNat cap)]) pd_26 rfl rfl rfl rfl 1 (Nat.le_of_eq rfl) (by decide) (by decide) (ck := 0) rfl (cs := 0) rfl (by decide) (by decide) d14_3 6 rfl ?_
  intro w3 T1 X2 hq4
  subst hq4
  refine g_iadd X2 d14_6 (Int32.ofNat (cap + (cap + 2))) (of_add _ _) 7 rfl ?_
  refine g_istoreN X2 d14_7 (Ls' := #[.val (.int (Int32.ofNat cap)), .val (.int (Int32.ofNat (k - cap))), .val (.int (Int32.ofNat (cap + 2))), .val (.int (Int32.ofNat (cap + (cap + 2))))]) rfl 8 rfl ?_
  refine g_iconst X2 (0 : Int32) d14_8 (by decide) 9 rfl ?_
  refine g_iloadN X2 d14_9 rfl 10 rfl ?_
  refine g_icmpNo X2 d14_10 (XT.ii_ge_f (of_lt (i := 0) (by omega) hcap)) 13 rfl ?_
  refine g_iloadN X2 d14_13 rfl 14 rfl ?_
  refine g_ldcI X2 (hw _ (List.mem_of_getElem? (i := 92) rfl)) d14_14 16 rfl ?_
  refine g_icmpNo X2 d14_16 (XT.ii_gt_f (of_big hcap (by decide))) 19 rfl ?_
  refine g_iloadN X2 d14_19 rfl 20 rfl ?_
  exact g_retI X2 rfl d14_20 (by decide) (by decide) ⟨rfl, _, rfl, rfl⟩
theorem d13_0 : decode jdk_68_method_10_code 0 = .ok (.aload_n 0, 1) := by decide +kernel
theorem d13_1 : decode jdk_68_method_10_code 1 = .ok (.getfield 15, 3) := by decide +kernel
theorem d13_4 : decode jdk_68_method_10_code 4 = .ok (.arraylength, 1) := by decide +kernel
theorem d13_5 : decode jdk_68_method_10_code 5 = .ok (.istore_n 2, 1) := by decide +kernel
theorem d13_6 : decode jdk_68_method_10_code 6 = .ok (.iload_n 1, 1) := by decide +kernel
theorem d13_7 : decode jdk_68_method_10_code 7 = .ok (.aload_n 0, 1) := by decide +kernel
theorem d13_8 : decode jdk_68_method_10_code 8 = .ok (.getfield 22, 3) := by decide +kernel
theorem d13_11 : decode jdk_68_method_10_code 11 = .ok (.ishl, 1) := by decide +kernel
theorem d13_12 : decode jdk_68_method_10_code 12 = .ok (.istore_n 3, 1) := by decide +kernel
theorem d13_13 : decode jdk_68_method_10_code 13 = .ok (.iload_n 3, 1) := by decide +kernel
theorem d13_14 : decode jdk_68_method_10_code 14 = .ok (.iload_n 2, 1) := by decide +kernel
theorem d13_15 : decode jdk_68_method_10_code 15 = .ok (.isub, 1) := by decide +kernel
theorem d13_16 : decode jdk_68_method_10_code 16 = .ok (.istore 4, 2) := by decide +kernel
theorem d13_18 : decode jdk_68_method_10_code 18 = .ok (.iload_n 2, 1) := by decide +kernel
theorem d13_19 : decode jdk_68_method_10_code 19 = .ok (.iload 4, 2) := by decide +kernel
theorem d13_21 : decode jdk_68_method_10_code 21 = .ok (.iload_n 2, 1) := by decide +kernel
theorem d13_22 : decode jdk_68_method_10_code 22 = .ok (.iconst 2, 1) := by decide +kernel
theorem d13_23 : decode jdk_68_method_10_code 23 = .ok (.aload_n 0, 1) := by decide +kernel
theorem d13_24 : decode jdk_68_method_10_code 24 = .ok (.getfield 22, 3) := by decide +kernel
theorem d13_27 : decode jdk_68_method_10_code 27 = .ok (.ishl, 1) := by decide +kernel
theorem d13_28 : decode jdk_68_method_10_code 28 = .ok (.iadd, 1) := by decide +kernel
theorem d13_29 : decode jdk_68_method_10_code 29 = .ok (.invokestatic 114, 3) := by decide +kernel
theorem d13_32 : decode jdk_68_method_10_code 32 = .ok (.istore 5, 2) := by decide +kernel
theorem d13_34 : decode jdk_68_method_10_code 34 = .ok (.iload 5, 2) := by decide +kernel
theorem d13_36 : decode jdk_68_method_10_code 36 = .ok (.ldc 39, 2) := by decide +kernel
theorem d13_38 : decode jdk_68_method_10_code 38 = .ok (.if_icmp .ne 13, 3) := by decide +kernel
theorem d13_41 : decode jdk_68_method_10_code 41 = .ok (.new 120, 3) := by decide +kernel
theorem d13_44 : decode jdk_68_method_10_code 44 = .ok (.dup, 1) := by decide +kernel
theorem d13_45 : decode jdk_68_method_10_code 45 = .ok (.ldc 122, 2) := by decide +kernel
theorem d13_47 : decode jdk_68_method_10_code 47 = .ok (.invokespecial 124, 3) := by decide +kernel
theorem d13_50 : decode jdk_68_method_10_code 50 = .ok (.athrow, 1) := by decide +kernel
theorem d13_51 : decode jdk_68_method_10_code 51 = .ok (.iload 5, 2) := by decide +kernel
theorem d13_53 : decode jdk_68_method_10_code 53 = .ok (.aload_n 0, 1) := by decide +kernel
theorem d13_54 : decode jdk_68_method_10_code 54 = .ok (.getfield 22, 3) := by decide +kernel
theorem d13_57 : decode jdk_68_method_10_code 57 = .ok (.ishr, 1) := by decide +kernel
theorem d13_58 : decode jdk_68_method_10_code 58 = .ok (.ireturn, 1) := by decide +kernel
set_option maxRecDepth 65536 in
set_option maxHeartbeats 40000000 in
theorem c_nc (l : Launch) (Z : State) (a0 : Array Value) (G : Gl Z a0) (a b : Addr) (kb : ClassId) (cap k : Nat) (vs : List Value) (h : Heap) (C : Fld Z h a "java/lang/AbstractStringBuilder" "coder" "B" (.int (0 : Int32))) (V : Fld Z h a "java/lang/AbstractStringBuilder" "value" "[B" (.ref b)) (A : Arv Z h b kb .byte (Int32.ofNat cap) vs (.int (0 : Int32))) (hk : cap < k) (hk2 : k ≤ cap + (cap + 1)) (hcap : cap + (cap + 2) ≤ 4000) :
    Ctr l Z EL nw (⟨"java/lang/AbstractStringBuilder", "newCapacity", "(I)I"⟩ : MethodName) jdk_68_method_10_code 6 (Option.some Jvm.ClassFile.FieldType.int) ({ frames := 2, cells := 0, slots := 0, locals := 29 } : Room) #[.ref a, .int (Int32.ofNat k)] h [] (PureQ h fun w => w = .int (Int32.ofNat (cap + (cap + 2)))) := by
  obtain ⟨hw, hEL, hSA, ⟨zc, SC, hz⟩, ⟨fm, SF, hfm⟩, ⟨u0, SUn⟩, ⟨sp, SP, hsp⟩⟩ := id G
  refine Ctr.enter (own := "java/lang/AbstractStringBuilder") (nm := "newCapacity") rfl rfl hEL (plainFor_of_name pn_3) #[.val (.ref a), .val (.int (Int32.ofNat k)), .unset, .unset, .unset, .unset] (fun m => by first | rfl | (simp [entryFrame, mkF, argsToLocals, Value.category, maxLocals]; done)) ?_
  intro p e s m below meth c T X
  refine g_aloadN X d13_0 rfl rfl 1 rfl ?_
  refine g_getF X (Or.inl (hw _ (List.mem_of_getElem? (i := 46) rfl))) (host := "") Via.refl V d13_1 4 rfl ?_
  intro T1 X2
  refine g_arrlen X2 A d13_4 5 rfl ?_
  refine g_istoreN X2 d13_5 (Ls' := #[.val (.ref a), .val (.int (Int32.ofNat k)), .val (.int (Int32.ofNat cap)), .unset, .unset, .unset]) rfl 6 rfl ?_
  refine g_iloadN X2 d13_6 rfl 7 rfl ?_
  refine g_aloadN X2 d13_7 rfl rfl 8 rfl ?_
  refine g_getF X2 (Or.inl (hw _ (List.mem_of_getElem? (i := 48) rfl))) (host := "") Via.refl C d13_8 11 rfl ?_
  intro T3 X4
  refine g_ishl X4 d13_11 (Int32.ofNat k) (shl0 _) 12 rfl ?_
  refine g_istoreN X4 d13_12 (Ls' := #[.val (.ref a), .val (.int (Int32.ofNat k)), .val (.int (Int32.ofNat cap)), .val (.int (Int32.ofNat k)), .unset, .unset]) rfl 13 rfl ?_
  refine g_iloadN X4 d13_13 rfl 14 rfl ?_
  refine g_iloadN X4 d13_14 rfl 15 rfl ?_
  refine g_isub X4 d13_15 (Int32.ofNat (k - cap)) (of_sub (by omega) (by omega)) 16 rfl ?_
  refine g_istore X4 d13_16 (Ls' := #[.val (.ref a), .val (.int (Int32.ofNat k)), .val (.int (Int32.ofNat cap)), .val (.int (Int32.ofNat k)), .val (.int (Int32.ofNat (k - cap))), .unset]) rfl 18 rfl ?_
  refine g_iloadN X4 d13_18 rfl 19 rfl ?_
  refine g_iload X4 d13_19 rfl 21 rfl ?_
  refine g_iloadN X4 d13_21 rfl 22 rfl ?_
  refine g_iconst X4 (2 : Int32) d13_22 (by decide) 23 rfl ?_
  refine g_aloadN X4 d13_23 rfl rfl 24 rfl ?_
  refine g_getF X4 (Or.inl (hw _ (List.mem_of_getElem? (i := 48) rfl))) (host := "") Via.refl C d13_24 27 rfl ?_
  intro T5 X6
  refine g_ishl X6 d13_27 (2 : Int32) (by decide) 28 rfl ?_
  refine g_iadd X6 d13_28 (Int32.ofNat (cap + 2)) (of_add cap 2) 29 rfl ?_
  refine g_callSp X6 (hw _ (List.mem_of_getElem? (i := 84) rfl)) (hw _ (List.mem_of_getElem? (i := 85) rfl)) (hw _ (List.mem_of_getElem? (i := 86) rfl)) (hw _ (List.mem_of_getElem? (i := 87) rfl)) (by decide) (c_nl l Z a0 G cap k h hk hk2 hcap) (by simp) (argsL := [.int (Int32.ofNat cap), .int (Int32.ofNat (k - cap)), .int (Int32.ofNat (cap + 2))]) (rest := []) pd_27 rfl rfl rfl rfl 0 (Nat.le_of_eq rfl) (by decide) (by decide) (ck := 0) rfl (cs := 0) rfl (by decide) (by decide) d13_29 32 rfl ?_
  intro w9 T7 X8 hq10
  subst hq10
  refine g_istore X8 d13_32 (Ls' := #[.val (.ref a), .val (.int (Int32.ofNat k)), .val (.int (Int32.ofNat cap)), .val (.int (Int32.ofNat k)), .val (.int (Int32.ofNat (k - cap))), .val (.int (Int32.ofNat (cap + (cap + 2))))]) rfl 34 rfl ?_
  refine g_iload X8 d13_34 rfl 36 rfl ?_
  refine g_ldcI X8 (hw _ (List.mem_of_getElem? (i := 93) rfl)) d13_36 38 rfl ?_
  refine g_icmpYes X8 d13_38 (XT.ii_ne_t (fun q => of_ne hcap (by decide) q)) 51 (by decide) (by decide) ?_
  refine g_iload X8 d13_51 rfl 53 rfl ?_
  refine g_aloadN X8 d13_53 rfl rfl 54 rfl ?_
  refine g_getF X8 (Or.inl (hw _ (List.mem_of_getElem? (i := 48) rfl))) (host := "") Via.refl C d13_54 57 rfl ?_
  intro T11 X12
  refine g_ishr X12 d13_57 (Int32.ofNat (cap + (cap + 2))) (shr0 _) 58 rfl ?_
  exact g_retI X12 rfl d13_58 (by decide) (by decide) ⟨rfl, _, rfl, rfl⟩
theorem d16_0 : decode jdk_65_method_121_code 0 = .ok (.iload_n 1, 1) := by decide +kernel
theorem d16_1 : decode jdk_65_method_121_code 1 = .ok (.aload_n 0, 1) := by decide +kernel
theorem d16_2 : decode jdk_65_method_121_code 2 = .ok (.arraylength, 1) := by decide +kernel
theorem d16_3 : decode jdk_65_method_121_code 3 = .ok (.if_icmp .ne 11, 3) := by decide +kernel
theorem d16_6 : decode jdk_65_method_121_code 6 = .ok (.aload_n 0, 1) := by decide +kernel
theorem d16_7 : decode jdk_65_method_121_code 7 = .ok (.invokevirtual 310, 3) := by decide +kernel
theorem d16_10 : decode jdk_65_method_121_code 10 = .ok (.checkcast 311, 3) := by decide +kernel
theorem d16_13 : decode jdk_65_method_121_code 13 = .ok (.areturn, 1) := by decide +kernel
theorem d16_14 : decode jdk_65_method_121_code 14 = .ok (.iload_n 1, 1) := by decide +kernel
theorem d16_15 : decode jdk_65_method_121_code 15 = .ok (.newarray .byte, 2) := by decide +kernel
theorem d16_17 : decode jdk_65_method_121_code 17 = .ok (.astore_n 2, 1) := by decide +kernel
theorem d16_18 : decode jdk_65_method_121_code 18 = .ok (.aload_n 0, 1) := by decide +kernel
theorem d16_19 : decode jdk_65_method_121_code 19 = .ok (.iconst 0, 1) := by decide +kernel
theorem d16_20 : decode jdk_65_method_121_code 20 = .ok (.aload_n 2, 1) := by decide +kernel
theorem d16_21 : decode jdk_65_method_121_code 21 = .ok (.iconst 0, 1) := by decide +kernel
theorem d16_22 : decode jdk_65_method_121_code 22 = .ok (.aload_n 0, 1) := by decide +kernel
theorem d16_23 : decode jdk_65_method_121_code 23 = .ok (.arraylength, 1) := by decide +kernel
theorem d16_24 : decode jdk_65_method_121_code 24 = .ok (.iload_n 1, 1) := by decide +kernel
theorem d16_25 : decode jdk_65_method_121_code 25 = .ok (.invokestatic 304, 3) := by decide +kernel
theorem d16_28 : decode jdk_65_method_121_code 28 = .ok (.invokestatic 150, 3) := by decide +kernel
theorem d16_31 : decode jdk_65_method_121_code 31 = .ok (.aload_n 2, 1) := by decide +kernel
theorem d16_32 : decode jdk_65_method_121_code 32 = .ok (.areturn, 1) := by decide +kernel
set_option maxRecDepth 65536 in
set_option maxHeartbeats 40000000 in
theorem c_co (l : Launch) (Z : State) (a0 : Array Value) (G : Gl Z a0) (b : Addr) (kb : ClassId) (cap cp : Nat) (cs : List Int32) (h : Heap) (A : Arv Z h b kb .byte (Int32.ofNat cap) (padB cap cs) (.int (0 : Int32))) (hlen : cs.length ≤ cap) (hlt : cap < cp) (hcp : cp ≤ 4000) (hB : cp ≤ 70) :
    Ctr l Z EL nw (⟨"java/util/Arrays", "copyOf", "([BI)[B"⟩ : MethodName) jdk_65_method_121_code 3 (Option.some (Jvm.ClassFile.FieldType.array Jvm.ClassFile.FieldType.byte)) ({ frames := 1, cells := 1, slots := 70, locals := 18 } : Room) #[.ref b, .int (Int32.ofNat cp)] h [] (ValQ fun w h' => ∃ (t : Addr) (kt : ClassId), w = .ref t ∧ Ext h h' ∧ h.size ≤ t ∧ Arv Z h' t kt .byte (Int32.ofNat cp) (padB cp cs) (.int (0 : Int32))) := by
  obtain ⟨hw, hEL, hSA, ⟨zc, SC, hz⟩, ⟨fm, SF, hfm⟩, ⟨u0, SUn⟩, ⟨sp, SP, hsp⟩⟩ := id G
  refine Ctr.enter (own := "java/util/Arrays") (nm := "copyOf") rfl rfl hEL (plainFor_of_name pn_5) #[.val (.ref b), .val (.int (Int32.ofNat cp)), .unset] (fun m => by first | rfl | (simp [entryFrame, mkF, argsToLocals, Value.category, maxLocals]; done)) ?_
  intro p e s m below meth c T X
  refine g_iloadN X d16_0 rfl 1 rfl ?_
  refine g_aloadN X d16_1 rfl rfl 2 rfl ?_
  refine g_arrlen X A d16_2 3 rfl ?_
  refine g_icmpYes X d16_3 (XT.ii_ne_t (fun q => absurd (of_eq hcp (by omega) q) (by omega))) 14 (by decide) (by decide) ?_
  refine g_iloadN X d16_14 rfl 15 rfl ?_
  refine g_newP X (hw _ (List.mem_of_getElem? (i := 19) rfl)) d16_15 (of_nn hcp) 70 (by rw [of_nat hcp]; exact hB) (by decide) (ck := 1) rfl (cs := 70) rfl (by decide) (by decide) 17 rfl ?_
  intro a1 T2 h3 k4 ea5 X6 E7 A8
  have A9 : Arv Z h3 a1 k4 .byte (Int32.ofNat cp) (List.replicate (cp) (.int (0 : Int32))) (.int (0 : Int32)) := A8.pad (pad_rep [] _ (cp))
  have le_a1 : h.size ≤ a1 := by rw [ea5]; exact (Ext.refl h).1
  have ne_b_a1 : b ≠ a1 := by rw [ea5]; exact Nat.ne_of_lt A.lt
  refine g_astoreN X6 d16_17 rfl (Ls' := #[.val (.ref b), .val (.int (Int32.ofNat cp)), .val (.ref a1)]) rfl 18 rfl ?_
  refine g_aloadN X6 d16_18 rfl rfl 19 rfl ?_
  refine g_iconst X6 (0 : Int32) d16_19 (by decide) 20 rfl ?_
  refine g_aloadN X6 d16_20 rfl rfl 21 rfl ?_
  refine g_iconst X6 (0 : Int32) d16_21 (by decide) 22 rfl ?_
  refine g_aloadN X6 d16_22 rfl rfl 23 rfl ?_
  refine g_arrlen X6 (A.ext E7) d16_23 24 rfl ?_
  refine g_iloadN X6 d16_24 rfl 25 rfl ?_
  refine g_callSp X6 (hw _ (List.mem_of_getElem? (i := 98) rfl)) (hw _ (List.mem_of_getElem? (i := 99) rfl)) (hw _ (List.mem_of_getElem? (i := 90) rfl)) (hw _ (List.mem_of_getElem? (i := 100) rfl)) (by decide) (c_minL l Z a0 G (Int32.ofNat cap) (Int32.ofNat cp) h3 (of_le (by omega) hcp)) (by simp) (argsL := [.int (Int32.ofNat cap), .int (Int32.ofNat cp)]) (rest := [.int (0 : Int32), .ref a1, .int (0 : Int32), .ref b]) pd_26 rfl rfl rfl rfl 4 (Nat.le_of_eq rfl) (by decide) (by decide) (ck := 1) rfl (cs := 70) rfl (by decide) (by decide) d16_25 28 rfl ?_
  intro w12 T10 X11 hq13
  subst hq13
  refine g_arrcopy X11 (hw _ (List.mem_of_getElem? (i := 101) rfl)) (hw _ (List.mem_of_getElem? (i := 104) rfl)) (hw _ (List.mem_of_getElem? (i := 102) rfl)) (hw _ (List.mem_of_getElem? (i := 103) rfl)) (A.ext E7) A9 rfl (by decide) (by decide) (of_nn (by omega)) (by rw [clamp0, of_nat (by omega)]; omega) (by rw [clamp0, of_nat (by omega), of_nat (by omega)]; omega) (by rw [clamp0, of_nat (by omega), List.length_replicate]; omega) (padB cp cs) (pad_grow hlen (by omega) (by omega)) (by simp) rfl d16_28 (by decide) 0 (Nat.le_of_eq rfl) (by decide) 31 rfl ?_
  intro T14 h15 X16 K17 A18
  refine g_aloadN X16 d16_31 rfl rfl 32 rfl ?_
  exact g_retA X16 rfl rfl rfl d16_32 (by decide) (by decide) ⟨_, rfl, ⟨a1, _, rfl, (ext_keep ((Ext.refl h).trans E7) K17 (fun x hx => by cases List.mem_singleton.mp hx; exact le_a1)), le_a1, A18⟩⟩
set_option maxRecDepth 65536 in
set_option maxHeartbeats 40000000 in
theorem c_eciG (l : Launch) (Z : State) (a0 : Array Value) (G : Gl Z a0) (a b : Addr) (kb : ClassId) (cap k : Nat) (cs : List Int32) (h : Heap) (S : Sb Z h a b kb cap cs) (hk : cap < k) (hk2 : k ≤ cap + (cap + 1)) (hB' : (cap + (cap + 2)) ≤ 4000) (hB : (cap + (cap + 2)) ≤ 70) :
    Ctr l Z EL nw (⟨"java/lang/AbstractStringBuilder", "ensureCapacityInternal", "(I)V"⟩ : MethodName) jdk_68_method_9_code 3 (Option.none : Option Jvm.ClassFile.FieldType) ({ frames := 3, cells := 1, slots := 70, locals := 48 } : Room) #[.ref a, .int (Int32.ofNat k)] h [a] (VoidQ fun h' => ∃ (t : Addr) (kt : ClassId), Keep h h' [a] ∧ h.size ≤ t ∧ Sb Z h' a t kt (cap + (cap + 2)) cs) := by
  obtain ⟨hw, hEL, hSA, ⟨zc, SC, hz⟩, ⟨fm, SF, hfm⟩, ⟨u0, SUn⟩, ⟨sp, SP, hsp⟩⟩ := id G
  refine Ctr.enter (own := "java/lang/AbstractStringBuilder") (nm := "ensureCapacityInternal") rfl rfl hEL (plainFor_of_name pn_3) #[.val (.ref a), .val (.int (Int32.ofNat k)), .unset] (fun m => by first | rfl | (simp [entryFrame, mkF, argsToLocals, Value.category, maxLocals]; done)) ?_
  intro p e s m below meth c T X
  obtain ⟨E, C, N, V, A, hcs, hlen, hcap, hab⟩ := id S
  refine g_aloadN X d12_0 rfl rfl 1 rfl ?_
  refine g_getF X (Or.inl (hw _ (List.mem_of_getElem? (i := 46) rfl))) (host := "") Via.refl V d12_1 4 rfl ?_
  intro T1 X2
  refine g_arrlen X2 A d12_4 5 rfl ?_
  refine g_aloadN X2 d12_5 rfl rfl 6 rfl ?_
  refine g_getF X2 (Or.inl (hw _ (List.mem_of_getElem? (i := 48) rfl))) (host := "") Via.refl C d12_6 9 rfl ?_
  intro T3 X4
  refine g_ishr X4 d12_9 (Int32.ofNat cap) (shr0 _) 10 rfl ?_
  refine g_istoreN X4 d12_10 (Ls' := #[.val (.ref a), .val (.int (Int32.ofNat k)), .val (.int (Int32.ofNat cap))]) rfl 11 rfl ?_
  refine g_iloadN X4 d12_11 rfl 12 rfl ?_
  refine g_iloadN X4 d12_12 rfl 13 rfl ?_
  refine g_isub X4 d12_13 _ rfl 14 rfl ?_
  refine g_ifNo X4 d12_14 (XT.ii_le_f (sub_gt hk (by omega))) 17 rfl ?_
  refine g_aloadN X4 d12_17 rfl rfl 18 rfl ?_
  refine g_aloadN X4 d12_18 rfl rfl 19 rfl ?_
  refine g_getF X4 (Or.inl (hw _ (List.mem_of_getElem? (i := 46) rfl))) (host := "") Via.refl V d12_19 22 rfl ?_
  intro T5 X6
  refine g_aloadN X6 d12_22 rfl rfl 23 rfl ?_
  refine g_iloadN X6 d12_23 rfl 24 rfl ?_
  refine g_callVp X6 (hw _ (List.mem_of_getElem? (i := 79) rfl)) (own_declares (hw _ (List.mem_of_getElem? (i := 80) rfl)) (hw _ (List.mem_of_getElem? (i := 83) rfl))) (hw _ (List.mem_of_getElem? (i := 82) rfl)) (hw _ (List.mem_of_getElem? (i := 80) rfl)) (hw _ (List.mem_of_getElem? (i := 42) rfl)) (hw _ (List.mem_of_getElem? (i := 83) rfl)) (nfSel (hw _ (List.mem_of_getElem? (i := 82) rfl))) (by decide) E (c_nc l Z a0 G a b kb cap k _ h C V A hk hk2 hB') (by simp) (argsL := [.int (Int32.ofNat k)]) (rest := [.ref b, .ref a]) pd_29 rfl rfl rfl rfl 2 (Nat.le_of_eq rfl) (by decide) (by decide) (ck := 0) rfl (cs := 0) rfl (by decide) (by decide) d12_24 27 rfl ?_
  intro w9 T7 X8 hq10
  subst hq10
  refine g_aloadN X8 d12_27 rfl rfl 28 rfl ?_
  refine g_getF X8 (Or.inl (hw _ (List.mem_of_getElem? (i := 48) rfl))) (host := "") Via.refl C d12_28 31 rfl ?_
  intro T11 X12
  refine g_ishl X12 d12_31 (Int32.ofNat (cap + (cap + 2))) (shl0 _) 32 rfl ?_
  refine g_callSv X12 (hw _ (List.mem_of_getElem? (i := 94) rfl)) (hw _ (List.mem_of_getElem? (i := 95) rfl)) (hw _ (List.mem_of_getElem? (i := 96) rfl)) (hw _ (List.mem_of_getElem? (i := 97) rfl)) (by decide) (c_co l Z a0 G b kb cap (cap + (cap + 2)) cs h A hlen (by omega) hB' hB) (by simp) (argsL := [.ref b, .int (Int32.ofNat (cap + (cap + 2)))]) (rest := [.ref a]) pd_28 rfl rfl rfl rfl 1 (Nat.le_of_eq rfl) (by decide) (by decide) (ck := 1) rfl (cs := 70) rfl (by decide) (by decide) d12_32 35 rfl ?_
  intro w15 T13 h17 X14 hq16
  obtain ⟨t18, k19, rfl, E20, le21, A22⟩ := hq16
  have ne_a_t18 : a ≠ t18 := Nat.ne_of_lt (Nat.lt_of_lt_of_le E.lt le21)
  refine g_putF X14 (Or.inl (hw _ (List.mem_of_getElem? (i := 46) rfl))) (host := "") Via.refl (V.ext E20) (E.ext E20) (Or.inl (hw _ (List.mem_of_getElem? (i := 47) rfl))) (hw _ (List.mem_of_getElem? (i := 33) rfl)) (ty := (.array .byte)) (by decide +kernel) rfl rfl (by simp) d12_35 38 rfl ?_
  intro T23 h24 X25 W26 F27 E28
  exact g_ret X25 rfl d12_38 (by decide) (by decide) ⟨rfl, ⟨t18, _, (((Keep.refl h [a]).ext E20).wr W26 (Or.inl (by simp))), le21, E28, ((C.ext E20).other W26 (Or.inr (slot_ne (t := .byte) (t' := (.array .byte)) (Or.inl (hw _ (List.mem_of_getElem? (i := 49) rfl))) (Or.inl (hw _ (List.mem_of_getElem? (i := 47) rfl))) (by decide) (by decide +kernel) (by decide +kernel)))), ((N.ext E20).other W26 (Or.inr (slot_ne (t := .int) (t' := (.array .byte)) (Or.inl (hw _ (List.mem_of_getElem? (i := 73) rfl))) (Or.inl (hw _ (List.mem_of_getElem? (i := 47) rfl))) (by decide) (by decide +kernel) (by decide +kernel)))), F27, (A22.other W26 (Ne.symm ne_a_t18)), hcs, (by omega), hB', ne_a_t18⟩⟩
set_option maxRecDepth 65536 in
set_option maxHeartbeats 40000000 in
theorem c_asaG (l : Launch) (Z : State) (a0 : Array Value) (G : Gl Z a0) (a u t b : Addr) (kt kb : ClassId) (cap : Nat) (cs ds : List Int32) (h : Heap) (S : Sb Z h a b kb cap cs) (Eu : Exa Z h u "java/lang/String") (Cu : Fld Z h u "java/lang/String" "coder" "B" (.int (0 : Int32))) (Vu : Fld Z h u "java/lang/String" "value" "[B" (.ref t)) (At : Arv Z h t kt .byte (Int32.ofNat ds.length) (bys ds) (.int (0 : Int32))) (hds : ∀ c ∈ ds, ¬ c < 0 ∧ ¬ (255 : Int32) < c) (hdl : ds.length ≤ 4000) (hau : a ≠ u) (hat : a ≠ t) (hel : (cap + (cap + 2)) ∈ CAPS) (hk : cap < cs.length + ds.length) (hk2 : cs.length + ds.length ≤ cap + (cap + 1)) (hB' : (cap + (cap + 2)) ≤ 4000) (hB : (cap + (cap + 2)) ≤ 70) :
    Ctr l Z EL nw (⟨"java/lang/AbstractStringBuilder", "append", "(Ljava/lang/String;)Ljava/lang/AbstractStringBuilder;"⟩ : MethodName) jdk_68_method_22_code 3 (Option.some (Jvm.ClassFile.FieldType.object "java/lang/AbstractStringBuilder")) ({ frames := 4, cells := 1, slots := 70, locals := 62 } : Room) #[.ref a, .ref u] h [a] (ValQ fun w h' => w = .ref a ∧ ∃ (b' : Addr) (kb' : ClassId), Keep h h' [a] ∧ h.size ≤ b' ∧ Sb Z h' a b' kb' (cap + (cap + 2)) (cs ++ ds)) := by
  obtain ⟨hw, hEL, hSA, ⟨zc, SC, hz⟩, ⟨fm, SF, hfm⟩, ⟨u0, SUn⟩, ⟨sp, SP, hsp⟩⟩ := id G
  refine Ctr.enter (own := "java/lang/AbstractStringBuilder") (nm := "append") rfl rfl hEL (plainFor_of_name pn_3) #[.val (.ref a), .val (.ref u), .unset] (fun m => by first | rfl | (simp [entryFrame, mkF, argsToLocals, Value.category, maxLocals]; done)) ?_
  intro p e s m below meth c T X
  obtain ⟨E, C, N, V, A, hcs, hlen, hcap, hab⟩ := id S
  refine g_aloadN X d9_0 rfl rfl 1 rfl ?_
  refine g_ifnonnullYes X d9_1 9 (by decide) (by decide) ?_
  refine g_aloadN X d9_9 rfl rfl 10 rfl ?_
  refine g_callVp X (hw _ (List.mem_of_getElem? (i := 61) rfl)) (hw _ (List.mem_of_getElem? (i := 62) rfl)) (hw _ (List.mem_of_getElem? (i := 64) rfl)) (hw _ (List.mem_of_getElem? (i := 63) rfl)) (hw _ (List.mem_of_getElem? (i := 6) rfl)) (hw _ (List.mem_of_getElem? (i := 65) rfl)) (nfSel (hw _ (List.mem_of_getElem? (i := 64) rfl))) (by decide) Eu (c_len l Z a0 G u t kt ds h Eu Cu Vu At hds hdl) (by simp) (argsL := []) (rest := []) pd_5 rfl rfl rfl rfl 0 (Nat.le_of_eq rfl) (by decide) (by decide) (ck := 0) rfl (cs := 0) rfl (by decide) (by decide) d9_10 13 rfl ?_
  intro w3 T1 X2 hq4
  subst hq4
  refine g_istoreN X2 d9_13 (Ls' := #[.val (.ref a), .val (.ref u), .val (.int (Int32.ofNat ds.length))]) rfl 14 rfl ?_
  refine g_aloadN X2 d9_14 rfl rfl 15 rfl ?_
  refine g_aloadN X2 d9_15 rfl rfl 16 rfl ?_
  refine g_getF X2 (Or.inl (hw _ (List.mem_of_getElem? (i := 72) rfl))) (host := "") Via.refl N d9_16 19 rfl ?_
  intro T5 X6
  refine g_iloadN X6 d9_19 rfl 20 rfl ?_
  refine g_iadd X6 d9_20 (Int32.ofNat (cs.length + ds.length)) (of_add _ _) 21 rfl ?_
  refine g_callVn X6 (hw _ (List.mem_of_getElem? (i := 74) rfl)) (own_declares (hw _ (List.mem_of_getElem? (i := 75) rfl)) (hw _ (List.mem_of_getElem? (i := 78) rfl))) (hw _ (List.mem_of_getElem? (i := 77) rfl)) (hw _ (List.mem_of_getElem? (i := 75) rfl)) (hw _ (List.mem_of_getElem? (i := 42) rfl)) (hw _ (List.mem_of_getElem? (i := 78) rfl)) (nfSel (hw _ (List.mem_of_getElem? (i := 77) rfl))) (by decide) E (c_eciG l Z a0 G a b kb cap (cs.length + ds.length) cs h S hk hk2 hB' hB) (by simp) (argsL := [.int (Int32.ofNat (cs.length + ds.length))]) (rest := []) pd_16 rfl rfl rfl rfl 0 (Nat.le_of_eq rfl) (by decide) (by decide) (ck := 1) rfl (cs := 70) rfl (by decide) (by decide) d9_21 24 rfl ?_
  intro T7 h10 X8 hq9
  obtain ⟨b', kb', hK1, hL1, S1⟩ := hq9
  obtain ⟨E1, C1, N1, V1, A1, _, hlen1, hcap1, hab1⟩ := id S1
  have X11 := X8.add (elL hw (cap + (cap + 2)) hel) A1 (Nat.le_trans X.old.1 hL1)
  refine g_aloadN X11 d9_24 rfl rfl 25 rfl ?_
  refine g_aloadN X11 d9_25 rfl rfl 26 rfl ?_
  refine g_getF X11 (Or.inl (hw _ (List.mem_of_getElem? (i := 72) rfl))) (host := "") Via.refl N1 d9_26 29 rfl ?_
  intro T12 X13
  refine g_aloadN X13 d9_29 rfl rfl 30 rfl ?_
  refine g_callVn X13 (hw _ (List.mem_of_getElem? (i := 105) rfl)) (own_declares (hw _ (List.mem_of_getElem? (i := 106) rfl)) (hw _ (List.mem_of_getElem? (i := 109) rfl))) (hw _ (List.mem_of_getElem? (i := 108) rfl)) (hw _ (List.mem_of_getElem? (i := 106) rfl)) (hw _ (List.mem_of_getElem? (i := 42) rfl)) (hw _ (List.mem_of_getElem? (i := 109) rfl)) (nfSel (hw _ (List.mem_of_getElem? (i := 108) rfl))) (by decide) E1 (c_psa l Z a0 G a u t b' kt kb' (cap + (cap + 2)) cs ds h10 E1 C1 V1 (Eu.keep hK1) (Cu.keep hK1 (ninS (Ne.symm hau) nin0)) (Vu.keep hK1 (ninS (Ne.symm hau) nin0)) (At.keep hK1 (ninS (Ne.symm hat) nin0)) hds hdl A1 (by omega) hcap1) (by simp) (argsL := [.int (Int32.ofNat cs.length), .ref u]) (rest := []) pd_19 rfl rfl rfl rfl 0 (Nat.le_of_eq rfl) (by decide) (by decide) (ck := 1) rfl (cs := 70) rfl (by decide) (by decide) d9_30 33 rfl ?_
  intro T14 h17 X15 hq16
  obtain ⟨K18, A19⟩ := hq16
  refine g_aloadN X15 d9_33 rfl rfl 34 rfl ?_
  refine g_dup X15 d9_34 rfl 35 rfl ?_
  refine g_getF X15 (Or.inl (hw _ (List.mem_of_getElem? (i := 72) rfl))) (host := "") Via.refl (N1.keep K18 (ninS hab1 nin0)) d9_35 38 rfl ?_
  intro T20 X21
  refine g_iloadN X21 d9_38 rfl 39 rfl ?_
  refine g_iadd X21 d9_39 (Int32.ofNat (cs.length + ds.length)) (of_add _ _) 40 rfl ?_
  refine g_putF X21 (Or.inl (hw _ (List.mem_of_getElem? (i := 72) rfl))) (host := "") Via.refl (N1.keep K18 (ninS hab1 nin0)) (E1.keep K18) (Or.inl (hw _ (List.mem_of_getElem? (i := 73) rfl))) (hw _ (List.mem_of_getElem? (i := 33) rfl)) (ty := .int) (by decide +kernel) rfl rfl (by simp) d9_40 43 rfl ?_
  intro T22 h23 X24 W25 F26 E27
  refine g_aloadN X24 d9_43 rfl rfl 44 rfl ?_
  exact g_retA X24 rfl rfl rfl d9_44 (by decide) (by decide) ⟨_, rfl, ⟨rfl, b', kb', ((((Keep.refl h [a]).trans hK1 (by simp)).trans K18 (fun x hx => by cases List.mem_singleton.mp hx; exact Or.inr hL1)).wr W25 (Or.inl (by simp))), hL1, E27, ((C1.keep K18 (ninS hab1 nin0)).other W25 (Or.inr (slot_ne (t := .byte) (t' := .int) (Or.inl (hw _ (List.mem_of_getElem? (i := 49) rfl))) (Or.inl (hw _ (List.mem_of_getElem? (i := 73) rfl))) (by decide) (by decide +kernel) (by decide +kernel)))), (by rw [List.length_append]; exact F26), ((V1.keep K18 (ninS hab1 nin0)).other W25 (Or.inr (slot_ne (t := (.array .byte)) (t' := .int) (Or.inl (hw _ (List.mem_of_getElem? (i := 47) rfl))) (Or.inl (hw _ (List.mem_of_getElem? (i := 73) rfl))) (by decide) (by decide +kernel) (by decide +kernel)))), (A19.other W25 (Ne.symm hab1)), ok_app hcs hds, (by rw [List.length_append]; omega), hcap1, hab1⟩⟩
set_option maxRecDepth 65536 in
set_option maxHeartbeats 40000000 in
theorem c_sbaG (l : Launch) (Z : State) (a0 : Array Value) (G : Gl Z a0) (a u t b : Addr) (kt kb : ClassId) (cap : Nat) (cs ds : List Int32) (h : Heap) (S : Sb Z h a b kb cap cs) (Eu : Exa Z h u "java/lang/String") (Cu : Fld Z h u "java/lang/String" "coder" "B" (.int (0 : Int32))) (Vu : Fld Z h u "java/lang/String" "value" "[B" (.ref t)) (At : Arv Z h t kt .byte (Int32.ofNat ds.length) (bys ds) (.int (0 : Int32))) (hds : ∀ c ∈ ds, ¬ c < 0 ∧ ¬ (255 : Int32) < c) (hdl : ds.length ≤ 4000) (hau : a ≠ u) (hat : a ≠ t) (hel : (cap + (cap + 2)) ∈ CAPS) (hk : cap < cs.length + ds.length) (hk2 : cs.length + ds.length ≤ cap + (cap + 1)) (hB' : (cap + (cap + 2)) ≤ 4000) (hB : (cap + (cap + 2)) ≤ 70) :
    Ctr l Z EL nw (⟨"java/lang/StringBuilder", "append", "(Ljava/lang/String;)Ljava/lang/StringBuilder;"⟩ : MethodName) jdk_67_method_7_code 2 (Option.some (Jvm.ClassFile.FieldType.object "java/lang/StringBuilder")) ({ frames := 5, cells := 1, slots := 70, locals := 76 } : Room) #[.ref a, .ref u] h [a] (ValQ fun w h' => w = .ref a ∧ ∃ (b' : Addr) (kb' : ClassId), Keep h h' [a] ∧ h.size ≤ b' ∧ Sb Z h' a b' kb' (cap + (cap + 2)) (cs ++ ds)) := by
  obtain ⟨hw, hEL, hSA, ⟨zc, SC, hz⟩, ⟨fm, SF, hfm⟩, ⟨u0, SUn⟩, ⟨sp, SP, hsp⟩⟩ := id G
  refine Ctr.enter (own := "java/lang/StringBuilder") (nm := "append") rfl rfl hEL (plainFor_of_name pn_4) #[.val (.ref a), .val (.ref u)] (fun m => by first | rfl | (simp [entryFrame, mkF, argsToLocals, Value.category, maxLocals]; done)) ?_
  intro p e s m below meth c T X
  refine g_aloadN X d8_0 rfl rfl 1 rfl ?_
  refine g_aloadN X d8_1 rfl rfl 2 rfl ?_
  refine g_callUv X (by decide) (hw _ (List.mem_of_getElem? (i := 56) rfl)) (own_same (hw _ (List.mem_of_getElem? (i := 57) rfl)) (hw _ (List.mem_of_getElem? (i := 77) rfl)) rfl (by decide)) (hw _ (List.mem_of_getElem? (i := 57) rfl)) (hw _ (List.mem_of_getElem? (i := 58) rfl)) (hw _ (List.mem_of_getElem? (i := 42) rfl)) (hw _ (List.mem_of_getElem? (i := 60) rfl)) S.1 (c_asaG l Z a0 G a u t b kt kb cap cs ds h S Eu Cu Vu At hds hdl hau hat hel hk hk2 hB' hB) (by simp) (argsL := [.ref u]) (rest := []) pd_18 rfl rfl rfl rfl 0 (Nat.le_of_eq rfl) (by decide) (by decide) (ck := 1) rfl (cs := 70) rfl (by decide) (by decide) d8_2 5 rfl ?_
  intro w3 T1 h5 X2 hq4
  obtain ⟨rfl, hR⟩ := hq4
  refine g_pop X2 d8_5 rfl 6 rfl ?_
  refine g_aloadN X2 d8_6 rfl rfl 7 rfl ?_
  exact g_retA X2 rfl rfl rfl d8_7 (by decide) (by decide) ⟨_, rfl, ⟨rfl, hR⟩⟩
def msgL (t u : List Int32) : List Int32 := ((((([] : List Int32) ++ [(67 : Int32), (97 : Int32), (110 : Int32), (110 : Int32), (111 : Int32), (116 : Int32), (32 : Int32), (103 : Int32), (105 : Int32), (118 : Int32), (101 : Int32), (32 : Int32), (98 : Int32), (101 : Int32), (97 : Int32), (110 : Int32), (32 : Int32), (34 : Int32)]) ++ t) ++ [(34 : Int32), (32 : Int32), (116 : Int32), (104 : Int32), (101 : Int32), (32 : Int32), (97 : Int32), (108 : Int32), (105 : Int32), (97 : Int32), (115 : Int32), (32 : Int32), (34 : Int32)]) ++ u) ++ [(34 : Int32), (58 : Int32), (32 : Int32), (116 : Int32), (104 : Int32), (97 : Int32), (116 : Int32), (32 : Int32), (110 : Int32), (97 : Int32), (109 : Int32), (101 : Int32), (32 : Int32), (105 : Int32), (115 : Int32), (32 : Int32), (97 : Int32), (108 : Int32), (114 : Int32), (101 : Int32), (97 : Int32), (100 : Int32), (121 : Int32), (32 : Int32), (105 : Int32), (110 : Int32), (32 : Int32), (117 : Int32), (115 : Int32), (101 : Int32)]
theorem th_words {Z : State} {a0 : Array Value} (hw : ∀ d ∈ tables_1, d.before a0 Z = true) : ThW "com/example/capsa/capsa/BeanNameInUseException" a0 Z := fun d h n => hw d ((by decide +kernel : ∀ d ∈ Jvm.Free.Exc.excAtoms "com/example/capsa/capsa/BeanNameInUseException", d ≠ lackW → d ∈ tables_1) d h n)
abbrev KnownL : List Frame → State → Prop := fun _ s => Jvm.D.framesKnown s = true ∧ Jvm.D.tablesKnown s = true
theorem mod3b (x : Int32) : (x &&& (255 : Int32)) % (3 : Int32) = 0 ∨ (x &&& (255 : Int32)) % (3 : Int32) = 1 ∨ (x &&& (255 : Int32)) % (3 : Int32) = 2 := by
  have h := c_and x 255 (by decide)
  have q := (c_irem (x &&& 255) 3 3 (by decide)).1 h.1
  have e : ∀ k : Int32, ((x &&& 255) % 3).toInt = k.toInt → (x &&& 255) % 3 = k := fun k r => Int32.toInt_inj.mp r
  by_cases q0 : ((x &&& 255) % 3).toInt = 0
  · exact Or.inl (e 0 (by rw [q0]; decide))
  by_cases q1 : ((x &&& 255) % 3).toInt = 1
  · exact Or.inr (Or.inl (e 1 (by rw [q1]; decide)))
  exact Or.inr (Or.inr (e 2 (by rw [show (2 : Int32).toInt = 2 from by decide]; omega)))
theorem d1_0 : decode method_2_code 0 = .ok (.iload_n 0, 1) := by decide +kernel
theorem d1_1 : decode method_2_code 1 = .ok (.ifCond .ne 14, 3) := by decide +kernel
theorem d1_4 : decode method_2_code 4 = .ok (.new 7, 3) := by decide +kernel
theorem d1_7 : decode method_2_code 7 = .ok (.dup, 1) := by decide +kernel
theorem d1_8 : decode method_2_code 8 = .ok (.iconst 0, 1) := by decide +kernel
theorem d1_9 : decode method_2_code 9 = .ok (.newarray .char, 2) := by decide +kernel
theorem d1_11 : decode method_2_code 11 = .ok (.invokespecial 9, 3) := by decide +kernel
theorem d1_14 : decode method_2_code 14 = .ok (.areturn, 1) := by decide +kernel
theorem d1_15 : decode method_2_code 15 = .ok (.iload_n 0, 1) := by decide +kernel
theorem d1_16 : decode method_2_code 16 = .ok (.iconst 1, 1) := by decide +kernel
theorem d1_17 : decode method_2_code 17 = .ok (.if_icmp .ne 18, 3) := by decide +kernel
theorem d1_20 : decode method_2_code 20 = .ok (.new 7, 3) := by decide +kernel
theorem d1_23 : decode method_2_code 23 = .ok (.dup, 1) := by decide +kernel
theorem d1_24 : decode method_2_code 24 = .ok (.iconst 1, 1) := by decide +kernel
theorem d1_25 : decode method_2_code 25 = .ok (.newarray .char, 2) := by decide +kernel
theorem d1_27 : decode method_2_code 27 = .ok (.dup, 1) := by decide +kernel
theorem d1_28 : decode method_2_code 28 = .ok (.iconst 0, 1) := by decide +kernel
theorem d1_29 : decode method_2_code 29 = .ok (.iload_n 1, 1) := by decide +kernel
theorem d1_30 : decode method_2_code 30 = .ok (.castore, 1) := by decide +kernel
theorem d1_31 : decode method_2_code 31 = .ok (.invokespecial 9, 3) := by decide +kernel
theorem d1_34 : decode method_2_code 34 = .ok (.areturn, 1) := by decide +kernel
theorem d1_35 : decode method_2_code 35 = .ok (.new 7, 3) := by decide +kernel
theorem d1_38 : decode method_2_code 38 = .ok (.dup, 1) := by decide +kernel
theorem d1_39 : decode method_2_code 39 = .ok (.iconst 2, 1) := by decide +kernel
theorem d1_40 : decode method_2_code 40 = .ok (.newarray .char, 2) := by decide +kernel
theorem d1_42 : decode method_2_code 42 = .ok (.dup, 1) := by decide +kernel
theorem d1_43 : decode method_2_code 43 = .ok (.iconst 0, 1) := by decide +kernel
theorem d1_44 : decode method_2_code 44 = .ok (.iload_n 1, 1) := by decide +kernel
theorem d1_45 : decode method_2_code 45 = .ok (.castore, 1) := by decide +kernel
theorem d1_46 : decode method_2_code 46 = .ok (.dup, 1) := by decide +kernel
theorem d1_47 : decode method_2_code 47 = .ok (.iconst 1, 1) := by decide +kernel
theorem d1_48 : decode method_2_code 48 = .ok (.iload_n 2, 1) := by decide +kernel
theorem d1_49 : decode method_2_code 49 = .ok (.castore, 1) := by decide +kernel
theorem d1_50 : decode method_2_code 50 = .ok (.invokespecial 9, 3) := by decide +kernel
theorem d1_53 : decode method_2_code 53 = .ok (.areturn, 1) := by decide +kernel
theorem pn_7 : plainName "com/example/capsa/capsa/BeanNameInUseExceptionAliasPinLaw" = true := by first | (simp [plainName, overriddenIn]; done) | decide +kernel
set_option maxRecDepth 65536 in
set_option maxHeartbeats 40000000 in
theorem c_str0 (l : Launch) (Z : State) (a0 : Array Value) (G : Gl Z a0) (x0 y0 : Int32) (us : List Addr) (h : Heap)  :
    Ctr l Z EL nw (⟨"com/example/capsa/capsa/BeanNameInUseExceptionAliasPinLaw", "str", "(ICC)Ljava/lang/String;"⟩ : MethodName) method_2_code 3 (Option.some (Jvm.ClassFile.FieldType.object "java/lang/String")) ({ frames := 3, cells := 4, slots := 8, locals := 43 } : Room) #[.int (0 : Int32), .int (x0 &&& (255 : Int32)), .int (y0 &&& (255 : Int32))] h us (ValQ fun w h' => ∃ a, w = .ref a ∧ Ext h h' ∧ Str Z h' us a ([] : List Int32)) := by
  obtain ⟨hw, hEL, hSA, ⟨zc, SC, hz⟩, ⟨fm, SF, hfm⟩, ⟨u0, SUn⟩, ⟨sp, SP, hsp⟩⟩ := id G
  refine Ctr.enter (own := "com/example/capsa/capsa/BeanNameInUseExceptionAliasPinLaw") (nm := "str") rfl rfl hEL (plainFor_of_name pn_7) #[.val (.int (0 : Int32)), .val (.int (x0 &&& (255 : Int32))), .val (.int (y0 &&& (255 : Int32)))] (fun m => by first | rfl | (simp [entryFrame, mkF, argsToLocals, Value.category, maxLocals]; done)) ?_
  intro p e s m below meth c T X
  refine g_iloadN X d1_0 rfl 1 rfl ?_
  refine g_ifNo X d1_1 (XT.ii_ne_f (by decide)) 4 rfl ?_
  refine g_new X (hw _ (List.mem_of_getElem? (i := 4) rfl)) (hw _ (List.mem_of_getElem? (i := 5) rfl)) (hw _ (List.mem_of_getElem? (i := 6) rfl)) d1_4 (ck := 1) rfl (cs := 4) rfl (by decide) (by decide) 7 rfl ?_
  intro a1 T2 h3 ea4 X5 E6 A7 D8
  have le_a1 : h.size ≤ a1 := by rw [ea4]; exact (Ext.refl h).1
  have F9 : Fld Z h3 a1 "java/lang/String" "value" "[B" (.null) := D8 (Or.inr (hw _ (List.mem_of_getElem? (i := 20) rfl))) (ty := (.array .byte)) (by decide +kernel)
  have F10 : Fld Z h3 a1 "java/lang/String" "coder" "B" (.int (0 : Int32)) := D8 (Or.inr (hw _ (List.mem_of_getElem? (i := 21) rfl))) (ty := .byte) (by decide +kernel)
  refine g_dup X5 d1_7 rfl 8 rfl ?_
  refine g_iconst X5 (0 : Int32) d1_8 (by decide) 9 rfl ?_
  refine g_newP X5 (hw _ (List.mem_of_getElem? (i := 7) rfl)) d1_9 (by decide) 0 (by decide) (by decide) (ck := 2) rfl (cs := 4) rfl (by decide) (by decide) 11 rfl ?_
  intro a11 T12 h13 kc14 ea15 X16 E17 A18
  have A19 : Arv Z h13 a11 kc14 .char (0 : Int32) [] (.int (0 : Int32)) := A18.pad (fun i => by rcases i with _ | _ | _ | _ | _ | i <;> rfl)
  have le_a11 : h.size ≤ a11 := by rw [ea15]; exact ((Ext.refl h).trans E6).1
  have ne_a1_a11 : a1 ≠ a11 := by rw [ea15]; exact Nat.ne_of_lt A7.lt
  refine g_callIn X16 rfl (hw _ (List.mem_of_getElem? (i := 8) rfl)) (hw _ (List.mem_of_getElem? (i := 9) rfl)) (hw _ (List.mem_of_getElem? (i := 6) rfl)) (hw _ (List.mem_of_getElem? (i := 10) rfl)) (by decide) (c_s3 l Z a0 G a1 a11 kc14 (us) h13 (A7.ext E17) (F9.ext E17) (F10.ext E17) (fun x hx => Nat.ne_of_lt (Nat.lt_of_lt_of_le (X.news x hx) le_a1)) A19) (fun _ hx => List.mem_cons_of_mem _ hx) (argsL := [.ref a11]) (rest := [.ref a1]) pd_13 rfl rfl rfl rfl 1 (Nat.le_of_eq rfl) (by decide) (by decide) (ck := 4) rfl (cs := 8) rfl (by decide) (by decide) d1_11 14 rfl ?_
  intro T20 h23 X21 hq22
  obtain ⟨K24, S25⟩ := hq22
  have X26 := X21.sub (us' := us) (by intro x hx; simp [hx])
  exact g_retA X26 rfl rfl rfl d1_14 (by decide) (by decide) ⟨_, rfl, ⟨a1, rfl, (ext_keep (((Ext.refl h).trans E6).trans E17) K24 (fun x hx => by cases List.mem_singleton.mp hx; exact le_a1)), S25⟩⟩
set_option maxRecDepth 65536 in
set_option maxHeartbeats 40000000 in
theorem c_str1 (l : Launch) (Z : State) (a0 : Array Value) (G : Gl Z a0) (x0 y0 : Int32) (us : List Addr) (h : Heap)  :
    Ctr l Z EL nw (⟨"com/example/capsa/capsa/BeanNameInUseExceptionAliasPinLaw", "str", "(ICC)Ljava/lang/String;"⟩ : MethodName) method_2_code 3 (Option.some (Jvm.ClassFile.FieldType.object "java/lang/String")) ({ frames := 4, cells := 3, slots := 6, locals := 66 } : Room) #[.int (1 : Int32), .int (x0 &&& (255 : Int32)), .int (y0 &&& (255 : Int32))] h us (ValQ fun w h' => ∃ a, w = .ref a ∧ Ext h h' ∧ Str Z h' us a [x0 &&& (255 : Int32)]) := by
  obtain ⟨hw, hEL, hSA, ⟨zc, SC, hz⟩, ⟨fm, SF, hfm⟩, ⟨u0, SUn⟩, ⟨sp, SP, hsp⟩⟩ := id G
  refine Ctr.enter (own := "com/example/capsa/capsa/BeanNameInUseExceptionAliasPinLaw") (nm := "str") rfl rfl hEL (plainFor_of_name pn_7) #[.val (.int (1 : Int32)), .val (.int (x0 &&& (255 : Int32))), .val (.int (y0 &&& (255 : Int32)))] (fun m => by first | rfl | (simp [entryFrame, mkF, argsToLocals, Value.category, maxLocals]; done)) ?_
  intro p e s m below meth c T X
  refine g_iloadN X d1_0 rfl 1 rfl ?_
  refine g_ifYes X d1_1 (XT.ii_ne_t (by decide)) 15 (by decide) (by decide) ?_
  refine g_iloadN X d1_15 rfl 16 rfl ?_
  refine g_iconst X (1 : Int32) d1_16 (by decide) 17 rfl ?_
  refine g_icmpNo X d1_17 (XT.ii_ne_f (by decide)) 20 rfl ?_
  refine g_new X (hw _ (List.mem_of_getElem? (i := 4) rfl)) (hw _ (List.mem_of_getElem? (i := 5) rfl)) (hw _ (List.mem_of_getElem? (i := 6) rfl)) d1_20 (ck := 1) rfl (cs := 4) rfl (by decide) (by decide) 23 rfl ?_
  intro a1 T2 h3 ea4 X5 E6 A7 D8
  have le_a1 : h.size ≤ a1 := by rw [ea4]; exact (Ext.refl h).1
  have F9 : Fld Z h3 a1 "java/lang/String" "value" "[B" (.null) := D8 (Or.inr (hw _ (List.mem_of_getElem? (i := 20) rfl))) (ty := (.array .byte)) (by decide +kernel)
  have F10 : Fld Z h3 a1 "java/lang/String" "coder" "B" (.int (0 : Int32)) := D8 (Or.inr (hw _ (List.mem_of_getElem? (i := 21) rfl))) (ty := .byte) (by decide +kernel)
  refine g_dup X5 d1_23 rfl 24 rfl ?_
  refine g_iconst X5 (1 : Int32) d1_24 (by decide) 25 rfl ?_
  refine g_newP X5 (hw _ (List.mem_of_getElem? (i := 7) rfl)) d1_25 (by decide) 1 (by decide) (by decide) (ck := 2) rfl (cs := 5) rfl (by decide) (by decide) 27 rfl ?_
  intro a11 T12 h13 kc14 ea15 X16 E17 A18
  have A19 : Arv Z h13 a11 kc14 .char (1 : Int32) [.int (0 : Int32)] (.int (0 : Int32)) := A18.pad (fun i => by rcases i with _ | _ | _ | _ | _ | i <;> rfl)
  have le_a11 : h.size ≤ a11 := by rw [ea15]; exact ((Ext.refl h).trans E6).1
  have ne_a1_a11 : a1 ≠ a11 := by rw [ea15]; exact Nat.ne_of_lt A7.lt
  refine g_dup X16 d1_27 rfl 28 rfl ?_
  refine g_iconst X16 (0 : Int32) d1_28 (by decide) 29 rfl ?_
  refine g_iloadN X16 d1_29 rfl 30 rfl ?_
  refine g_castore X16 A19 0 (by decide) (by decide) (by decide) (by simp) (x0 &&& (255 : Int32)) (nar_mask _) (by simp) d1_30 31 rfl ?_
  intro T20 h21 X22 W23 B25
  have A24 : Arv Z h21 a11 kc14 .char (1 : Int32) [.int (x0 &&& (255 : Int32))] (.int (0 : Int32)) := B25
  refine g_strNew X22 (cs := [x0 &&& (255 : Int32)]) (hw _ (List.mem_of_getElem? (i := 8) rfl)) (hw _ (List.mem_of_getElem? (i := 9) rfl)) (hw _ (List.mem_of_getElem? (i := 10) rfl)) (hwsV hw) (hw _ (List.mem_of_getElem? (i := 5) rfl)) (SC.ext X22.old) hz ((A7.ext E17).wr W23) ((F9.ext E17).other W23 (Or.inl ne_a1_a11)) ((F10.ext E17).other W23 (Or.inl ne_a1_a11)) A24 rfl 1 rfl rfl (by decide) (by decide) (by intro c hc; simp only [List.mem_cons, List.not_mem_nil, or_false] at hc; rcases hc with rfl <;> first | decide | exact and255 _) (by simp) rfl 1 (Nat.le_of_eq rfl) (by decide) (by decide) (ck := 3) rfl (cs' := 6) rfl (by decide) (by decide) d1_31 34 rfl ?_
  intro T26 h27 X28 K29 Q30
  have S31 : Str Z h27 (us) a1 [x0 &&& (255 : Int32)] := str_of Q30 X.news le_a1 (ext_wr (((Ext.refl h).trans E6).trans E17) W23 le_a11).1
  have X32 := X28.sub (us' := us) (by intro x hx; simp [hx])
  exact g_retA X32 rfl rfl rfl d1_34 (by decide) (by decide) ⟨_, rfl, ⟨a1, rfl, (ext_keep (ext_wr (((Ext.refl h).trans E6).trans E17) W23 le_a11) K29 (fun x hx => by cases List.mem_singleton.mp hx; exact le_a1)), S31⟩⟩
set_option maxRecDepth 65536 in
set_option maxHeartbeats 40000000 in
theorem c_str2 (l : Launch) (Z : State) (a0 : Array Value) (G : Gl Z a0) (x0 y0 : Int32) (us : List Addr) (h : Heap)  :
    Ctr l Z EL nw (⟨"com/example/capsa/capsa/BeanNameInUseExceptionAliasPinLaw", "str", "(ICC)Ljava/lang/String;"⟩ : MethodName) method_2_code 3 (Option.some (Jvm.ClassFile.FieldType.object "java/lang/String")) ({ frames := 4, cells := 3, slots := 8, locals := 66 } : Room) #[.int (2 : Int32), .int (x0 &&& (255 : Int32)), .int (y0 &&& (255 : Int32))] h us (ValQ fun w h' => ∃ a, w = .ref a ∧ Ext h h' ∧ Str Z h' us a [x0 &&& (255 : Int32), y0 &&& (255 : Int32)]) := by
  obtain ⟨hw, hEL, hSA, ⟨zc, SC, hz⟩, ⟨fm, SF, hfm⟩, ⟨u0, SUn⟩, ⟨sp, SP, hsp⟩⟩ := id G
  refine Ctr.enter (own := "com/example/capsa/capsa/BeanNameInUseExceptionAliasPinLaw") (nm := "str") rfl rfl hEL (plainFor_of_name pn_7) #[.val (.int (2 : Int32)), .val (.int (x0 &&& (255 : Int32))), .val (.int (y0 &&& (255 : Int32)))] (fun m => by first | rfl | (simp [entryFrame, mkF, argsToLocals, Value.category, maxLocals]; done)) ?_
  intro p e s m below meth c T X
  refine g_iloadN X d1_0 rfl 1 rfl ?_
  refine g_ifYes X d1_1 (XT.ii_ne_t (by decide)) 15 (by decide) (by decide) ?_
  refine g_iloadN X d1_15 rfl 16 rfl ?_
  refine g_iconst X (1 : Int32) d1_16 (by decide) 17 rfl ?_
  refine g_icmpYes X d1_17 (XT.ii_ne_t (by decide)) 35 (by decide) (by decide) ?_
  refine g_new X (hw _ (List.mem_of_getElem? (i := 4) rfl)) (hw _ (List.mem_of_getElem? (i := 5) rfl)) (hw _ (List.mem_of_getElem? (i := 6) rfl)) d1_35 (ck := 1) rfl (cs := 4) rfl (by decide) (by decide) 38 rfl ?_
  intro a1 T2 h3 ea4 X5 E6 A7 D8
  have le_a1 : h.size ≤ a1 := by rw [ea4]; exact (Ext.refl h).1
  have F9 : Fld Z h3 a1 "java/lang/String" "value" "[B" (.null) := D8 (Or.inr (hw _ (List.mem_of_getElem? (i := 20) rfl))) (ty := (.array .byte)) (by decide +kernel)
  have F10 : Fld Z h3 a1 "java/lang/String" "coder" "B" (.int (0 : Int32)) := D8 (Or.inr (hw _ (List.mem_of_getElem? (i := 21) rfl))) (ty := .byte) (by decide +kernel)
  refine g_dup X5 d1_38 rfl 39 rfl ?_
  refine g_iconst X5 (2 : Int32) d1_39 (by decide) 40 rfl ?_
  refine g_newP X5 (hw _ (List.mem_of_getElem? (i := 7) rfl)) d1_40 (by decide) 2 (by decide) (by decide) (ck := 2) rfl (cs := 6) rfl (by decide) (by decide) 42 rfl ?_
  intro a11 T12 h13 kc14 ea15 X16 E17 A18
  have A19 : Arv Z h13 a11 kc14 .char (2 : Int32) [.int (0 : Int32), .int (0 : Int32)] (.int (0 : Int32)) := A18.pad (fun i => by rcases i with _ | _ | _ | _ | _ | i <;> rfl)
  have le_a11 : h.size ≤ a11 := by rw [ea15]; exact ((Ext.refl h).trans E6).1
  have ne_a1_a11 : a1 ≠ a11 := by rw [ea15]; exact Nat.ne_of_lt A7.lt
  refine g_dup X16 d1_42 rfl 43 rfl ?_
  refine g_iconst X16 (0 : Int32) d1_43 (by decide) 44 rfl ?_
  refine g_iloadN X16 d1_44 rfl 45 rfl ?_
  refine g_castore X16 A19 0 (by decide) (by decide) (by decide) (by simp) (x0 &&& (255 : Int32)) (nar_mask _) (by simp) d1_45 46 rfl ?_
  intro T20 h21 X22 W23 B25
  have A24 : Arv Z h21 a11 kc14 .char (2 : Int32) [.int (x0 &&& (255 : Int32)), .int (0 : Int32)] (.int (0 : Int32)) := B25
  refine g_dup X22 d1_46 rfl 47 rfl ?_
  refine g_iconst X22 (1 : Int32) d1_47 (by decide) 48 rfl ?_
  refine g_iloadN X22 d1_48 rfl 49 rfl ?_
  refine g_castore X22 A24 1 (by decide) (by decide) (by decide) (by simp) (y0 &&& (255 : Int32)) (nar_mask _) (by simp) d1_49 50 rfl ?_
  intro T26 h27 X28 W29 B31
  have A30 : Arv Z h27 a11 kc14 .char (2 : Int32) [.int (x0 &&& (255 : Int32)), .int (y0 &&& (255 : Int32))] (.int (0 : Int32)) := B31
  refine g_strNew X28 (cs := [x0 &&& (255 : Int32), y0 &&& (255 : Int32)]) (hw _ (List.mem_of_getElem? (i := 8) rfl)) (hw _ (List.mem_of_getElem? (i := 9) rfl)) (hw _ (List.mem_of_getElem? (i := 10) rfl)) (hwsV hw) (hw _ (List.mem_of_getElem? (i := 5) rfl)) (SC.ext X28.old) hz (((A7.ext E17).wr W23).wr W29) (((F9.ext E17).other W23 (Or.inl ne_a1_a11)).other W29 (Or.inl ne_a1_a11)) (((F10.ext E17).other W23 (Or.inl ne_a1_a11)).other W29 (Or.inl ne_a1_a11)) A30 rfl 2 rfl rfl (by decide) (by decide) (by intro c hc; simp only [List.mem_cons, List.not_mem_nil, or_false] at hc; rcases hc with rfl | rfl <;> first | decide | exact and255 _) (by simp) rfl 1 (Nat.le_of_eq rfl) (by decide) (by decide) (ck := 3) rfl (cs' := 8) rfl (by decide) (by decide) d1_50 53 rfl ?_
  intro T32 h33 X34 K35 Q36
  have S37 : Str Z h33 (us) a1 [x0 &&& (255 : Int32), y0 &&& (255 : Int32)] := str_of Q36 X.news le_a1 (ext_wr (ext_wr (((Ext.refl h).trans E6).trans E17) W23 le_a11) W29 le_a11).1
  have X38 := X34.sub (us' := us) (by intro x hx; simp [hx])
  exact g_retA X38 rfl rfl rfl d1_53 (by decide) (by decide) ⟨_, rfl, ⟨a1, rfl, (ext_keep (ext_wr (ext_wr (((Ext.refl h).trans E6).trans E17) W23 le_a11) W29 le_a11) K35 (fun x hx => by cases List.mem_singleton.mp hx; exact le_a1)), S37⟩⟩
theorem d40_0 : decode method_3_code 0 = .ok (.iload_n 1, 1) := by decide +kernel
theorem d40_1 : decode method_3_code 1 = .ok (.ifCond .lt 24, 3) := by decide +kernel
theorem d40_4 : decode method_3_code 4 = .ok (.iload_n 1, 1) := by decide +kernel
theorem d40_5 : decode method_3_code 5 = .ok (.aload_n 0, 1) := by decide +kernel
theorem d40_6 : decode method_3_code 6 = .ok (.invokevirtual 12, 3) := by decide +kernel
theorem d40_9 : decode method_3_code 9 = .ok (.if_icmp .ge 16, 3) := by decide +kernel
theorem d40_12 : decode method_3_code 12 = .ok (.aload_n 0, 1) := by decide +kernel
theorem d40_13 : decode method_3_code 13 = .ok (.iload_n 1, 1) := by decide +kernel
theorem d40_14 : decode method_3_code 14 = .ok (.invokevirtual 16, 3) := by decide +kernel
theorem d40_17 : decode method_3_code 17 = .ok (.iload_n 2, 1) := by decide +kernel
theorem d40_18 : decode method_3_code 18 = .ok (.if_icmp .ne 7, 3) := by decide +kernel
theorem d40_21 : decode method_3_code 21 = .ok (.iconst 1, 1) := by decide +kernel
theorem d40_22 : decode method_3_code 22 = .ok (.goto 4, 3) := by decide +kernel
theorem d40_25 : decode method_3_code 25 = .ok (.iconst 0, 1) := by decide +kernel
theorem d40_26 : decode method_3_code 26 = .ok (.ireturn, 1) := by decide +kernel
set_option maxRecDepth 65536 in
set_option maxHeartbeats 40000000 in
theorem c_at (l : Launch) (Z : State) (a0 : Array Value) (G : Gl Z a0) (a t : Addr) (kb : ClassId) (cs : List Int32) (i : Nat) (c0 : Int32) (h : Heap) (E : Exa Z h a "java/lang/String") (C : Fld Z h a "java/lang/String" "coder" "B" (.int (0 : Int32))) (V : Fld Z h a "java/lang/String" "value" "[B" (.ref t)) (A : Arv Z h t kb .byte (Int32.ofNat cs.length) (bys cs) (.int (0 : Int32))) (hcs : ∀ c ∈ cs, ¬ c < 0 ∧ ¬ (255 : Int32) < c) (hlen : cs.length ≤ 4000) (hi : i < cs.length) (hc : cs.getD i 0 = c0) :
    Ctr l Z EL nw (⟨"com/example/capsa/capsa/BeanNameInUseExceptionAliasPinLaw", "at", "(Ljava/lang/String;IC)Z"⟩ : MethodName) method_3_code 3 (Option.some Jvm.ClassFile.FieldType.boolean) ({ frames := 4, cells := 0, slots := 0, locals := 53 } : Room) #[.ref a, .int (Int32.ofNat i), .int c0] h [] (PureQ h fun w => w = .int (1 : Int32)) := by
  obtain ⟨hw, hEL, hSA, ⟨zc, SC, hz⟩, ⟨fm, SF, hfm⟩, ⟨u0, SUn⟩, ⟨sp, SP, hsp⟩⟩ := id G
  refine Ctr.enter (own := "com/example/capsa/capsa/BeanNameInUseExceptionAliasPinLaw") (nm := "at") rfl rfl hEL (plainFor_of_name pn_7) #[.val (.ref a), .val (.int (Int32.ofNat i)), .val (.int c0)] (fun m => by first | rfl | (simp [entryFrame, mkF, argsToLocals, Value.category, maxLocals]; done)) ?_
  intro p e s m below meth c T X
  refine g_iloadN X d40_0 rfl 1 rfl ?_
  refine g_ifNo X d40_1 (XT.ii_lt_f (of_nn (by omega))) 4 rfl ?_
  refine g_iloadN X d40_4 rfl 5 rfl ?_
  refine g_aloadN X d40_5 rfl rfl 6 rfl ?_
  refine g_callVp X (hw _ (List.mem_of_getElem? (i := 231) rfl)) (hw _ (List.mem_of_getElem? (i := 62) rfl)) (hw _ (List.mem_of_getElem? (i := 64) rfl)) (hw _ (List.mem_of_getElem? (i := 63) rfl)) (hw _ (List.mem_of_getElem? (i := 6) rfl)) (hw _ (List.mem_of_getElem? (i := 65) rfl)) (nfSel (hw _ (List.mem_of_getElem? (i := 64) rfl))) (by decide) E (c_len l Z a0 G a t kb cs h E C V A hcs hlen) (by simp) (argsL := []) (rest := [.int (Int32.ofNat i)]) pd_5 rfl rfl rfl rfl 1 (Nat.le_of_eq rfl) (by decide) (by decide) (ck := 0) rfl (cs := 0) rfl (by decide) (by decide) d40_6 9 rfl ?_
  intro w3 T1 X2 hq4
  subst hq4
  refine g_icmpNo X2 d40_9 (XT.ii_ge_f (of_lt hi hlen)) 12 rfl ?_
  refine g_aloadN X2 d40_12 rfl rfl 13 rfl ?_
  refine g_iloadN X2 d40_13 rfl 14 rfl ?_
  refine g_callVp X2 (hw _ (List.mem_of_getElem? (i := 246) rfl)) (hw _ (List.mem_of_getElem? (i := 247) rfl)) (hw _ (List.mem_of_getElem? (i := 249) rfl)) (hw _ (List.mem_of_getElem? (i := 248) rfl)) (hw _ (List.mem_of_getElem? (i := 6) rfl)) (hw _ (List.mem_of_getElem? (i := 250) rfl)) (nfSel (hw _ (List.mem_of_getElem? (i := 249) rfl))) (by decide) E (c_cha l Z a0 G a t kb cs i h E C V A hcs hlen hi) (by simp) (argsL := [.int (Int32.ofNat i)]) (rest := []) pd_8 rfl rfl rfl rfl 0 (Nat.le_of_eq rfl) (by decide) (by decide) (ck := 0) rfl (cs := 0) rfl (by decide) (by decide) d40_14 17 rfl ?_
  intro w7 T5 X6 hq8
  subst hq8
  refine g_iloadN X6 d40_17 rfl 18 rfl ?_
  refine g_icmpNo X6 d40_18 (XT.ii_ne_f hc) 21 rfl ?_
  refine g_iconst X6 (1 : Int32) d40_21 (by decide) 22 rfl ?_
  refine g_goto X6 d40_22 26 (by decide) (by decide) ?_
  exact g_retN X6 (t := .boolean) rfl (by simp) d40_26 _ rfl (by decide) (by decide) ⟨rfl, _, rfl, rfl⟩
theorem d37_0 : decode jdk_78_method_6_code 0 = .ok (.aload_n 0, 1) := by decide +kernel
theorem d37_1 : decode jdk_78_method_6_code 1 = .ok (.getfield 31, 3) := by decide +kernel
theorem d37_4 : decode jdk_78_method_6_code 4 = .ok (.areturn, 1) := by decide +kernel
theorem pn_8 : plainName "java/lang/Throwable" = true := by first | (simp [plainName, overriddenIn]; done) | decide +kernel
set_option maxRecDepth 65536 in
set_option maxHeartbeats 40000000 in
theorem c_gm (l : Launch) (Z : State) (a0 : Array Value) (G : Gl Z a0) (j r : Addr) (h : Heap) (F : Fld Z h j "java/lang/Throwable" "detailMessage" "Ljava/lang/String;" (.ref r)) :
    Ctr l Z EL nw (⟨"java/lang/Throwable", "getMessage", "()Ljava/lang/String;"⟩ : MethodName) jdk_78_method_6_code 1 (Option.some (Jvm.ClassFile.FieldType.object "java/lang/String")) ({ frames := 0, cells := 0, slots := 0, locals := 0 } : Room) #[.ref j] h [] (PureQ h fun w => w = .ref r) := by
  obtain ⟨hw, hEL, hSA, ⟨zc, SC, hz⟩, ⟨fm, SF, hfm⟩, ⟨u0, SUn⟩, ⟨sp, SP, hsp⟩⟩ := id G
  refine Ctr.enter (own := "java/lang/Throwable") (nm := "getMessage") rfl rfl hEL (plainFor_of_name pn_8) #[.val (.ref j)] (fun m => by first | rfl | (simp [entryFrame, mkF, argsToLocals, Value.category, maxLocals]; done)) ?_
  intro p e s m below meth c T X
  refine g_aloadN X d37_0 rfl rfl 1 rfl ?_
  refine g_getF X (Or.inl (hw _ (List.mem_of_getElem? (i := 224) rfl))) (host := "") Via.refl F d37_1 4 rfl ?_
  intro T1 X2
  exact g_retA X2 rfl rfl rfl d37_4 (by decide) (by decide) ⟨rfl, _, rfl, rfl⟩
theorem d35_0 : decode jdk_78_method_2_code 0 = .ok (.aload_n 0, 1) := by decide +kernel
theorem d35_1 : decode jdk_78_method_2_code 1 = .ok (.invokespecial 1, 3) := by decide +kernel
theorem d35_4 : decode jdk_78_method_2_code 4 = .ok (.aload_n 0, 1) := by decide +kernel
theorem d35_5 : decode jdk_78_method_2_code 5 = .ok (.aload_n 0, 1) := by decide +kernel
theorem d35_6 : decode jdk_78_method_2_code 6 = .ok (.putfield 7, 3) := by decide +kernel
theorem d35_9 : decode jdk_78_method_2_code 9 = .ok (.aload_n 0, 1) := by decide +kernel
theorem d35_10 : decode jdk_78_method_2_code 10 = .ok (.getstatic 13, 3) := by decide +kernel
theorem d35_13 : decode jdk_78_method_2_code 13 = .ok (.putfield 17, 3) := by decide +kernel
theorem d35_16 : decode jdk_78_method_2_code 16 = .ok (.aload_n 0, 1) := by decide +kernel
theorem d35_17 : decode jdk_78_method_2_code 17 = .ok (.getstatic 20, 3) := by decide +kernel
theorem d35_20 : decode jdk_78_method_2_code 20 = .ok (.putfield 24, 3) := by decide +kernel
theorem d35_23 : decode jdk_78_method_2_code 23 = .ok (.aload_n 0, 1) := by decide +kernel
theorem d35_24 : decode jdk_78_method_2_code 24 = .ok (.invokevirtual 27, 3) := by decide +kernel
theorem d35_27 : decode jdk_78_method_2_code 27 = .ok (.pop, 1) := by decide +kernel
theorem d35_28 : decode jdk_78_method_2_code 28 = .ok (.aload_n 0, 1) := by decide +kernel
theorem d35_29 : decode jdk_78_method_2_code 29 = .ok (.aload_n 1, 1) := by decide +kernel
theorem d35_30 : decode jdk_78_method_2_code 30 = .ok (.putfield 31, 3) := by decide +kernel
theorem d35_33 : decode jdk_78_method_2_code 33 = .ok (.return_, 1) := by decide +kernel
set_option maxRecDepth 65536 in
set_option maxHeartbeats 40000000 in
theorem c_thr (l : Launch) (Z : State) (a0 : Array Value) (G : Gl Z a0) (hst : l.stackTraces = true) (j r : Addr) (h : Heap) (E : Exa Z h j "com/example/capsa/capsa/BeanNameInUseException") (N : Unt h j) (Fb : Fld Z h j "java/lang/Throwable" "backtrace" "Ljava/lang/Object;" .null) (Fc : Fld Z h j "java/lang/Throwable" "cause" "Ljava/lang/Throwable;" .null) (Fs : Fld Z h j "java/lang/Throwable" "stackTrace" "[Ljava/lang/StackTraceElement;" .null) (Fp : Fld Z h j "java/lang/Throwable" "suppressedExceptions" "Ljava/util/List;" .null) (Fm : Fld Z h j "java/lang/Throwable" "detailMessage" "Ljava/lang/String;" .null) :
    CtrK KnownK l Z EL nw (⟨"java/lang/Throwable", "<init>", "(Ljava/lang/String;)V"⟩ : MethodName) jdk_78_method_2_code 2 (Option.none : Option Jvm.ClassFile.FieldType) ({ frames := 3, cells := 1, slots := 2752, locals := 42 } : Room) #[.ref j, .ref r] h [j] (VoidQ fun h' => Keep h h' [j] ∧ Exa Z h' j "com/example/capsa/capsa/BeanNameInUseException" ∧ Fld Z h' j "java/lang/Throwable" "detailMessage" "Ljava/lang/String;" (.ref r)) := by
  obtain ⟨hw, hEL, hSA, ⟨zc, SC, hz⟩, ⟨fm, SF, hfm⟩, ⟨u0, SUn⟩, ⟨sp, SP, hsp⟩⟩ := id G
  refine CtrK.enter (K := KnownK) (own := "java/lang/Throwable") (nm := "<init>") rfl rfl hEL (plainFor_of_name pn_8) #[.val (.ref j), .val (.ref r)] (fun m => by first | rfl | (simp [entryFrame, mkF, argsToLocals, Value.category, maxLocals]; done)) ?_
  intro p e s m below meth c T hfr hkn hZs X
  refine g_aloadN X d35_0 rfl rfl 1 rfl ?_
  refine g_initO X (hw _ (List.mem_of_getElem? (i := 188) rfl)) (hw _ (List.mem_of_getElem? (i := 16) rfl)) (hw _ (List.mem_of_getElem? (i := 17) rfl)) rfl d35_1 (by decide) 0 (Nat.le_of_eq rfl) (by decide) 4 rfl ?_
  intro T1 X2
  refine g_aloadN X2 d35_4 rfl rfl 5 rfl ?_
  refine g_aloadN X2 d35_5 rfl rfl 6 rfl ?_
  refine g_putF X2 (Or.inl (hw _ (List.mem_of_getElem? (i := 189) rfl))) (host := "") Via.refl Fc E (Or.inl (hw _ (List.mem_of_getElem? (i := 190) rfl))) (hw _ (List.mem_of_getElem? (i := 31) rfl)) (ty := (.object "java/lang/Throwable")) (by decide +kernel) rfl rfl (by simp) d35_6 9 rfl ?_
  intro T3 h4 X5 W6 F7 E8
  refine g_aloadN X5 d35_9 rfl rfl 10 rfl ?_
  refine g_getS X5 (Or.inl (hw _ (List.mem_of_getElem? (i := 191) rfl))) (host := "") Via.refl (SUn.ext X5.old) d35_10 13 rfl ?_
  intro T9 X10
  refine g_putF X10 (Or.inl (hw _ (List.mem_of_getElem? (i := 192) rfl))) (host := "") Via.refl (Fs.other W6 (Or.inr (slot_ne (t := (.array (.object "java/lang/StackTraceElement"))) (t' := (.object "java/lang/Throwable")) (Or.inl (hw _ (List.mem_of_getElem? (i := 193) rfl))) (Or.inl (hw _ (List.mem_of_getElem? (i := 190) rfl))) (by decide) (by decide +kernel) (by decide +kernel)))) E8 (Or.inl (hw _ (List.mem_of_getElem? (i := 193) rfl))) (hw _ (List.mem_of_getElem? (i := 31) rfl)) (ty := (.array (.object "java/lang/StackTraceElement"))) (by decide +kernel) rfl rfl (by simp) d35_13 16 rfl ?_
  intro T11 h12 X13 W14 F15 E16
  refine g_aloadN X13 d35_16 rfl rfl 17 rfl ?_
  refine g_getS X13 (Or.inl (hw _ (List.mem_of_getElem? (i := 194) rfl))) (host := "") Via.refl (SP.ext X13.old) d35_17 20 rfl ?_
  intro T17 X18
  refine g_putF X18 (Or.inl (hw _ (List.mem_of_getElem? (i := 195) rfl))) (host := "") Via.refl ((Fp.other W6 (Or.inr (slot_ne (t := (.object "java/util/List")) (t' := (.object "java/lang/Throwable")) (Or.inl (hw _ (List.mem_of_getElem? (i := 196) rfl))) (Or.inl (hw _ (List.mem_of_getElem? (i := 190) rfl))) (by decide) (by decide +kernel) (by decide +kernel)))).other W14 (Or.inr (slot_ne (t := (.object "java/util/List")) (t' := (.array (.object "java/lang/StackTraceElement"))) (Or.inl (hw _ (List.mem_of_getElem? (i := 196) rfl))) (Or.inl (hw _ (List.mem_of_getElem? (i := 193) rfl))) (by decide) (by decide +kernel) (by decide +kernel)))) E16 (Or.inl (hw _ (List.mem_of_getElem? (i := 196) rfl))) (hw _ (List.mem_of_getElem? (i := 31) rfl)) (ty := (.object "java/util/List")) (by decide +kernel) (ref_nar hsp rfl) (ref_fit hsp rfl) (by simp) d35_20 23 rfl ?_
  intro T19 h20 X21 W22 F23 E24
  refine g_aloadN X21 d35_23 rfl rfl 24 rfl ?_
  refine g_fill X21 rfl hkn hst hZs (rc := "com/example/capsa/capsa/BeanNameInUseException") (by decide) (th_words hw) (hw _ (List.mem_of_getElem? (i := 31) rfl)) E24 (((N.wr W6).wr W14).wr W22) (((Fb.other W6 (Or.inr (slot_ne (t := (.object "java/lang/Object")) (t' := (.object "java/lang/Throwable")) (Or.inl (hw _ (List.mem_of_getElem? (i := 221) rfl))) (Or.inl (hw _ (List.mem_of_getElem? (i := 190) rfl))) (by decide) (by decide +kernel) (by decide +kernel)))).other W14 (Or.inr (slot_ne (t := (.object "java/lang/Object")) (t' := (.array (.object "java/lang/StackTraceElement"))) (Or.inl (hw _ (List.mem_of_getElem? (i := 221) rfl))) (Or.inl (hw _ (List.mem_of_getElem? (i := 193) rfl))) (by decide) (by decide +kernel) (by decide +kernel)))).other W22 (Or.inr (slot_ne (t := (.object "java/lang/Object")) (t' := (.object "java/util/List")) (Or.inl (hw _ (List.mem_of_getElem? (i := 221) rfl))) (Or.inl (hw _ (List.mem_of_getElem? (i := 196) rfl))) (by decide) (by decide +kernel) (by decide +kernel)))) (F15.other W22 (Or.inr (slot_ne (t := (.array (.object "java/lang/StackTraceElement"))) (t' := (.object "java/util/List")) (Or.inl (hw _ (List.mem_of_getElem? (i := 193) rfl))) (Or.inl (hw _ (List.mem_of_getElem? (i := 196) rfl))) (by decide) (by decide +kernel) (by decide +kernel)))) (SUn.ext X21.old) (by simp) rfl d35_24 (by decide) 0 (Nat.le_of_eq rfl) (by decide) (ck := 1) rfl (cs := 2752) rfl (by decide) (by decide) 27 rfl ?_
  intro T25 h26 w27 X28 K29 E30 F31
  refine g_pop X28 d35_27 rfl 28 rfl ?_
  refine g_aloadN X28 d35_28 rfl rfl 29 rfl ?_
  refine g_aloadN X28 d35_29 rfl rfl 30 rfl ?_
  refine g_putF X28 (Or.inl (hw _ (List.mem_of_getElem? (i := 224) rfl))) (host := "") Via.refl F31 E30 (Or.inl (hw _ (List.mem_of_getElem? (i := 220) rfl))) (hw _ (List.mem_of_getElem? (i := 31) rfl)) (ty := (.object "java/lang/String")) (by decide +kernel) rfl rfl (by simp) d35_30 33 rfl ?_
  intro T32 h33 X34 W35 F36 E37
  exact g_ret X34 rfl d35_33 (by decide) (by decide) ⟨rfl, ⟨((((((Keep.refl h [j]).wr W6 (Or.inl (by simp))).wr W14 (Or.inl (by simp))).wr W22 (Or.inl (by simp))).trans K29 (fun x hx => Or.inl hx)).wr W35 (Or.inl (by simp))), E37, F36⟩⟩
theorem d34_0 : decode jdk_59_method_2_code 0 = .ok (.aload_n 0, 1) := by decide +kernel
theorem d34_1 : decode jdk_59_method_2_code 1 = .ok (.aload_n 1, 1) := by decide +kernel
theorem d34_2 : decode jdk_59_method_2_code 2 = .ok (.invokespecial 7, 3) := by decide +kernel
theorem d34_5 : decode jdk_59_method_2_code 5 = .ok (.return_, 1) := by decide +kernel
theorem pn_9 : plainName "java/lang/Exception" = true := by first | (simp [plainName, overriddenIn]; done) | decide +kernel
set_option maxRecDepth 65536 in
set_option maxHeartbeats 40000000 in
theorem c_exc (l : Launch) (Z : State) (a0 : Array Value) (G : Gl Z a0) (hst : l.stackTraces = true) (j r : Addr) (h : Heap) (E : Exa Z h j "com/example/capsa/capsa/BeanNameInUseException") (N : Unt h j) (Fb : Fld Z h j "java/lang/Throwable" "backtrace" "Ljava/lang/Object;" .null) (Fc : Fld Z h j "java/lang/Throwable" "cause" "Ljava/lang/Throwable;" .null) (Fs : Fld Z h j "java/lang/Throwable" "stackTrace" "[Ljava/lang/StackTraceElement;" .null) (Fp : Fld Z h j "java/lang/Throwable" "suppressedExceptions" "Ljava/util/List;" .null) (Fm : Fld Z h j "java/lang/Throwable" "detailMessage" "Ljava/lang/String;" .null) :
    CtrK KnownK l Z EL nw (⟨"java/lang/Exception", "<init>", "(Ljava/lang/String;)V"⟩ : MethodName) jdk_59_method_2_code 2 (Option.none : Option Jvm.ClassFile.FieldType) ({ frames := 4, cells := 1, slots := 2752, locals := 55 } : Room) #[.ref j, .ref r] h [j] (VoidQ fun h' => Keep h h' [j] ∧ Exa Z h' j "com/example/capsa/capsa/BeanNameInUseException" ∧ Fld Z h' j "java/lang/Throwable" "detailMessage" "Ljava/lang/String;" (.ref r)) := by
  obtain ⟨hw, hEL, hSA, ⟨zc, SC, hz⟩, ⟨fm, SF, hfm⟩, ⟨u0, SUn⟩, ⟨sp, SP, hsp⟩⟩ := id G
  refine CtrK.enter (K := KnownK) (own := "java/lang/Exception") (nm := "<init>") rfl rfl hEL (plainFor_of_name pn_9) #[.val (.ref j), .val (.ref r)] (fun m => by first | rfl | (simp [entryFrame, mkF, argsToLocals, Value.category, maxLocals]; done)) ?_
  intro p e s m below meth c T hfr hkn hZs X
  refine g_aloadN X d34_0 rfl rfl 1 rfl ?_
  refine g_aloadN X d34_1 rfl rfl 2 rfl ?_
  refine g_callIK X hkn rfl (hw _ (List.mem_of_getElem? (i := 182) rfl)) (hw _ (List.mem_of_getElem? (i := 183) rfl)) (hw _ (List.mem_of_getElem? (i := 186) rfl)) (hw _ (List.mem_of_getElem? (i := 187) rfl)) (by decide) (c_thr l Z a0 G hst j r h E N Fb Fc Fs Fp Fm) (by simp) (a := j) (argsL := [.ref r]) (rest := []) pd_2 rfl rfl rfl rfl 0 (Nat.le_of_eq rfl) (by decide) (by decide) (ck := 1) rfl (cs := 2752) rfl (by decide) (by decide) d34_2 5 rfl ?_
  intro T1 h2 X3 hq4
  obtain ⟨K5, E6, F7⟩ := hq4
  exact g_ret X3 rfl d34_5 (by decide) (by decide) ⟨rfl, ⟨K5, E6, F7⟩⟩
theorem d33_0 : decode jdk_58_method_2_code 0 = .ok (.aload_n 0, 1) := by decide +kernel
theorem d33_1 : decode jdk_58_method_2_code 1 = .ok (.aload_n 1, 1) := by decide +kernel
theorem d33_2 : decode jdk_58_method_2_code 2 = .ok (.invokespecial 7, 3) := by decide +kernel
theorem d33_5 : decode jdk_58_method_2_code 5 = .ok (.return_, 1) := by decide +kernel
theorem pn_10 : plainName "java/lang/RuntimeException" = true := by first | (simp [plainName, overriddenIn]; done) | decide +kernel
set_option maxRecDepth 65536 in
set_option maxHeartbeats 40000000 in
theorem c_rte (l : Launch) (Z : State) (a0 : Array Value) (G : Gl Z a0) (hst : l.stackTraces = true) (j r : Addr) (h : Heap) (E : Exa Z h j "com/example/capsa/capsa/BeanNameInUseException") (N : Unt h j) (Fb : Fld Z h j "java/lang/Throwable" "backtrace" "Ljava/lang/Object;" .null) (Fc : Fld Z h j "java/lang/Throwable" "cause" "Ljava/lang/Throwable;" .null) (Fs : Fld Z h j "java/lang/Throwable" "stackTrace" "[Ljava/lang/StackTraceElement;" .null) (Fp : Fld Z h j "java/lang/Throwable" "suppressedExceptions" "Ljava/util/List;" .null) (Fm : Fld Z h j "java/lang/Throwable" "detailMessage" "Ljava/lang/String;" .null) :
    CtrK KnownK l Z EL nw (⟨"java/lang/RuntimeException", "<init>", "(Ljava/lang/String;)V"⟩ : MethodName) jdk_58_method_2_code 2 (Option.none : Option Jvm.ClassFile.FieldType) ({ frames := 5, cells := 1, slots := 2752, locals := 68 } : Room) #[.ref j, .ref r] h [j] (VoidQ fun h' => Keep h h' [j] ∧ Exa Z h' j "com/example/capsa/capsa/BeanNameInUseException" ∧ Fld Z h' j "java/lang/Throwable" "detailMessage" "Ljava/lang/String;" (.ref r)) := by
  obtain ⟨hw, hEL, hSA, ⟨zc, SC, hz⟩, ⟨fm, SF, hfm⟩, ⟨u0, SUn⟩, ⟨sp, SP, hsp⟩⟩ := id G
  refine CtrK.enter (K := KnownK) (own := "java/lang/RuntimeException") (nm := "<init>") rfl rfl hEL (plainFor_of_name pn_10) #[.val (.ref j), .val (.ref r)] (fun m => by first | rfl | (simp [entryFrame, mkF, argsToLocals, Value.category, maxLocals]; done)) ?_
  intro p e s m below meth c T hfr hkn hZs X
  refine g_aloadN X d33_0 rfl rfl 1 rfl ?_
  refine g_aloadN X d33_1 rfl rfl 2 rfl ?_
  refine g_callIK X hkn rfl (hw _ (List.mem_of_getElem? (i := 176) rfl)) (hw _ (List.mem_of_getElem? (i := 177) rfl)) (hw _ (List.mem_of_getElem? (i := 180) rfl)) (hw _ (List.mem_of_getElem? (i := 181) rfl)) (by decide) (c_exc l Z a0 G hst j r h E N Fb Fc Fs Fp Fm) (by simp) (a := j) (argsL := [.ref r]) (rest := []) pd_2 rfl rfl rfl rfl 0 (Nat.le_of_eq rfl) (by decide) (by decide) (ck := 1) rfl (cs := 2752) rfl (by decide) (by decide) d33_2 5 rfl ?_
  intro T1 h2 X3 hq4
  obtain ⟨K5, E6, F7⟩ := hq4
  exact g_ret X3 rfl d33_5 (by decide) (by decide) ⟨rfl, ⟨K5, E6, F7⟩⟩
theorem d32_0 : decode prog_7_method_1_code 0 = .ok (.aload_n 0, 1) := by decide +kernel
theorem d32_1 : decode prog_7_method_1_code 1 = .ok (.aload_n 1, 1) := by decide +kernel
theorem d32_2 : decode prog_7_method_1_code 2 = .ok (.invokespecial 1, 3) := by decide +kernel
theorem d32_5 : decode prog_7_method_1_code 5 = .ok (.return_, 1) := by decide +kernel
theorem pn_11 : plainName "com/example/capsa/capsa/CapsaException" = true := by first | (simp [plainName, overriddenIn]; done) | decide +kernel
set_option maxRecDepth 65536 in
set_option maxHeartbeats 40000000 in
theorem c_cap (l : Launch) (Z : State) (a0 : Array Value) (G : Gl Z a0) (hst : l.stackTraces = true) (j r : Addr) (h : Heap) (E : Exa Z h j "com/example/capsa/capsa/BeanNameInUseException") (N : Unt h j) (Fb : Fld Z h j "java/lang/Throwable" "backtrace" "Ljava/lang/Object;" .null) (Fc : Fld Z h j "java/lang/Throwable" "cause" "Ljava/lang/Throwable;" .null) (Fs : Fld Z h j "java/lang/Throwable" "stackTrace" "[Ljava/lang/StackTraceElement;" .null) (Fp : Fld Z h j "java/lang/Throwable" "suppressedExceptions" "Ljava/util/List;" .null) (Fm : Fld Z h j "java/lang/Throwable" "detailMessage" "Ljava/lang/String;" .null) :
    CtrK KnownK l Z EL nw (⟨"com/example/capsa/capsa/CapsaException", "<init>", "(Ljava/lang/String;)V"⟩ : MethodName) prog_7_method_1_code 2 (Option.none : Option Jvm.ClassFile.FieldType) ({ frames := 6, cells := 1, slots := 2752, locals := 81 } : Room) #[.ref j, .ref r] h [j] (VoidQ fun h' => Keep h h' [j] ∧ Exa Z h' j "com/example/capsa/capsa/BeanNameInUseException" ∧ Fld Z h' j "java/lang/Throwable" "detailMessage" "Ljava/lang/String;" (.ref r)) := by
  obtain ⟨hw, hEL, hSA, ⟨zc, SC, hz⟩, ⟨fm, SF, hfm⟩, ⟨u0, SUn⟩, ⟨sp, SP, hsp⟩⟩ := id G
  refine CtrK.enter (K := KnownK) (own := "com/example/capsa/capsa/CapsaException") (nm := "<init>") rfl rfl hEL (plainFor_of_name pn_11) #[.val (.ref j), .val (.ref r)] (fun m => by first | rfl | (simp [entryFrame, mkF, argsToLocals, Value.category, maxLocals]; done)) ?_
  intro p e s m below meth c T hfr hkn hZs X
  refine g_aloadN X d32_0 rfl rfl 1 rfl ?_
  refine g_aloadN X d32_1 rfl rfl 2 rfl ?_
  refine g_callIK X hkn rfl (hw _ (List.mem_of_getElem? (i := 171) rfl)) (hw _ (List.mem_of_getElem? (i := 172) rfl)) (hw _ (List.mem_of_getElem? (i := 174) rfl)) (hw _ (List.mem_of_getElem? (i := 175) rfl)) (by decide) (c_rte l Z a0 G hst j r h E N Fb Fc Fs Fp Fm) (by simp) (a := j) (argsL := [.ref r]) (rest := []) pd_2 rfl rfl rfl rfl 0 (Nat.le_of_eq rfl) (by decide) (by decide) (ck := 1) rfl (cs := 2752) rfl (by decide) (by decide) d32_2 5 rfl ?_
  intro T1 h2 X3 hq4
  obtain ⟨K5, E6, F7⟩ := hq4
  exact g_ret X3 rfl d32_5 (by decide) (by decide) ⟨rfl, ⟨K5, E6, F7⟩⟩
theorem d31_0 : decode prog_2_method_2_code 0 = .ok (.aload_n 0, 1) := by decide +kernel
theorem d31_1 : decode prog_2_method_2_code 1 = .ok (.aload_n 1, 1) := by decide +kernel
theorem d31_2 : decode prog_2_method_2_code 2 = .ok (.invokespecial 26, 3) := by decide +kernel
theorem d31_5 : decode prog_2_method_2_code 5 = .ok (.return_, 1) := by decide +kernel
theorem pn_12 : plainName "com/example/capsa/capsa/BeanNameInUseException" = true := by first | (simp [plainName, overriddenIn]; done) | decide +kernel
set_option maxRecDepth 65536 in
set_option maxHeartbeats 40000000 in
theorem c_bni (l : Launch) (Z : State) (a0 : Array Value) (G : Gl Z a0) (hst : l.stackTraces = true) (j r : Addr) (h : Heap) (E : Exa Z h j "com/example/capsa/capsa/BeanNameInUseException") (N : Unt h j) (Fb : Fld Z h j "java/lang/Throwable" "backtrace" "Ljava/lang/Object;" .null) (Fc : Fld Z h j "java/lang/Throwable" "cause" "Ljava/lang/Throwable;" .null) (Fs : Fld Z h j "java/lang/Throwable" "stackTrace" "[Ljava/lang/StackTraceElement;" .null) (Fp : Fld Z h j "java/lang/Throwable" "suppressedExceptions" "Ljava/util/List;" .null) (Fm : Fld Z h j "java/lang/Throwable" "detailMessage" "Ljava/lang/String;" .null) :
    CtrK KnownK l Z EL nw (⟨"com/example/capsa/capsa/BeanNameInUseException", "<init>", "(Ljava/lang/String;)V"⟩ : MethodName) prog_2_method_2_code 2 (Option.none : Option Jvm.ClassFile.FieldType) ({ frames := 7, cells := 1, slots := 2752, locals := 94 } : Room) #[.ref j, .ref r] h [j] (VoidQ fun h' => Keep h h' [j] ∧ Exa Z h' j "com/example/capsa/capsa/BeanNameInUseException" ∧ Fld Z h' j "java/lang/Throwable" "detailMessage" "Ljava/lang/String;" (.ref r)) := by
  obtain ⟨hw, hEL, hSA, ⟨zc, SC, hz⟩, ⟨fm, SF, hfm⟩, ⟨u0, SUn⟩, ⟨sp, SP, hsp⟩⟩ := id G
  refine CtrK.enter (K := KnownK) (own := "com/example/capsa/capsa/BeanNameInUseException") (nm := "<init>") rfl rfl hEL (plainFor_of_name pn_12) #[.val (.ref j), .val (.ref r)] (fun m => by first | rfl | (simp [entryFrame, mkF, argsToLocals, Value.category, maxLocals]; done)) ?_
  intro p e s m below meth c T hfr hkn hZs X
  refine g_aloadN X d31_0 rfl rfl 1 rfl ?_
  refine g_aloadN X d31_1 rfl rfl 2 rfl ?_
  refine g_callIK X hkn rfl (hw _ (List.mem_of_getElem? (i := 166) rfl)) (hw _ (List.mem_of_getElem? (i := 167) rfl)) (hw _ (List.mem_of_getElem? (i := 169) rfl)) (hw _ (List.mem_of_getElem? (i := 170) rfl)) (by decide) (c_cap l Z a0 G hst j r h E N Fb Fc Fs Fp Fm) (by simp) (a := j) (argsL := [.ref r]) (rest := []) pd_2 rfl rfl rfl rfl 0 (Nat.le_of_eq rfl) (by decide) (by decide) (ck := 1) rfl (cs := 2752) rfl (by decide) (by decide) d31_2 5 rfl ?_
  intro T1 h2 X3 hq4
  obtain ⟨K5, E6, F7⟩ := hq4
  exact g_ret X3 rfl d31_5 (by decide) (by decide) ⟨rfl, ⟨K5, E6, F7⟩⟩
theorem d5_0 : decode prog_2_method_3_code 0 = .ok (.new 22, 3) := by decide +kernel
theorem d5_3 : decode prog_2_method_3_code 3 = .ok (.dup, 1) := by decide +kernel
theorem d5_4 : decode prog_2_method_3_code 4 = .ok (.new 1, 3) := by decide +kernel
theorem d5_7 : decode prog_2_method_3_code 7 = .ok (.dup, 1) := by decide +kernel
theorem d5_8 : decode prog_2_method_3_code 8 = .ok (.invokespecial 3, 3) := by decide +kernel
theorem d5_11 : decode prog_2_method_3_code 11 = .ok (.ldc 29, 2) := by decide +kernel
theorem d5_13 : decode prog_2_method_3_code 13 = .ok (.invokevirtual 9, 3) := by decide +kernel
theorem d5_16 : decode prog_2_method_3_code 16 = .ok (.aload_n 0, 1) := by decide +kernel
theorem d5_17 : decode prog_2_method_3_code 17 = .ok (.invokevirtual 9, 3) := by decide +kernel
theorem d5_20 : decode prog_2_method_3_code 20 = .ok (.ldc 31, 2) := by decide +kernel
theorem d5_22 : decode prog_2_method_3_code 22 = .ok (.invokevirtual 9, 3) := by decide +kernel
theorem d5_25 : decode prog_2_method_3_code 25 = .ok (.aload_n 1, 1) := by decide +kernel
theorem d5_26 : decode prog_2_method_3_code 26 = .ok (.invokevirtual 9, 3) := by decide +kernel
theorem d5_29 : decode prog_2_method_3_code 29 = .ok (.ldc 33, 2) := by decide +kernel
theorem d5_31 : decode prog_2_method_3_code 31 = .ok (.invokevirtual 9, 3) := by decide +kernel
theorem d5_34 : decode prog_2_method_3_code 34 = .ok (.invokevirtual 17, 3) := by decide +kernel
theorem d5_37 : decode prog_2_method_3_code 37 = .ok (.invokespecial 21, 3) := by decide +kernel
theorem d5_40 : decode prog_2_method_3_code 40 = .ok (.areturn, 1) := by decide +kernel
set_option maxRecDepth 65536 in
set_option maxHeartbeats 40000000 in
theorem c_al00 (l : Launch) (Z : State) (a0 : Array Value) (G : Gl Z a0) (hst : l.stackTraces = true) (t u : Addr) (us : List Addr) (x0 x1 y0 y1 : Int32) (h : Heap) (ST : Str Z h us t ([] : List Int32)) (SU : Str Z h us u ([] : List Int32)) :
    CtrK KnownK l Z EL nw (⟨"com/example/capsa/capsa/BeanNameInUseException", "alias", "(Ljava/lang/String;Ljava/lang/String;)Lcom/example/capsa/capsa/BeanNameInUseException;"⟩ : MethodName) prog_2_method_3_code 2 (Option.some (Jvm.ClassFile.FieldType.object "com/example/capsa/capsa/BeanNameInUseException")) ({ frames := 8, cells := 14, slots := 3243, locals := 108 } : Room) #[.ref t, .ref u] h us (ValQ fun w h' => ∃ j r, w = .ref j ∧ Ext h h' ∧ Exa Z h' j "com/example/capsa/capsa/BeanNameInUseException" ∧ Fld Z h' j "java/lang/Throwable" "detailMessage" "Ljava/lang/String;" (.ref r) ∧ Str Z h' us r (msgL ([] : List Int32) ([] : List Int32))) := by
  obtain ⟨hw, hEL, hSA, ⟨zc, SC, hz⟩, ⟨fm, SF, hfm⟩, ⟨u0, SUn⟩, ⟨sp, SP, hsp⟩⟩ := id G
  refine CtrK.enter (K := KnownK) (own := "com/example/capsa/capsa/BeanNameInUseException") (nm := "alias") rfl rfl hEL (plainFor_of_name pn_12) #[.val (.ref t), .val (.ref u)] (fun m => by first | rfl | (simp [entryFrame, mkF, argsToLocals, Value.category, maxLocals]; done)) ?_
  intro p e s m below meth c T hfr hkn hZs X
  refine g_newU X (hw _ (List.mem_of_getElem? (i := 30) rfl)) (hw _ (List.mem_of_getElem? (i := 31) rfl)) (hw _ (List.mem_of_getElem? (i := 28) rfl)) d5_0 (ck := 1) rfl (cs := 6) rfl (by decide) (by decide) 3 rfl ?_
  intro a1 T2 h3 ea4 X5 E6 A7 D8 U9
  have le_a1 : h.size ≤ a1 := by rw [ea4]; exact (Ext.refl h).1
  have ne_t_a1 : t ≠ a1 := by rw [ea4]; exact Nat.ne_of_lt ST.lt
  have ne_u_a1 : u ≠ a1 := by rw [ea4]; exact Nat.ne_of_lt SU.lt
  have F10 : Fld Z h3 a1 "java/lang/Throwable" "backtrace" "Ljava/lang/Object;" (.null) := D8 (Or.inl (hw _ (List.mem_of_getElem? (i := 221) rfl))) (ty := (.object "java/lang/Object")) (by decide +kernel)
  have F11 : Fld Z h3 a1 "java/lang/Throwable" "cause" "Ljava/lang/Throwable;" (.null) := D8 (Or.inl (hw _ (List.mem_of_getElem? (i := 190) rfl))) (ty := (.object "java/lang/Throwable")) (by decide +kernel)
  have F12 : Fld Z h3 a1 "java/lang/Throwable" "stackTrace" "[Ljava/lang/StackTraceElement;" (.null) := D8 (Or.inl (hw _ (List.mem_of_getElem? (i := 193) rfl))) (ty := (.array (.object "java/lang/StackTraceElement"))) (by decide +kernel)
  have F13 : Fld Z h3 a1 "java/lang/Throwable" "suppressedExceptions" "Ljava/util/List;" (.null) := D8 (Or.inl (hw _ (List.mem_of_getElem? (i := 196) rfl))) (ty := (.object "java/util/List")) (by decide +kernel)
  have F14 : Fld Z h3 a1 "java/lang/Throwable" "detailMessage" "Ljava/lang/String;" (.null) := D8 (Or.inl (hw _ (List.mem_of_getElem? (i := 220) rfl))) (ty := (.object "java/lang/String")) (by decide +kernel)
  refine g_dup X5 d5_3 rfl 4 rfl ?_
  refine g_new X5 (hw _ (List.mem_of_getElem? (i := 32) rfl)) (hw _ (List.mem_of_getElem? (i := 33) rfl)) (hw _ (List.mem_of_getElem? (i := 34) rfl)) d5_4 (ck := 2) rfl (cs := 10) rfl (by decide) (by decide) 7 rfl ?_
  intro a15 T16 h17 ea18 X19 E20 A21 D22
  have le_a15 : h.size ≤ a15 := by rw [ea18]; exact ((Ext.refl h).trans E6).1
  have ne_t_a15 : t ≠ a15 := by rw [ea18]; exact Nat.ne_of_lt (ST.grow E6 ea4).lt
  have ne_u_a15 : u ≠ a15 := by rw [ea18]; exact Nat.ne_of_lt (SU.grow E6 ea4).lt
  have ne_a1_a15 : a1 ≠ a15 := by rw [ea18]; exact Nat.ne_of_lt A7.lt
  have F23 : Fld Z h17 a15 "java/lang/AbstractStringBuilder" "value" "[B" (.null) := D22 (Or.inl (hw _ (List.mem_of_getElem? (i := 47) rfl))) (ty := (.array .byte)) (by decide +kernel)
  have F24 : Fld Z h17 a15 "java/lang/AbstractStringBuilder" "coder" "B" (.int (0 : Int32)) := D22 (Or.inl (hw _ (List.mem_of_getElem? (i := 49) rfl))) (ty := .byte) (by decide +kernel)
  have F25 : Fld Z h17 a15 "java/lang/AbstractStringBuilder" "count" "I" (.int (0 : Int32)) := D22 (Or.inl (hw _ (List.mem_of_getElem? (i := 73) rfl))) (ty := .int) (by decide +kernel)
  refine g_dup X19 d5_7 rfl 8 rfl ?_
  refine g_callIn X19 rfl (hw _ (List.mem_of_getElem? (i := 35) rfl)) (hw _ (List.mem_of_getElem? (i := 36) rfl)) (hw _ (List.mem_of_getElem? (i := 34) rfl)) (hw _ (List.mem_of_getElem? (i := 37) rfl)) (by decide) (c_sbi l Z a0 G a15 h17 A21 F23 F24 F25) (by simp) (argsL := []) (rest := [.ref a15, .ref a1, .ref a1]) pd_15 rfl rfl rfl rfl 3 (Nat.le_of_eq rfl) (by decide) (by decide) (ck := 3) rfl (cs := 26) rfl (by decide) (by decide) d5_8 11 rfl ?_
  intro T26 h29 X27 hq28
  obtain ⟨b30, kb31, K32, le33, S34⟩ := hq28
  have X35 := X27.add (elL hw 16 (by decide)) S34.arv (Nat.le_trans X19.old.1 le33)
  have le_b30 : h.size ≤ b30 := Nat.le_trans (((Ext.refl h).trans E6).trans E20).1 le33
  have ne_a1_b30 : a1 ≠ b30 := Nat.ne_of_lt (Nat.lt_of_lt_of_le (A7.ext E20).lt le33)
  have ne_a15_b30 : a15 ≠ b30 := Nat.ne_of_lt (Nat.lt_of_lt_of_le A21.lt le33)
  have x36 : Ext h h29 := (ext_keep (((Ext.refl h).trans E6).trans E20) K32 (fun x hx => by simp only [List.mem_cons, List.not_mem_nil, or_false] at hx; rcases hx with rfl <;> first | exact le_a15))
  refine g_ldcS X35 (cs := [(67 : Int32), (97 : Int32), (110 : Int32), (110 : Int32), (111 : Int32), (116 : Int32), (32 : Int32), (103 : Int32), (105 : Int32), (118 : Int32), (101 : Int32), (32 : Int32), (98 : Int32), (101 : Int32), (97 : Int32), (110 : Int32), (32 : Int32), (34 : Int32)]) rfl (hw _ (List.mem_of_getElem? (i := 50) rfl)) hSA (by simp [EL, consts_1]) ⟨by decide, by decide⟩ (by decide) (by decide) d5_11 72 (by decide) (by decide) (ck := 5) rfl (cs' := 102) rfl (by decide) (by decide) 13 rfl ?_
  intro s37 T38 h39 X40 E41 S42
  obtain ⟨t43, kb44, e45, f46, f47, kc48, b49, l50, n51⟩ := id S42
  refine g_callVv X40 (hw _ (List.mem_of_getElem? (i := 51) rfl)) (hw _ (List.mem_of_getElem? (i := 52) rfl)) (hw _ (List.mem_of_getElem? (i := 54) rfl)) (hw _ (List.mem_of_getElem? (i := 53) rfl)) (hw _ (List.mem_of_getElem? (i := 34) rfl)) (hw _ (List.mem_of_getElem? (i := 55) rfl)) (nfSel (hw _ (List.mem_of_getElem? (i := 54) rfl))) (by decide) (S34.ext E41).1 (c_sbaG l Z a0 G a15 s37 t43 b30 kb44 kb31 16 ([] : List Int32) ([(67 : Int32), (97 : Int32), (110 : Int32), (110 : Int32), (111 : Int32), (116 : Int32), (32 : Int32), (103 : Int32), (105 : Int32), (118 : Int32), (101 : Int32), (32 : Int32), (98 : Int32), (101 : Int32), (97 : Int32), (110 : Int32), (32 : Int32), (34 : Int32)]) h39 (S34.ext E41) e45 f46 f47 kc48 b49 l50 (n51 a15 (by simp)).1 (n51 a15 (by simp)).2 (by decide) (by first | (simp; done) | exact Nat.le_of_ble_eq_true rfl) (by first | (simp; done) | exact Nat.le_of_ble_eq_true rfl) (by decide) (by decide)) (by simp) (argsL := [.ref s37]) (rest := [.ref a1, .ref a1]) pd_17 rfl rfl rfl rfl 2 (Nat.le_of_eq rfl) (by decide) (by decide) (ck := 6) rfl (cs := 172) rfl (by decide) (by decide) d5_13 16 rfl ?_
  intro w54 T52 h56 X53 hq55
  obtain ⟨rfl, b57, kb58, K59, le60, S61⟩ := hq55
  have X62 := X53.add (elL hw 34 (by decide)) S61.arv (Nat.le_trans X40.old.1 le60)
  have le_b57 : h.size ≤ b57 := Nat.le_trans (x36.trans E41).1 le60
  have ne_a1_b57 : a1 ≠ b57 := Nat.ne_of_lt (Nat.lt_of_lt_of_le (((A7.ext E20).keep K32).ext E41).lt le60)
  have ne_a15_b57 : a15 ≠ b57 := Nat.ne_of_lt (Nat.lt_of_lt_of_le (S34.ext E41).lt le60)
  have x63 : Ext h h56 := (ext_keep (x36.trans E41) K59 (fun x hx => by simp only [List.mem_cons, List.not_mem_nil, or_false] at hx; rcases hx with rfl <;> first | exact le_a15))
  refine g_aloadN X62 d5_16 rfl rfl 17 rfl ?_
  obtain ⟨t64, kb65, e66, f67, f68, kc69, b70, l71, n72⟩ := id (((((ST.grow E6 ea4).grow E20 ea18).growK K32 (by simp) le33).ext E41).growK K59 (by simp) le60)
  refine g_callVv X62 (hw _ (List.mem_of_getElem? (i := 51) rfl)) (hw _ (List.mem_of_getElem? (i := 52) rfl)) (hw _ (List.mem_of_getElem? (i := 54) rfl)) (hw _ (List.mem_of_getElem? (i := 53) rfl)) (hw _ (List.mem_of_getElem? (i := 34) rfl)) (hw _ (List.mem_of_getElem? (i := 55) rfl)) (nfSel (hw _ (List.mem_of_getElem? (i := 54) rfl))) (by decide) S61.1 (c_sba l Z a0 G a15 t t64 b57 kb65 kb58 34 (([] : List Int32) ++ [(67 : Int32), (97 : Int32), (110 : Int32), (110 : Int32), (111 : Int32), (116 : Int32), (32 : Int32), (103 : Int32), (105 : Int32), (118 : Int32), (101 : Int32), (32 : Int32), (98 : Int32), (101 : Int32), (97 : Int32), (110 : Int32), (32 : Int32), (34 : Int32)]) ([] : List Int32) h56 S61 e66 f67 f68 kc69 b70 l71 (by first | (simp; done) | exact Nat.le_of_ble_eq_true rfl)) (by simp) (argsL := [.ref t]) (rest := [.ref a1, .ref a1]) pd_17 rfl rfl rfl rfl 2 (Nat.le_of_eq rfl) (by decide) (by decide) (ck := 6) rfl (cs := 172) rfl (by decide) (by decide) d5_17 20 rfl ?_
  intro w75 T73 h77 X74 hq76
  obtain ⟨rfl, K78, S79⟩ := hq76
  have x80 : Ext h h77 := (ext_keep x63 K78 (fun x hx => by simp only [List.mem_cons, List.not_mem_nil, or_false] at hx; rcases hx with rfl | rfl <;> first | exact le_a15 | exact le_b57))
  refine g_ldcS X74 (cs := [(34 : Int32), (32 : Int32), (116 : Int32), (104 : Int32), (101 : Int32), (32 : Int32), (97 : Int32), (108 : Int32), (105 : Int32), (97 : Int32), (115 : Int32), (32 : Int32), (34 : Int32)]) rfl (hw _ (List.mem_of_getElem? (i := 122) rfl)) hSA (by simp [EL, consts_1]) ⟨by decide, by decide⟩ (by decide) (by decide) d5_20 52 (by decide) (by decide) (ck := 8) rfl (cs' := 228) rfl (by decide) (by decide) 22 rfl ?_
  intro s81 T82 h83 X84 E85 S86
  obtain ⟨t87, kb88, e89, f90, f91, kc92, b93, l94, n95⟩ := id S86
  refine g_callVv X84 (hw _ (List.mem_of_getElem? (i := 51) rfl)) (hw _ (List.mem_of_getElem? (i := 52) rfl)) (hw _ (List.mem_of_getElem? (i := 54) rfl)) (hw _ (List.mem_of_getElem? (i := 53) rfl)) (hw _ (List.mem_of_getElem? (i := 34) rfl)) (hw _ (List.mem_of_getElem? (i := 55) rfl)) (nfSel (hw _ (List.mem_of_getElem? (i := 54) rfl))) (by decide) (S79.ext E85).1 (c_sba l Z a0 G a15 s81 t87 b57 kb88 kb58 34 ((([] : List Int32) ++ [(67 : Int32), (97 : Int32), (110 : Int32), (110 : Int32), (111 : Int32), (116 : Int32), (32 : Int32), (103 : Int32), (105 : Int32), (118 : Int32), (101 : Int32), (32 : Int32), (98 : Int32), (101 : Int32), (97 : Int32), (110 : Int32), (32 : Int32), (34 : Int32)]) ++ ([] : List Int32)) ([(34 : Int32), (32 : Int32), (116 : Int32), (104 : Int32), (101 : Int32), (32 : Int32), (97 : Int32), (108 : Int32), (105 : Int32), (97 : Int32), (115 : Int32), (32 : Int32), (34 : Int32)]) h83 (S79.ext E85) e89 f90 f91 kc92 b93 l94 (by first | (simp; done) | exact Nat.le_of_ble_eq_true rfl)) (by simp) (argsL := [.ref s81]) (rest := [.ref a1, .ref a1]) pd_17 rfl rfl rfl rfl 2 (Nat.le_of_eq rfl) (by decide) (by decide) (ck := 8) rfl (cs := 228) rfl (by decide) (by decide) d5_22 25 rfl ?_
  intro w98 T96 h100 X97 hq99
  obtain ⟨rfl, K101, S102⟩ := hq99
  have x103 : Ext h h100 := (ext_keep (x80.trans E85) K101 (fun x hx => by simp only [List.mem_cons, List.not_mem_nil, or_false] at hx; rcases hx with rfl | rfl <;> first | exact le_a15 | exact le_b57))
  refine g_aloadN X97 d5_25 rfl rfl 26 rfl ?_
  obtain ⟨t104, kb105, e106, f107, f108, kc109, b110, l111, n112⟩ := id ((((((((SU.grow E6 ea4).grow E20 ea18).growK K32 (by simp) le33).ext E41).growK K59 (by simp) le60).keep K78 (by simp)).ext E85).keep K101 (by simp))
  refine g_callVv X97 (hw _ (List.mem_of_getElem? (i := 51) rfl)) (hw _ (List.mem_of_getElem? (i := 52) rfl)) (hw _ (List.mem_of_getElem? (i := 54) rfl)) (hw _ (List.mem_of_getElem? (i := 53) rfl)) (hw _ (List.mem_of_getElem? (i := 34) rfl)) (hw _ (List.mem_of_getElem? (i := 55) rfl)) (nfSel (hw _ (List.mem_of_getElem? (i := 54) rfl))) (by decide) S102.1 (c_sba l Z a0 G a15 u t104 b57 kb105 kb58 34 (((([] : List Int32) ++ [(67 : Int32), (97 : Int32), (110 : Int32), (110 : Int32), (111 : Int32), (116 : Int32), (32 : Int32), (103 : Int32), (105 : Int32), (118 : Int32), (101 : Int32), (32 : Int32), (98 : Int32), (101 : Int32), (97 : Int32), (110 : Int32), (32 : Int32), (34 : Int32)]) ++ ([] : List Int32)) ++ [(34 : Int32), (32 : Int32), (116 : Int32), (104 : Int32), (101 : Int32), (32 : Int32), (97 : Int32), (108 : Int32), (105 : Int32), (97 : Int32), (115 : Int32), (32 : Int32), (34 : Int32)]) ([] : List Int32) h100 S102 e106 f107 f108 kc109 b110 l111 (by first | (simp; done) | exact Nat.le_of_ble_eq_true rfl)) (by simp) (argsL := [.ref u]) (rest := [.ref a1, .ref a1]) pd_17 rfl rfl rfl rfl 2 (Nat.le_of_eq rfl) (by decide) (by decide) (ck := 8) rfl (cs := 228) rfl (by decide) (by decide) d5_26 29 rfl ?_
  intro w115 T113 h117 X114 hq116
  obtain ⟨rfl, K118, S119⟩ := hq116
  have x120 : Ext h h117 := (ext_keep x103 K118 (fun x hx => by simp only [List.mem_cons, List.not_mem_nil, or_false] at hx; rcases hx with rfl | rfl <;> first | exact le_a15 | exact le_b57))
  refine g_ldcS X114 (cs := [(34 : Int32), (58 : Int32), (32 : Int32), (116 : Int32), (104 : Int32), (97 : Int32), (116 : Int32), (32 : Int32), (110 : Int32), (97 : Int32), (109 : Int32), (101 : Int32), (32 : Int32), (105 : Int32), (115 : Int32), (32 : Int32), (97 : Int32), (108 : Int32), (114 : Int32), (101 : Int32), (97 : Int32), (100 : Int32), (121 : Int32), (32 : Int32), (105 : Int32), (110 : Int32), (32 : Int32), (117 : Int32), (115 : Int32), (101 : Int32)]) rfl (hw _ (List.mem_of_getElem? (i := 123) rfl)) hSA (by simp [EL, consts_1]) ⟨by decide, by decide⟩ (by decide) (by decide) d5_29 120 (by decide) (by decide) (ck := 10) rfl (cs' := 352) rfl (by decide) (by decide) 31 rfl ?_
  intro s121 T122 h123 X124 E125 S126
  obtain ⟨t127, kb128, e129, f130, f131, kc132, b133, l134, n135⟩ := id S126
  refine g_callVv X124 (hw _ (List.mem_of_getElem? (i := 51) rfl)) (hw _ (List.mem_of_getElem? (i := 52) rfl)) (hw _ (List.mem_of_getElem? (i := 54) rfl)) (hw _ (List.mem_of_getElem? (i := 53) rfl)) (hw _ (List.mem_of_getElem? (i := 34) rfl)) (hw _ (List.mem_of_getElem? (i := 55) rfl)) (nfSel (hw _ (List.mem_of_getElem? (i := 54) rfl))) (by decide) (S119.ext E125).1 (c_sbaG l Z a0 G a15 s121 t127 b57 kb128 kb58 34 ((((([] : List Int32) ++ [(67 : Int32), (97 : Int32), (110 : Int32), (110 : Int32), (111 : Int32), (116 : Int32), (32 : Int32), (103 : Int32), (105 : Int32), (118 : Int32), (101 : Int32), (32 : Int32), (98 : Int32), (101 : Int32), (97 : Int32), (110 : Int32), (32 : Int32), (34 : Int32)]) ++ ([] : List Int32)) ++ [(34 : Int32), (32 : Int32), (116 : Int32), (104 : Int32), (101 : Int32), (32 : Int32), (97 : Int32), (108 : Int32), (105 : Int32), (97 : Int32), (115 : Int32), (32 : Int32), (34 : Int32)]) ++ ([] : List Int32)) ([(34 : Int32), (58 : Int32), (32 : Int32), (116 : Int32), (104 : Int32), (97 : Int32), (116 : Int32), (32 : Int32), (110 : Int32), (97 : Int32), (109 : Int32), (101 : Int32), (32 : Int32), (105 : Int32), (115 : Int32), (32 : Int32), (97 : Int32), (108 : Int32), (114 : Int32), (101 : Int32), (97 : Int32), (100 : Int32), (121 : Int32), (32 : Int32), (105 : Int32), (110 : Int32), (32 : Int32), (117 : Int32), (115 : Int32), (101 : Int32)]) h123 (S119.ext E125) e129 f130 f131 kc132 b133 l134 (n135 a15 (by simp)).1 (n135 a15 (by simp)).2 (by decide) (by first | (simp; done) | exact Nat.le_of_ble_eq_true rfl) (by first | (simp; done) | exact Nat.le_of_ble_eq_true rfl) (by decide) (by decide)) (by simp) (argsL := [.ref s121]) (rest := [.ref a1, .ref a1]) pd_17 rfl rfl rfl rfl 2 (Nat.le_of_eq rfl) (by decide) (by decide) (ck := 11) rfl (cs := 422) rfl (by decide) (by decide) d5_31 34 rfl ?_
  intro w138 T136 h140 X137 hq139
  obtain ⟨rfl, b141, kb142, K143, le144, S145⟩ := hq139
  have X146 := X137.add (elL hw 70 (by decide)) S145.arv (Nat.le_trans X124.old.1 le144)
  have le_b141 : h.size ≤ b141 := Nat.le_trans (x120.trans E125).1 le144
  have ne_a1_b141 : a1 ≠ b141 := Nat.ne_of_lt (Nat.lt_of_lt_of_le (((((((((A7.ext E20).keep K32).ext E41).keep K59).keep K78).ext E85).keep K101).keep K118).ext E125).lt le144)
  have ne_a15_b141 : a15 ≠ b141 := Nat.ne_of_lt (Nat.lt_of_lt_of_le (S119.ext E125).lt le144)
  have x147 : Ext h h140 := (ext_keep (x120.trans E125) K143 (fun x hx => by simp only [List.mem_cons, List.not_mem_nil, or_false] at hx; rcases hx with rfl <;> first | exact le_a15))
  refine g_callVv X146 (hw _ (List.mem_of_getElem? (i := 124) rfl)) (hw _ (List.mem_of_getElem? (i := 125) rfl)) (hw _ (List.mem_of_getElem? (i := 127) rfl)) (hw _ (List.mem_of_getElem? (i := 126) rfl)) (hw _ (List.mem_of_getElem? (i := 34) rfl)) (hw _ (List.mem_of_getElem? (i := 128) rfl)) (nfSel (hw _ (List.mem_of_getElem? (i := 127) rfl))) (by decide) S145.1 (c_sts l Z a0 G a15 b141 kb142 70 (((((([] : List Int32) ++ [(67 : Int32), (97 : Int32), (110 : Int32), (110 : Int32), (111 : Int32), (116 : Int32), (32 : Int32), (103 : Int32), (105 : Int32), (118 : Int32), (101 : Int32), (32 : Int32), (98 : Int32), (101 : Int32), (97 : Int32), (110 : Int32), (32 : Int32), (34 : Int32)]) ++ ([] : List Int32)) ++ [(34 : Int32), (32 : Int32), (116 : Int32), (104 : Int32), (101 : Int32), (32 : Int32), (97 : Int32), (108 : Int32), (105 : Int32), (97 : Int32), (115 : Int32), (32 : Int32), (34 : Int32)]) ++ ([] : List Int32)) ++ [(34 : Int32), (58 : Int32), (32 : Int32), (116 : Int32), (104 : Int32), (97 : Int32), (116 : Int32), (32 : Int32), (110 : Int32), (97 : Int32), (109 : Int32), (101 : Int32), (32 : Int32), (105 : Int32), (115 : Int32), (32 : Int32), (97 : Int32), (108 : Int32), (114 : Int32), (101 : Int32), (97 : Int32), (100 : Int32), (121 : Int32), (32 : Int32), (105 : Int32), (110 : Int32), (32 : Int32), (117 : Int32), (115 : Int32), (101 : Int32)]) h140 S145 (by first | (simp; done) | exact Nat.le_of_ble_eq_true rfl) (by first | (simp; done) | exact Nat.le_of_ble_eq_true rfl)) (by simp) (argsL := []) (rest := [.ref a1, .ref a1]) pd_21 rfl rfl rfl rfl 2 (Nat.le_of_eq rfl) (by decide) (by decide) (ck := 13) rfl (cs := 491) rfl (by decide) (by decide) d5_34 37 rfl ?_
  intro w150 T148 h152 X149 hq151
  obtain ⟨r153, rfl, E154, SN155⟩ := hq151
  have S156 : Str Z h152 (b141 :: b57 :: b30 :: a15 :: a1 :: us) r153 (((((([] : List Int32) ++ [(67 : Int32), (97 : Int32), (110 : Int32), (110 : Int32), (111 : Int32), (116 : Int32), (32 : Int32), (103 : Int32), (105 : Int32), (118 : Int32), (101 : Int32), (32 : Int32), (98 : Int32), (101 : Int32), (97 : Int32), (110 : Int32), (32 : Int32), (34 : Int32)]) ++ ([] : List Int32)) ++ [(34 : Int32), (32 : Int32), (116 : Int32), (104 : Int32), (101 : Int32), (32 : Int32), (97 : Int32), (108 : Int32), (105 : Int32), (97 : Int32), (115 : Int32), (32 : Int32), (34 : Int32)]) ++ ([] : List Int32)) ++ [(34 : Int32), (58 : Int32), (32 : Int32), (116 : Int32), (104 : Int32), (97 : Int32), (116 : Int32), (32 : Int32), (110 : Int32), (97 : Int32), (109 : Int32), (101 : Int32), (32 : Int32), (105 : Int32), (115 : Int32), (32 : Int32), (97 : Int32), (108 : Int32), (114 : Int32), (101 : Int32), (97 : Int32), (100 : Int32), (121 : Int32), (32 : Int32), (105 : Int32), (110 : Int32), (32 : Int32), (117 : Int32), (115 : Int32), (101 : Int32)]) := SN155.str X146.news
  have sn_r153 : StrN Z h h152 r153 (((((([] : List Int32) ++ [(67 : Int32), (97 : Int32), (110 : Int32), (110 : Int32), (111 : Int32), (116 : Int32), (32 : Int32), (103 : Int32), (105 : Int32), (118 : Int32), (101 : Int32), (32 : Int32), (98 : Int32), (101 : Int32), (97 : Int32), (110 : Int32), (32 : Int32), (34 : Int32)]) ++ ([] : List Int32)) ++ [(34 : Int32), (32 : Int32), (116 : Int32), (104 : Int32), (101 : Int32), (32 : Int32), (97 : Int32), (108 : Int32), (105 : Int32), (97 : Int32), (115 : Int32), (32 : Int32), (34 : Int32)]) ++ ([] : List Int32)) ++ [(34 : Int32), (58 : Int32), (32 : Int32), (116 : Int32), (104 : Int32), (97 : Int32), (116 : Int32), (32 : Int32), (110 : Int32), (97 : Int32), (109 : Int32), (101 : Int32), (32 : Int32), (105 : Int32), (115 : Int32), (32 : Int32), (97 : Int32), (108 : Int32), (114 : Int32), (101 : Int32), (97 : Int32), (100 : Int32), (121 : Int32), (32 : Int32), (105 : Int32), (110 : Int32), (32 : Int32), (117 : Int32), (115 : Int32), (101 : Int32)]) := SN155.mono x147.1
  refine g_callIK X149 hkn rfl (hw _ (List.mem_of_getElem? (i := 163) rfl)) (hw _ (List.mem_of_getElem? (i := 164) rfl)) (hw _ (List.mem_of_getElem? (i := 28) rfl)) (hw _ (List.mem_of_getElem? (i := 165) rfl)) (by decide) (c_bni l Z a0 G hst a1 r153 h152 (((((((((((A7.ext E20).keep K32).ext E41).keep K59).keep K78).ext E85).keep K101).keep K118).ext E125).keep K143).ext E154) (((((((((((U9.ext E20).keep K32 (ninS ne_a1_a15 nin0)).ext E41).keep K59 (ninS ne_a1_a15 nin0)).keep K78 (ninS ne_a1_a15 (ninS ne_a1_b57 nin0))).ext E85).keep K101 (ninS ne_a1_a15 (ninS ne_a1_b57 nin0))).keep K118 (ninS ne_a1_a15 (ninS ne_a1_b57 nin0))).ext E125).keep K143 (ninS ne_a1_a15 nin0)).ext E154) (((((((((((F10.ext E20).keep K32 (ninS ne_a1_a15 nin0)).ext E41).keep K59 (ninS ne_a1_a15 nin0)).keep K78 (ninS ne_a1_a15 (ninS ne_a1_b57 nin0))).ext E85).keep K101 (ninS ne_a1_a15 (ninS ne_a1_b57 nin0))).keep K118 (ninS ne_a1_a15 (ninS ne_a1_b57 nin0))).ext E125).keep K143 (ninS ne_a1_a15 nin0)).ext E154) (((((((((((F11.ext E20).keep K32 (ninS ne_a1_a15 nin0)).ext E41).keep K59 (ninS ne_a1_a15 nin0)).keep K78 (ninS ne_a1_a15 (ninS ne_a1_b57 nin0))).ext E85).keep K101 (ninS ne_a1_a15 (ninS ne_a1_b57 nin0))).keep K118 (ninS ne_a1_a15 (ninS ne_a1_b57 nin0))).ext E125).keep K143 (ninS ne_a1_a15 nin0)).ext E154) (((((((((((F12.ext E20).keep K32 (ninS ne_a1_a15 nin0)).ext E41).keep K59 (ninS ne_a1_a15 nin0)).keep K78 (ninS ne_a1_a15 (ninS ne_a1_b57 nin0))).ext E85).keep K101 (ninS ne_a1_a15 (ninS ne_a1_b57 nin0))).keep K118 (ninS ne_a1_a15 (ninS ne_a1_b57 nin0))).ext E125).keep K143 (ninS ne_a1_a15 nin0)).ext E154) (((((((((((F13.ext E20).keep K32 (ninS ne_a1_a15 nin0)).ext E41).keep K59 (ninS ne_a1_a15 nin0)).keep K78 (ninS ne_a1_a15 (ninS ne_a1_b57 nin0))).ext E85).keep K101 (ninS ne_a1_a15 (ninS ne_a1_b57 nin0))).keep K118 (ninS ne_a1_a15 (ninS ne_a1_b57 nin0))).ext E125).keep K143 (ninS ne_a1_a15 nin0)).ext E154) (((((((((((F14.ext E20).keep K32 (ninS ne_a1_a15 nin0)).ext E41).keep K59 (ninS ne_a1_a15 nin0)).keep K78 (ninS ne_a1_a15 (ninS ne_a1_b57 nin0))).ext E85).keep K101 (ninS ne_a1_a15 (ninS ne_a1_b57 nin0))).keep K118 (ninS ne_a1_a15 (ninS ne_a1_b57 nin0))).ext E125).keep K143 (ninS ne_a1_a15 nin0)).ext E154)) (by simp) (a := a1) (argsL := [.ref r153]) (rest := [.ref a1]) pd_2 rfl rfl rfl rfl 1 (Nat.le_of_eq rfl) (by decide) (by decide) (ck := 14) rfl (cs := 3243) rfl (by decide) (by decide) d5_37 40 rfl ?_
  intro T157 h158 X159 hq160
  obtain ⟨K161, E162, F163⟩ := hq160
  have x164 : Ext h h158 := (ext_keep (x147.trans E154) K161 (fun x hx => by simp only [List.mem_cons, List.not_mem_nil, or_false] at hx; rcases hx with rfl <;> first | exact le_a1))
  have X165 := X159.sub (us' := us) (by intro x hx; simp [hx])
  exact g_retA X165 rfl rfl rfl d5_40 (by decide) (by decide) ⟨_, rfl, ⟨a1, r153, rfl, x164, E162, F163, ((S156.keep K161 (by simp)).sub (us' := us) (by intro x hx; first | (simp [hx]; done) | (simp at hx ⊢; simp_all)))⟩⟩
set_option maxRecDepth 65536 in
set_option maxHeartbeats 40000000 in
theorem c_al01 (l : Launch) (Z : State) (a0 : Array Value) (G : Gl Z a0) (hst : l.stackTraces = true) (t u : Addr) (us : List Addr) (x0 x1 y0 y1 : Int32) (h : Heap) (ST : Str Z h us t ([] : List Int32)) (SU : Str Z h us u [y0]) :
    CtrK KnownK l Z EL nw (⟨"com/example/capsa/capsa/BeanNameInUseException", "alias", "(Ljava/lang/String;Ljava/lang/String;)Lcom/example/capsa/capsa/BeanNameInUseException;"⟩ : MethodName) prog_2_method_3_code 2 (Option.some (Jvm.ClassFile.FieldType.object "com/example/capsa/capsa/BeanNameInUseException")) ({ frames := 8, cells := 14, slots := 3243, locals := 108 } : Room) #[.ref t, .ref u] h us (ValQ fun w h' => ∃ j r, w = .ref j ∧ Ext h h' ∧ Exa Z h' j "com/example/capsa/capsa/BeanNameInUseException" ∧ Fld Z h' j "java/lang/Throwable" "detailMessage" "Ljava/lang/String;" (.ref r) ∧ Str Z h' us r (msgL ([] : List Int32) [y0])) := by
  obtain ⟨hw, hEL, hSA, ⟨zc, SC, hz⟩, ⟨fm, SF, hfm⟩, ⟨u0, SUn⟩, ⟨sp, SP, hsp⟩⟩ := id G
  refine CtrK.enter (K := KnownK) (own := "com/example/capsa/capsa/BeanNameInUseException") (nm := "alias") rfl rfl hEL (plainFor_of_name pn_12) #[.val (.ref t), .val (.ref u)] (fun m => by first | rfl | (simp [entryFrame, mkF, argsToLocals, Value.category, maxLocals]; done)) ?_
  intro p e s m below meth c T hfr hkn hZs X
  refine g_newU X (hw _ (List.mem_of_getElem? (i := 30) rfl)) (hw _ (List.mem_of_getElem? (i := 31) rfl)) (hw _ (List.mem_of_getElem? (i := 28) rfl)) d5_0 (ck := 1) rfl (cs := 6) rfl (by decide) (by decide) 3 rfl ?_
  intro a1 T2 h3 ea4 X5 E6 A7 D8 U9
  have le_a1 : h.size ≤ a1 := by rw [ea4]; exact (Ext.refl h).1
  have ne_t_a1 : t ≠ a1 := by rw [ea4]; exact Nat.ne_of_lt ST.lt
  have ne_u_a1 : u ≠ a1 := by rw [ea4]; exact Nat.ne_of_lt SU.lt
  have F10 : Fld Z h3 a1 "java/lang/Throwable" "backtrace" "Ljava/lang/Object;" (.null) := D8 (Or.inl (hw _ (List.mem_of_getElem? (i := 221) rfl))) (ty := (.object "java/lang/Object")) (by decide +kernel)
  have F11 : Fld Z h3 a1 "java/lang/Throwable" "cause" "Ljava/lang/Throwable;" (.null) := D8 (Or.inl (hw _ (List.mem_of_getElem? (i := 190) rfl))) (ty := (.object "java/lang/Throwable")) (by decide +kernel)
  have F12 : Fld Z h3 a1 "java/lang/Throwable" "stackTrace" "[Ljava/lang/StackTraceElement;" (.null) := D8 (Or.inl (hw _ (List.mem_of_getElem? (i := 193) rfl))) (ty := (.array (.object "java/lang/StackTraceElement"))) (by decide +kernel)
  have F13 : Fld Z h3 a1 "java/lang/Throwable" "suppressedExceptions" "Ljava/util/List;" (.null) := D8 (Or.inl (hw _ (List.mem_of_getElem? (i := 196) rfl))) (ty := (.object "java/util/List")) (by decide +kernel)
  have F14 : Fld Z h3 a1 "java/lang/Throwable" "detailMessage" "Ljava/lang/String;" (.null) := D8 (Or.inl (hw _ (List.mem_of_getElem? (i := 220) rfl))) (ty := (.object "java/lang/String")) (by decide +kernel)
  refine g_dup X5 d5_3 rfl 4 rfl ?_
  refine g_new X5 (hw _ (List.mem_of_getElem? (i := 32) rfl)) (hw _ (List.mem_of_getElem? (i := 33) rfl)) (hw _ (List.mem_of_getElem? (i := 34) rfl)) d5_4 (ck := 2) rfl (cs := 10) rfl (by decide) (by decide) 7 rfl ?_
  intro a15 T16 h17 ea18 X19 E20 A21 D22
  have le_a15 : h.size ≤ a15 := by rw [ea18]; exact ((Ext.refl h).trans E6).1
  have ne_t_a15 : t ≠ a15 := by rw [ea18]; exact Nat.ne_of_lt (ST.grow E6 ea4).lt
  have ne_u_a15 : u ≠ a15 := by rw [ea18]; exact Nat.ne_of_lt (SU.grow E6 ea4).lt
  have ne_a1_a15 : a1 ≠ a15 := by rw [ea18]; exact Nat.ne_of_lt A7.lt
  have F23 : Fld Z h17 a15 "java/lang/AbstractStringBuilder" "value" "[B" (.null) := D22 (Or.inl (hw _ (List.mem_of_getElem? (i := 47) rfl))) (ty := (.array .byte)) (by decide +kernel)
  have F24 : Fld Z h17 a15 "java/lang/AbstractStringBuilder" "coder" "B" (.int (0 : Int32)) := D22 (Or.inl (hw _ (List.mem_of_getElem? (i := 49) rfl))) (ty := .byte) (by decide +kernel)
  have F25 : Fld Z h17 a15 "java/lang/AbstractStringBuilder" "count" "I" (.int (0 : Int32)) := D22 (Or.inl (hw _ (List.mem_of_getElem? (i := 73) rfl))) (ty := .int) (by decide +kernel)
  refine g_dup X19 d5_7 rfl 8 rfl ?_
  refine g_callIn X19 rfl (hw _ (List.mem_of_getElem? (i := 35) rfl)) (hw _ (List.mem_of_getElem? (i := 36) rfl)) (hw _ (List.mem_of_getElem? (i := 34) rfl)) (hw _ (List.mem_of_getElem? (i := 37) rfl)) (by decide) (c_sbi l Z a0 G a15 h17 A21 F23 F24 F25) (by simp) (argsL := []) (rest := [.ref a15, .ref a1, .ref a1]) pd_15 rfl rfl rfl rfl 3 (Nat.le_of_eq rfl) (by decide) (by decide) (ck := 3) rfl (cs := 26) rfl (by decide) (by decide) d5_8 11 rfl ?_
  intro T26 h29 X27 hq28
  obtain ⟨b30, kb31, K32, le33, S34⟩ := hq28
  have X35 := X27.add (elL hw 16 (by decide)) S34.arv (Nat.le_trans X19.old.1 le33)
  have le_b30 : h.size ≤ b30 := Nat.le_trans (((Ext.refl h).trans E6).trans E20).1 le33
  have ne_a1_b30 : a1 ≠ b30 := Nat.ne_of_lt (Nat.lt_of_lt_of_le (A7.ext E20).lt le33)
  have ne_a15_b30 : a15 ≠ b30 := Nat.ne_of_lt (Nat.lt_of_lt_of_le A21.lt le33)
  have x36 : Ext h h29 := (ext_keep (((Ext.refl h).trans E6).trans E20) K32 (fun x hx => by simp only [List.mem_cons, List.not_mem_nil, or_false] at hx; rcases hx with rfl <;> first | exact le_a15))
  refine g_ldcS X35 (cs := [(67 : Int32), (97 : Int32), (110 : Int32), (110 : Int32), (111 : Int32), (116 : Int32), (32 : Int32), (103 : Int32), (105 : Int32), (118 : Int32), (101 : Int32), (32 : Int32), (98 : Int32), (101 : Int32), (97 : Int32), (110 : Int32), (32 : Int32), (34 : Int32)]) rfl (hw _ (List.mem_of_getElem? (i := 50) rfl)) hSA (by simp [EL, consts_1]) ⟨by decide, by decide⟩ (by decide) (by decide) d5_11 72 (by decide) (by decide) (ck := 5) rfl (cs' := 102) rfl (by decide) (by decide) 13 rfl ?_
  intro s37 T38 h39 X40 E41 S42
  obtain ⟨t43, kb44, e45, f46, f47, kc48, b49, l50, n51⟩ := id S42
  refine g_callVv X40 (hw _ (List.mem_of_getElem? (i := 51) rfl)) (hw _ (List.mem_of_getElem? (i := 52) rfl)) (hw _ (List.mem_of_getElem? (i := 54) rfl)) (hw _ (List.mem_of_getElem? (i := 53) rfl)) (hw _ (List.mem_of_getElem? (i := 34) rfl)) (hw _ (List.mem_of_getElem? (i := 55) rfl)) (nfSel (hw _ (List.mem_of_getElem? (i := 54) rfl))) (by decide) (S34.ext E41).1 (c_sbaG l Z a0 G a15 s37 t43 b30 kb44 kb31 16 ([] : List Int32) ([(67 : Int32), (97 : Int32), (110 : Int32), (110 : Int32), (111 : Int32), (116 : Int32), (32 : Int32), (103 : Int32), (105 : Int32), (118 : Int32), (101 : Int32), (32 : Int32), (98 : Int32), (101 : Int32), (97 : Int32), (110 : Int32), (32 : Int32), (34 : Int32)]) h39 (S34.ext E41) e45 f46 f47 kc48 b49 l50 (n51 a15 (by simp)).1 (n51 a15 (by simp)).2 (by decide) (by first | (simp; done) | exact Nat.le_of_ble_eq_true rfl) (by first | (simp; done) | exact Nat.le_of_ble_eq_true rfl) (by decide) (by decide)) (by simp) (argsL := [.ref s37]) (rest := [.ref a1, .ref a1]) pd_17 rfl rfl rfl rfl 2 (Nat.le_of_eq rfl) (by decide) (by decide) (ck := 6) rfl (cs := 172) rfl (by decide) (by decide) d5_13 16 rfl ?_
  intro w54 T52 h56 X53 hq55
  obtain ⟨rfl, b57, kb58, K59, le60, S61⟩ := hq55
  have X62 := X53.add (elL hw 34 (by decide)) S61.arv (Nat.le_trans X40.old.1 le60)
  have le_b57 : h.size ≤ b57 := Nat.le_trans (x36.trans E41).1 le60
  have ne_a1_b57 : a1 ≠ b57 := Nat.ne_of_lt (Nat.lt_of_lt_of_le (((A7.ext E20).keep K32).ext E41).lt le60)
  have ne_a15_b57 : a15 ≠ b57 := Nat.ne_of_lt (Nat.lt_of_lt_of_le (S34.ext E41).lt le60)
  have x63 : Ext h h56 := (ext_keep (x36.trans E41) K59 (fun x hx => by simp only [List.mem_cons, List.not_mem_nil, or_false] at hx; rcases hx with rfl <;> first | exact le_a15))
  refine g_aloadN X62 d5_16 rfl rfl 17 rfl ?_
  obtain ⟨t64, kb65, e66, f67, f68, kc69, b70, l71, n72⟩ := id (((((ST.grow E6 ea4).grow E20 ea18).growK K32 (by simp) le33).ext E41).growK K59 (by simp) le60)
  refine g_callVv X62 (hw _ (List.mem_of_getElem? (i := 51) rfl)) (hw _ (List.mem_of_getElem? (i := 52) rfl)) (hw _ (List.mem_of_getElem? (i := 54) rfl)) (hw _ (List.mem_of_getElem? (i := 53) rfl)) (hw _ (List.mem_of_getElem? (i := 34) rfl)) (hw _ (List.mem_of_getElem? (i := 55) rfl)) (nfSel (hw _ (List.mem_of_getElem? (i := 54) rfl))) (by decide) S61.1 (c_sba l Z a0 G a15 t t64 b57 kb65 kb58 34 (([] : List Int32) ++ [(67 : Int32), (97 : Int32), (110 : Int32), (110 : Int32), (111 : Int32), (116 : Int32), (32 : Int32), (103 : Int32), (105 : Int32), (118 : Int32), (101 : Int32), (32 : Int32), (98 : Int32), (101 : Int32), (97 : Int32), (110 : Int32), (32 : Int32), (34 : Int32)]) ([] : List Int32) h56 S61 e66 f67 f68 kc69 b70 l71 (by first | (simp; done) | exact Nat.le_of_ble_eq_true rfl)) (by simp) (argsL := [.ref t]) (rest := [.ref a1, .ref a1]) pd_17 rfl rfl rfl rfl 2 (Nat.le_of_eq rfl) (by decide) (by decide) (ck := 6) rfl (cs := 172) rfl (by decide) (by decide) d5_17 20 rfl ?_
  intro w75 T73 h77 X74 hq76
  obtain ⟨rfl, K78, S79⟩ := hq76
  have x80 : Ext h h77 := (ext_keep x63 K78 (fun x hx => by simp only [List.mem_cons, List.not_mem_nil, or_false] at hx; rcases hx with rfl | rfl <;> first | exact le_a15 | exact le_b57))
  refine g_ldcS X74 (cs := [(34 : Int32), (32 : Int32), (116 : Int32), (104 : Int32), (101 : Int32), (32 : Int32), (97 : Int32), (108 : Int32), (105 : Int32), (97 : Int32), (115 : Int32), (32 : Int32), (34 : Int32)]) rfl (hw _ (List.mem_of_getElem? (i := 122) rfl)) hSA (by simp [EL, consts_1]) ⟨by decide, by decide⟩ (by decide) (by decide) d5_20 52 (by decide) (by decide) (ck := 8) rfl (cs' := 228) rfl (by decide) (by decide) 22 rfl ?_
  intro s81 T82 h83 X84 E85 S86
  obtain ⟨t87, kb88, e89, f90, f91, kc92, b93, l94, n95⟩ := id S86
  refine g_callVv X84 (hw _ (List.mem_of_getElem? (i := 51) rfl)) (hw _ (List.mem_of_getElem? (i := 52) rfl)) (hw _ (List.mem_of_getElem? (i := 54) rfl)) (hw _ (List.mem_of_getElem? (i := 53) rfl)) (hw _ (List.mem_of_getElem? (i := 34) rfl)) (hw _ (List.mem_of_getElem? (i := 55) rfl)) (nfSel (hw _ (List.mem_of_getElem? (i := 54) rfl))) (by decide) (S79.ext E85).1 (c_sba l Z a0 G a15 s81 t87 b57 kb88 kb58 34 ((([] : List Int32) ++ [(67 : Int32), (97 : Int32), (110 : Int32), (110 : Int32), (111 : Int32), (116 : Int32), (32 : Int32), (103 : Int32), (105 : Int32), (118 : Int32), (101 : Int32), (32 : Int32), (98 : Int32), (101 : Int32), (97 : Int32), (110 : Int32), (32 : Int32), (34 : Int32)]) ++ ([] : List Int32)) ([(34 : Int32), (32 : Int32), (116 : Int32), (104 : Int32), (101 : Int32), (32 : Int32), (97 : Int32), (108 : Int32), (105 : Int32), (97 : Int32), (115 : Int32), (32 : Int32), (34 : Int32)]) h83 (S79.ext E85) e89 f90 f91 kc92 b93 l94 (by first | (simp; done) | exact Nat.le_of_ble_eq_true rfl)) (by simp) (argsL := [.ref s81]) (rest := [.ref a1, .ref a1]) pd_17 rfl rfl rfl rfl 2 (Nat.le_of_eq rfl) (by decide) (by decide) (ck := 8) rfl (cs := 228) rfl (by decide) (by decide) d5_22 25 rfl ?_
  intro w98 T96 h100 X97 hq99
  obtain ⟨rfl, K101, S102⟩ := hq99
  have x103 : Ext h h100 := (ext_keep (x80.trans E85) K101 (fun x hx => by simp only [List.mem_cons, List.not_mem_nil, or_false] at hx; rcases hx with rfl | rfl <;> first | exact le_a15 | exact le_b57))
  refine g_aloadN X97 d5_25 rfl rfl 26 rfl ?_
  obtain ⟨t104, kb105, e106, f107, f108, kc109, b110, l111, n112⟩ := id ((((((((SU.grow E6 ea4).grow E20 ea18).growK K32 (by simp) le33).ext E41).growK K59 (by simp) le60).keep K78 (by simp)).ext E85).keep K101 (by simp))
  refine g_callVv X97 (hw _ (List.mem_of_getElem? (i := 51) rfl)) (hw _ (List.mem_of_getElem? (i := 52) rfl)) (hw _ (List.mem_of_getElem? (i := 54) rfl)) (hw _ (List.mem_of_getElem? (i := 53) rfl)) (hw _ (List.mem_of_getElem? (i := 34) rfl)) (hw _ (List.mem_of_getElem? (i := 55) rfl)) (nfSel (hw _ (List.mem_of_getElem? (i := 54) rfl))) (by decide) S102.1 (c_sba l Z a0 G a15 u t104 b57 kb105 kb58 34 (((([] : List Int32) ++ [(67 : Int32), (97 : Int32), (110 : Int32), (110 : Int32), (111 : Int32), (116 : Int32), (32 : Int32), (103 : Int32), (105 : Int32), (118 : Int32), (101 : Int32), (32 : Int32), (98 : Int32), (101 : Int32), (97 : Int32), (110 : Int32), (32 : Int32), (34 : Int32)]) ++ ([] : List Int32)) ++ [(34 : Int32), (32 : Int32), (116 : Int32), (104 : Int32), (101 : Int32), (32 : Int32), (97 : Int32), (108 : Int32), (105 : Int32), (97 : Int32), (115 : Int32), (32 : Int32), (34 : Int32)]) ([y0]) h100 S102 e106 f107 f108 kc109 b110 l111 (by first | (simp; done) | exact Nat.le_of_ble_eq_true rfl)) (by simp) (argsL := [.ref u]) (rest := [.ref a1, .ref a1]) pd_17 rfl rfl rfl rfl 2 (Nat.le_of_eq rfl) (by decide) (by decide) (ck := 8) rfl (cs := 228) rfl (by decide) (by decide) d5_26 29 rfl ?_
  intro w115 T113 h117 X114 hq116
  obtain ⟨rfl, K118, S119⟩ := hq116
  have x120 : Ext h h117 := (ext_keep x103 K118 (fun x hx => by simp only [List.mem_cons, List.not_mem_nil, or_false] at hx; rcases hx with rfl | rfl <;> first | exact le_a15 | exact le_b57))
  refine g_ldcS X114 (cs := [(34 : Int32), (58 : Int32), (32 : Int32), (116 : Int32), (104 : Int32), (97 : Int32), (116 : Int32), (32 : Int32), (110 : Int32), (97 : Int32), (109 : Int32), (101 : Int32), (32 : Int32), (105 : Int32), (115 : Int32), (32 : Int32), (97 : Int32), (108 : Int32), (114 : Int32), (101 : Int32), (97 : Int32), (100 : Int32), (121 : Int32), (32 : Int32), (105 : Int32), (110 : Int32), (32 : Int32), (117 : Int32), (115 : Int32), (101 : Int32)]) rfl (hw _ (List.mem_of_getElem? (i := 123) rfl)) hSA (by simp [EL, consts_1]) ⟨by decide, by decide⟩ (by decide) (by decide) d5_29 120 (by decide) (by decide) (ck := 10) rfl (cs' := 352) rfl (by decide) (by decide) 31 rfl ?_
  intro s121 T122 h123 X124 E125 S126
  obtain ⟨t127, kb128, e129, f130, f131, kc132, b133, l134, n135⟩ := id S126
  refine g_callVv X124 (hw _ (List.mem_of_getElem? (i := 51) rfl)) (hw _ (List.mem_of_getElem? (i := 52) rfl)) (hw _ (List.mem_of_getElem? (i := 54) rfl)) (hw _ (List.mem_of_getElem? (i := 53) rfl)) (hw _ (List.mem_of_getElem? (i := 34) rfl)) (hw _ (List.mem_of_getElem? (i := 55) rfl)) (nfSel (hw _ (List.mem_of_getElem? (i := 54) rfl))) (by decide) (S119.ext E125).1 (c_sbaG l Z a0 G a15 s121 t127 b57 kb128 kb58 34 ((((([] : List Int32) ++ [(67 : Int32), (97 : Int32), (110 : Int32), (110 : Int32), (111 : Int32), (116 : Int32), (32 : Int32), (103 : Int32), (105 : Int32), (118 : Int32), (101 : Int32), (32 : Int32), (98 : Int32), (101 : Int32), (97 : Int32), (110 : Int32), (32 : Int32), (34 : Int32)]) ++ ([] : List Int32)) ++ [(34 : Int32), (32 : Int32), (116 : Int32), (104 : Int32), (101 : Int32), (32 : Int32), (97 : Int32), (108 : Int32), (105 : Int32), (97 : Int32), (115 : Int32), (32 : Int32), (34 : Int32)]) ++ [y0]) ([(34 : Int32), (58 : Int32), (32 : Int32), (116 : Int32), (104 : Int32), (97 : Int32), (116 : Int32), (32 : Int32), (110 : Int32), (97 : Int32), (109 : Int32), (101 : Int32), (32 : Int32), (105 : Int32), (115 : Int32), (32 : Int32), (97 : Int32), (108 : Int32), (114 : Int32), (101 : Int32), (97 : Int32), (100 : Int32), (121 : Int32), (32 : Int32), (105 : Int32), (110 : Int32), (32 : Int32), (117 : Int32), (115 : Int32), (101 : Int32)]) h123 (S119.ext E125) e129 f130 f131 kc132 b133 l134 (n135 a15 (by simp)).1 (n135 a15 (by simp)).2 (by decide) (by first | (simp; done) | exact Nat.le_of_ble_eq_true rfl) (by first | (simp; done) | exact Nat.le_of_ble_eq_true rfl) (by decide) (by decide)) (by simp) (argsL := [.ref s121]) (rest := [.ref a1, .ref a1]) pd_17 rfl rfl rfl rfl 2 (Nat.le_of_eq rfl) (by decide) (by decide) (ck := 11) rfl (cs := 422) rfl (by decide) (by decide) d5_31 34 rfl ?_
  intro w138 T136 h140 X137 hq139
  obtain ⟨rfl, b141, kb142, K143, le144, S145⟩ := hq139
  have X146 := X137.add (elL hw 70 (by decide)) S145.arv (Nat.le_trans X124.old.1 le144)
  have le_b141 : h.size ≤ b141 := Nat.le_trans (x120.trans E125).1 le144
  have ne_a1_b141 : a1 ≠ b141 := Nat.ne_of_lt (Nat.lt_of_lt_of_le (((((((((A7.ext E20).keep K32).ext E41).keep K59).keep K78).ext E85).keep K101).keep K118).ext E125).lt le144)
  have ne_a15_b141 : a15 ≠ b141 := Nat.ne_of_lt (Nat.lt_of_lt_of_le (S119.ext E125).lt le144)
  have x147 : Ext h h140 := (ext_keep (x120.trans E125) K143 (fun x hx => by simp only [List.mem_cons, List.not_mem_nil, or_false] at hx; rcases hx with rfl <;> first | exact le_a15))
  refine g_callVv X146 (hw _ (List.mem_of_getElem? (i := 124) rfl)) (hw _ (List.mem_of_getElem? (i := 125) rfl)) (hw _ (List.mem_of_getElem? (i := 127) rfl)) (hw _ (List.mem_of_getElem? (i := 126) rfl)) (hw _ (List.mem_of_getElem? (i := 34) rfl)) (hw _ (List.mem_of_getElem? (i := 128) rfl)) (nfSel (hw _ (List.mem_of_getElem? (i := 127) rfl))) (by decide) S145.1 (c_sts l Z a0 G a15 b141 kb142 70 (((((([] : List Int32) ++ [(67 : Int32), (97 : Int32), (110 : Int32), (110 : Int32), (111 : Int32), (116 : Int32), (32 : Int32), (103 : Int32), (105 : Int32), (118 : Int32), (101 : Int32), (32 : Int32), (98 : Int32), (101 : Int32), (97 : Int32), (110 : Int32), (32 : Int32), (34 : Int32)]) ++ ([] : List Int32)) ++ [(34 : Int32), (32 : Int32), (116 : Int32), (104 : Int32), (101 : Int32), (32 : Int32), (97 : Int32), (108 : Int32), (105 : Int32), (97 : Int32), (115 : Int32), (32 : Int32), (34 : Int32)]) ++ [y0]) ++ [(34 : Int32), (58 : Int32), (32 : Int32), (116 : Int32), (104 : Int32), (97 : Int32), (116 : Int32), (32 : Int32), (110 : Int32), (97 : Int32), (109 : Int32), (101 : Int32), (32 : Int32), (105 : Int32), (115 : Int32), (32 : Int32), (97 : Int32), (108 : Int32), (114 : Int32), (101 : Int32), (97 : Int32), (100 : Int32), (121 : Int32), (32 : Int32), (105 : Int32), (110 : Int32), (32 : Int32), (117 : Int32), (115 : Int32), (101 : Int32)]) h140 S145 (by first | (simp; done) | exact Nat.le_of_ble_eq_true rfl) (by first | (simp; done) | exact Nat.le_of_ble_eq_true rfl)) (by simp) (argsL := []) (rest := [.ref a1, .ref a1]) pd_21 rfl rfl rfl rfl 2 (Nat.le_of_eq rfl) (by decide) (by decide) (ck := 13) rfl (cs := 491) rfl (by decide) (by decide) d5_34 37 rfl ?_
  intro w150 T148 h152 X149 hq151
  obtain ⟨r153, rfl, E154, SN155⟩ := hq151
  have S156 : Str Z h152 (b141 :: b57 :: b30 :: a15 :: a1 :: us) r153 (((((([] : List Int32) ++ [(67 : Int32), (97 : Int32), (110 : Int32), (110 : Int32), (111 : Int32), (116 : Int32), (32 : Int32), (103 : Int32), (105 : Int32), (118 : Int32), (101 : Int32), (32 : Int32), (98 : Int32), (101 : Int32), (97 : Int32), (110 : Int32), (32 : Int32), (34 : Int32)]) ++ ([] : List Int32)) ++ [(34 : Int32), (32 : Int32), (116 : Int32), (104 : Int32), (101 : Int32), (32 : Int32), (97 : Int32), (108 : Int32), (105 : Int32), (97 : Int32), (115 : Int32), (32 : Int32), (34 : Int32)]) ++ [y0]) ++ [(34 : Int32), (58 : Int32), (32 : Int32), (116 : Int32), (104 : Int32), (97 : Int32), (116 : Int32), (32 : Int32), (110 : Int32), (97 : Int32), (109 : Int32), (101 : Int32), (32 : Int32), (105 : Int32), (115 : Int32), (32 : Int32), (97 : Int32), (108 : Int32), (114 : Int32), (101 : Int32), (97 : Int32), (100 : Int32), (121 : Int32), (32 : Int32), (105 : Int32), (110 : Int32), (32 : Int32), (117 : Int32), (115 : Int32), (101 : Int32)]) := SN155.str X146.news
  have sn_r153 : StrN Z h h152 r153 (((((([] : List Int32) ++ [(67 : Int32), (97 : Int32), (110 : Int32), (110 : Int32), (111 : Int32), (116 : Int32), (32 : Int32), (103 : Int32), (105 : Int32), (118 : Int32), (101 : Int32), (32 : Int32), (98 : Int32), (101 : Int32), (97 : Int32), (110 : Int32), (32 : Int32), (34 : Int32)]) ++ ([] : List Int32)) ++ [(34 : Int32), (32 : Int32), (116 : Int32), (104 : Int32), (101 : Int32), (32 : Int32), (97 : Int32), (108 : Int32), (105 : Int32), (97 : Int32), (115 : Int32), (32 : Int32), (34 : Int32)]) ++ [y0]) ++ [(34 : Int32), (58 : Int32), (32 : Int32), (116 : Int32), (104 : Int32), (97 : Int32), (116 : Int32), (32 : Int32), (110 : Int32), (97 : Int32), (109 : Int32), (101 : Int32), (32 : Int32), (105 : Int32), (115 : Int32), (32 : Int32), (97 : Int32), (108 : Int32), (114 : Int32), (101 : Int32), (97 : Int32), (100 : Int32), (121 : Int32), (32 : Int32), (105 : Int32), (110 : Int32), (32 : Int32), (117 : Int32), (115 : Int32), (101 : Int32)]) := SN155.mono x147.1
  refine g_callIK X149 hkn rfl (hw _ (List.mem_of_getElem? (i := 163) rfl)) (hw _ (List.mem_of_getElem? (i := 164) rfl)) (hw _ (List.mem_of_getElem? (i := 28) rfl)) (hw _ (List.mem_of_getElem? (i := 165) rfl)) (by decide) (c_bni l Z a0 G hst a1 r153 h152 (((((((((((A7.ext E20).keep K32).ext E41).keep K59).keep K78).ext E85).keep K101).keep K118).ext E125).keep K143).ext E154) (((((((((((U9.ext E20).keep K32 (ninS ne_a1_a15 nin0)).ext E41).keep K59 (ninS ne_a1_a15 nin0)).keep K78 (ninS ne_a1_a15 (ninS ne_a1_b57 nin0))).ext E85).keep K101 (ninS ne_a1_a15 (ninS ne_a1_b57 nin0))).keep K118 (ninS ne_a1_a15 (ninS ne_a1_b57 nin0))).ext E125).keep K143 (ninS ne_a1_a15 nin0)).ext E154) (((((((((((F10.ext E20).keep K32 (ninS ne_a1_a15 nin0)).ext E41).keep K59 (ninS ne_a1_a15 nin0)).keep K78 (ninS ne_a1_a15 (ninS ne_a1_b57 nin0))).ext E85).keep K101 (ninS ne_a1_a15 (ninS ne_a1_b57 nin0))).keep K118 (ninS ne_a1_a15 (ninS ne_a1_b57 nin0))).ext E125).keep K143 (ninS ne_a1_a15 nin0)).ext E154) (((((((((((F11.ext E20).keep K32 (ninS ne_a1_a15 nin0)).ext E41).keep K59 (ninS ne_a1_a15 nin0)).keep K78 (ninS ne_a1_a15 (ninS ne_a1_b57 nin0))).ext E85).keep K101 (ninS ne_a1_a15 (ninS ne_a1_b57 nin0))).keep K118 (ninS ne_a1_a15 (ninS ne_a1_b57 nin0))).ext E125).keep K143 (ninS ne_a1_a15 nin0)).ext E154) (((((((((((F12.ext E20).keep K32 (ninS ne_a1_a15 nin0)).ext E41).keep K59 (ninS ne_a1_a15 nin0)).keep K78 (ninS ne_a1_a15 (ninS ne_a1_b57 nin0))).ext E85).keep K101 (ninS ne_a1_a15 (ninS ne_a1_b57 nin0))).keep K118 (ninS ne_a1_a15 (ninS ne_a1_b57 nin0))).ext E125).keep K143 (ninS ne_a1_a15 nin0)).ext E154) (((((((((((F13.ext E20).keep K32 (ninS ne_a1_a15 nin0)).ext E41).keep K59 (ninS ne_a1_a15 nin0)).keep K78 (ninS ne_a1_a15 (ninS ne_a1_b57 nin0))).ext E85).keep K101 (ninS ne_a1_a15 (ninS ne_a1_b57 nin0))).keep K118 (ninS ne_a1_a15 (ninS ne_a1_b57 nin0))).ext E125).keep K143 (ninS ne_a1_a15 nin0)).ext E154) (((((((((((F14.ext E20).keep K32 (ninS ne_a1_a15 nin0)).ext E41).keep K59 (ninS ne_a1_a15 nin0)).keep K78 (ninS ne_a1_a15 (ninS ne_a1_b57 nin0))).ext E85).keep K101 (ninS ne_a1_a15 (ninS ne_a1_b57 nin0))).keep K118 (ninS ne_a1_a15 (ninS ne_a1_b57 nin0))).ext E125).keep K143 (ninS ne_a1_a15 nin0)).ext E154)) (by simp) (a := a1) (argsL := [.ref r153]) (rest := [.ref a1]) pd_2 rfl rfl rfl rfl 1 (Nat.le_of_eq rfl) (by decide) (by decide) (ck := 14) rfl (cs := 3243) rfl (by decide) (by decide) d5_37 40 rfl ?_
  intro T157 h158 X159 hq160
  obtain ⟨K161, E162, F163⟩ := hq160
  have x164 : Ext h h158 := (ext_keep (x147.trans E154) K161 (fun x hx => by simp only [List.mem_cons, List.not_mem_nil, or_false] at hx; rcases hx with rfl <;> first | exact le_a1))
  have X165 := X159.sub (us' := us) (by intro x hx; simp [hx])
  exact g_retA X165 rfl rfl rfl d5_40 (by decide) (by decide) ⟨_, rfl, ⟨a1, r153, rfl, x164, E162, F163, ((S156.keep K161 (by simp)).sub (us' := us) (by intro x hx; first | (simp [hx]; done) | (simp at hx ⊢; simp_all)))⟩⟩
set_option maxRecDepth 65536 in
set_option maxHeartbeats 40000000 in
theorem c_al02 (l : Launch) (Z : State) (a0 : Array Value) (G : Gl Z a0) (hst : l.stackTraces = true) (t u : Addr) (us : List Addr) (x0 x1 y0 y1 : Int32) (h : Heap) (ST : Str Z h us t ([] : List Int32)) (SU : Str Z h us u [y0, y1]) :
    CtrK KnownK l Z EL nw (⟨"com/example/capsa/capsa/BeanNameInUseException", "alias", "(Ljava/lang/String;Ljava/lang/String;)Lcom/example/capsa/capsa/BeanNameInUseException;"⟩ : MethodName) prog_2_method_3_code 2 (Option.some (Jvm.ClassFile.FieldType.object "com/example/capsa/capsa/BeanNameInUseException")) ({ frames := 8, cells := 14, slots := 3243, locals := 108 } : Room) #[.ref t, .ref u] h us (ValQ fun w h' => ∃ j r, w = .ref j ∧ Ext h h' ∧ Exa Z h' j "com/example/capsa/capsa/BeanNameInUseException" ∧ Fld Z h' j "java/lang/Throwable" "detailMessage" "Ljava/lang/String;" (.ref r) ∧ Str Z h' us r (msgL ([] : List Int32) [y0, y1])) := by
  obtain ⟨hw, hEL, hSA, ⟨zc, SC, hz⟩, ⟨fm, SF, hfm⟩, ⟨u0, SUn⟩, ⟨sp, SP, hsp⟩⟩ := id G
  refine CtrK.enter (K := KnownK) (own := "com/example/capsa/capsa/BeanNameInUseException") (nm := "alias") rfl rfl hEL (plainFor_of_name pn_12) #[.val (.ref t), .val (.ref u)] (fun m => by first | rfl | (simp [entryFrame, mkF, argsToLocals, Value.category, maxLocals]; done)) ?_
  intro p e s m below meth c T hfr hkn hZs X
  refine g_newU X (hw _ (List.mem_of_getElem? (i := 30) rfl)) (hw _ (List.mem_of_getElem? (i := 31) rfl)) (hw _ (List.mem_of_getElem? (i := 28) rfl)) d5_0 (ck := 1) rfl (cs := 6) rfl (by decide) (by decide) 3 rfl ?_
  intro a1 T2 h3 ea4 X5 E6 A7 D8 U9
  have le_a1 : h.size ≤ a1 := by rw [ea4]; exact (Ext.refl h).1
  have ne_t_a1 : t ≠ a1 := by rw [ea4]; exact Nat.ne_of_lt ST.lt
  have ne_u_a1 : u ≠ a1 := by rw [ea4]; exact Nat.ne_of_lt SU.lt
  have F10 : Fld Z h3 a1 "java/lang/Throwable" "backtrace" "Ljava/lang/Object;" (.null) := D8 (Or.inl (hw _ (List.mem_of_getElem? (i := 221) rfl))) (ty := (.object "java/lang/Object")) (by decide +kernel)
  have F11 : Fld Z h3 a1 "java/lang/Throwable" "cause" "Ljava/lang/Throwable;" (.null) := D8 (Or.inl (hw _ (List.mem_of_getElem? (i := 190) rfl))) (ty := (.object "java/lang/Throwable")) (by decide +kernel)
  have F12 : Fld Z h3 a1 "java/lang/Throwable" "stackTrace" "[Ljava/lang/StackTraceElement;" (.null) := D8 (Or.inl (hw _ (List.mem_of_getElem? (i := 193) rfl))) (ty := (.array (.object "java/lang/StackTraceElement"))) (by decide +kernel)
  have F13 : Fld Z h3 a1 "java/lang/Throwable" "suppressedExceptions" "Ljava/util/List;" (.null) := D8 (Or.inl (hw _ (List.mem_of_getElem? (i := 196) rfl))) (ty := (.object "java/util/List")) (by decide +kernel)
  have F14 : Fld Z h3 a1 "java/lang/Throwable" "detailMessage" "Ljava/lang/String;" (.null) := D8 (Or.inl (hw _ (List.mem_of_getElem? (i := 220) rfl))) (ty := (.object "java/lang/String")) (by decide +kernel)
  refine g_dup X5 d5_3 rfl 4 rfl ?_
  refine g_new X5 (hw _ (List.mem_of_getElem? (i := 32) rfl)) (hw _ (List.mem_of_getElem? (i := 33) rfl)) (hw _ (List.mem_of_getElem? (i := 34) rfl)) d5_4 (ck := 2) rfl (cs := 10) rfl (by decide) (by decide) 7 rfl ?_
  intro a15 T16 h17 ea18 X19 E20 A21 D22
  have le_a15 : h.size ≤ a15 := by rw [ea18]; exact ((Ext.refl h).trans E6).1
  have ne_t_a15 : t ≠ a15 := by rw [ea18]; exact Nat.ne_of_lt (ST.grow E6 ea4).lt
  have ne_u_a15 : u ≠ a15 := by rw [ea18]; exact Nat.ne_of_lt (SU.grow E6 ea4).lt
  have ne_a1_a15 : a1 ≠ a15 := by rw [ea18]; exact Nat.ne_of_lt A7.lt
  have F23 : Fld Z h17 a15 "java/lang/AbstractStringBuilder" "value" "[B" (.null) := D22 (Or.inl (hw _ (List.mem_of_getElem? (i := 47) rfl))) (ty := (.array .byte)) (by decide +kernel)
  have F24 : Fld Z h17 a15 "java/lang/AbstractStringBuilder" "coder" "B" (.int (0 : Int32)) := D22 (Or.inl (hw _ (List.mem_of_getElem? (i := 49) rfl))) (ty := .byte) (by decide +kernel)
  have F25 : Fld Z h17 a15 "java/lang/AbstractStringBuilder" "count" "I" (.int (0 : Int32)) := D22 (Or.inl (hw _ (List.mem_of_getElem? (i := 73) rfl))) (ty := .int) (by decide +kernel)
  refine g_dup X19 d5_7 rfl 8 rfl ?_
  refine g_callIn X19 rfl (hw _ (List.mem_of_getElem? (i := 35) rfl)) (hw _ (List.mem_of_getElem? (i := 36) rfl)) (hw _ (List.mem_of_getElem? (i := 34) rfl)) (hw _ (List.mem_of_getElem? (i := 37) rfl)) (by decide) (c_sbi l Z a0 G a15 h17 A21 F23 F24 F25) (by simp) (argsL := []) (rest := [.ref a15, .ref a1, .ref a1]) pd_15 rfl rfl rfl rfl 3 (Nat.le_of_eq rfl) (by decide) (by decide) (ck := 3) rfl (cs := 26) rfl (by decide) (by decide) d5_8 11 rfl ?_
  intro T26 h29 X27 hq28
  obtain ⟨b30, kb31, K32, le33, S34⟩ := hq28
  have X35 := X27.add (elL hw 16 (by decide)) S34.arv (Nat.le_trans X19.old.1 le33)
  have le_b30 : h.size ≤ b30 := Nat.le_trans (((Ext.refl h).trans E6).trans E20).1 le33
  have ne_a1_b30 : a1 ≠ b30 := Nat.ne_of_lt (Nat.lt_of_lt_of_le (A7.ext E20).lt le33)
  have ne_a15_b30 : a15 ≠ b30 := Nat.ne_of_lt (Nat.lt_of_lt_of_le A21.lt le33)
  have x36 : Ext h h29 := (ext_keep (((Ext.refl h).trans E6).trans E20) K32 (fun x hx => by simp only [List.mem_cons, List.not_mem_nil, or_false] at hx; rcases hx with rfl <;> first | exact le_a15))
  refine g_ldcS X35 (cs := [(67 : Int32), (97 : Int32), (110 : Int32), (110 : Int32), (111 : Int32), (116 : Int32), (32 : Int32), (103 : Int32), (105 : Int32), (118 : Int32), (101 : Int32), (32 : Int32), (98 : Int32), (101 : Int32), (97 : Int32), (110 : Int32), (32 : Int32), (34 : Int32)]) rfl (hw _ (List.mem_of_getElem? (i := 50) rfl)) hSA (by simp [EL, consts_1]) ⟨by decide, by decide⟩ (by decide) (by decide) d5_11 72 (by decide) (by decide) (ck := 5) rfl (cs' := 102) rfl (by decide) (by decide) 13 rfl ?_
  intro s37 T38 h39 X40 E41 S42
  obtain ⟨t43, kb44, e45, f46, f47, kc48, b49, l50, n51⟩ := id S42
  refine g_callVv X40 (hw _ (List.mem_of_getElem? (i := 51) rfl)) (hw _ (List.mem_of_getElem? (i := 52) rfl)) (hw _ (List.mem_of_getElem? (i := 54) rfl)) (hw _ (List.mem_of_getElem? (i := 53) rfl)) (hw _ (List.mem_of_getElem? (i := 34) rfl)) (hw _ (List.mem_of_getElem? (i := 55) rfl)) (nfSel (hw _ (List.mem_of_getElem? (i := 54) rfl))) (by decide) (S34.ext E41).1 (c_sbaG l Z a0 G a15 s37 t43 b30 kb44 kb31 16 ([] : List Int32) ([(67 : Int32), (97 : Int32), (110 : Int32), (110 : Int32), (111 : Int32), (116 : Int32), (32 : Int32), (103 : Int32), (105 : Int32), (118 : Int32), (101 : Int32), (32 : Int32), (98 : Int32), (101 : Int32), (97 : Int32), (110 : Int32), (32 : Int32), (34 : Int32)]) h39 (S34.ext E41) e45 f46 f47 kc48 b49 l50 (n51 a15 (by simp)).1 (n51 a15 (by simp)).2 (by decide) (by first | (simp; done) | exact Nat.le_of_ble_eq_true rfl) (by first | (simp; done) | exact Nat.le_of_ble_eq_true rfl) (by decide) (by decide)) (by simp) (argsL := [.ref s37]) (rest := [.ref a1, .ref a1]) pd_17 rfl rfl rfl rfl 2 (Nat.le_of_eq rfl) (by decide) (by decide) (ck := 6) rfl (cs := 172) rfl (by decide) (by decide) d5_13 16 rfl ?_
  intro w54 T52 h56 X53 hq55
  obtain ⟨rfl, b57, kb58, K59, le60, S61⟩ := hq55
  have X62 := X53.add (elL hw 34 (by decide)) S61.arv (Nat.le_trans X40.old.1 le60)
  have le_b57 : h.size ≤ b57 := Nat.le_trans (x36.trans E41).1 le60
  have ne_a1_b57 : a1 ≠ b57 := Nat.ne_of_lt (Nat.lt_of_lt_of_le (((A7.ext E20).keep K32).ext E41).lt le60)
  have ne_a15_b57 : a15 ≠ b57 := Nat.ne_of_lt (Nat.lt_of_lt_of_le (S34.ext E41).lt le60)
  have x63 : Ext h h56 := (ext_keep (x36.trans E41) K59 (fun x hx => by simp only [List.mem_cons, List.not_mem_nil, or_false] at hx; rcases hx with rfl <;> first | exact le_a15))
  refine g_aloadN X62 d5_16 rfl rfl 17 rfl ?_
  obtain ⟨t64, kb65, e66, f67, f68, kc69, b70, l71, n72⟩ := id (((((ST.grow E6 ea4).grow E20 ea18).growK K32 (by simp) le33).ext E41).growK K59 (by simp) le60)
  refine g_callVv X62 (hw _ (List.mem_of_getElem? (i := 51) rfl)) (hw _ (List.mem_of_getElem? (i := 52) rfl)) (hw _ (List.mem_of_getElem? (i := 54) rfl)) (hw _ (List.mem_of_getElem? (i := 53) rfl)) (hw _ (List.mem_of_getElem? (i := 34) rfl)) (hw _ (List.mem_of_getElem? (i := 55) rfl)) (nfSel (hw _ (List.mem_of_getElem? (i := 54) rfl))) (by decide) S61.1 (c_sba l Z a0 G a15 t t64 b57 kb65 kb58 34 (([] : List Int32) ++ [(67 : Int32), (97 : Int32), (110 : Int32), (110 : Int32), (111 : Int32), (116 : Int32), (32 : Int32), (103 : Int32), (105 : Int32), (118 : Int32), (101 : Int32), (32 : Int32), (98 : Int32), (101 : Int32), (97 : Int32), (110 : Int32), (32 : Int32), (34 : Int32)]) ([] : List Int32) h56 S61 e66 f67 f68 kc69 b70 l71 (by first | (simp; done) | exact Nat.le_of_ble_eq_true rfl)) (by simp) (argsL := [.ref t]) (rest := [.ref a1, .ref a1]) pd_17 rfl rfl rfl rfl 2 (Nat.le_of_eq rfl) (by decide) (by decide) (ck := 6) rfl (cs := 172) rfl (by decide) (by decide) d5_17 20 rfl ?_
  intro w75 T73 h77 X74 hq76
  obtain ⟨rfl, K78, S79⟩ := hq76
  have x80 : Ext h h77 := (ext_keep x63 K78 (fun x hx => by simp only [List.mem_cons, List.not_mem_nil, or_false] at hx; rcases hx with rfl | rfl <;> first | exact le_a15 | exact le_b57))
  refine g_ldcS X74 (cs := [(34 : Int32), (32 : Int32), (116 : Int32), (104 : Int32), (101 : Int32), (32 : Int32), (97 : Int32), (108 : Int32), (105 : Int32), (97 : Int32), (115 : Int32), (32 : Int32), (34 : Int32)]) rfl (hw _ (List.mem_of_getElem? (i := 122) rfl)) hSA (by simp [EL, consts_1]) ⟨by decide, by decide⟩ (by decide) (by decide) d5_20 52 (by decide) (by decide) (ck := 8) rfl (cs' := 228) rfl (by decide) (by decide) 22 rfl ?_
  intro s81 T82 h83 X84 E85 S86
  obtain ⟨t87, kb88, e89, f90, f91, kc92, b93, l94, n95⟩ := id S86
  refine g_callVv X84 (hw _ (List.mem_of_getElem? (i := 51) rfl)) (hw _ (List.mem_of_getElem? (i := 52) rfl)) (hw _ (List.mem_of_getElem? (i := 54) rfl)) (hw _ (List.mem_of_getElem? (i := 53) rfl)) (hw _ (List.mem_of_getElem? (i := 34) rfl)) (hw _ (List.mem_of_getElem? (i := 55) rfl)) (nfSel (hw _ (List.mem_of_getElem? (i := 54) rfl))) (by decide) (S79.ext E85).1 (c_sba l Z a0 G a15 s81 t87 b57 kb88 kb58 34 ((([] : List Int32) ++ [(67 : Int32), (97 : Int32), (110 : Int32), (110 : Int32), (111 : Int32), (116 : Int32), (32 : Int32), (103 : Int32), (105 : Int32), (118 : Int32), (101 : Int32), (32 : Int32), (98 : Int32), (101 : Int32), (97 : Int32), (110 : Int32), (32 : Int32), (34 : Int32)]) ++ ([] : List Int32)) ([(34 : Int32), (32 : Int32), (116 : Int32), (104 : Int32), (101 : Int32), (32 : Int32), (97 : Int32), (108 : Int32), (105 : Int32), (97 : Int32), (115 : Int32), (32 : Int32), (34 : Int32)]) h83 (S79.ext E85) e89 f90 f91 kc92 b93 l94 (by first | (simp; done) | exact Nat.le_of_ble_eq_true rfl)) (by simp) (argsL := [.ref s81]) (rest := [.ref a1, .ref a1]) pd_17 rfl rfl rfl rfl 2 (Nat.le_of_eq rfl) (by decide) (by decide) (ck := 8) rfl (cs := 228) rfl (by decide) (by decide) d5_22 25 rfl ?_
  intro w98 T96 h100 X97 hq99
  obtain ⟨rfl, K101, S102⟩ := hq99
  have x103 : Ext h h100 := (ext_keep (x80.trans E85) K101 (fun x hx => by simp only [List.mem_cons, List.not_mem_nil, or_false] at hx; rcases hx with rfl | rfl <;> first | exact le_a15 | exact le_b57))
  refine g_aloadN X97 d5_25 rfl rfl 26 rfl ?_
  obtain ⟨t104, kb105, e106, f107, f108, kc109, b110, l111, n112⟩ := id ((((((((SU.grow E6 ea4).grow E20 ea18).growK K32 (by simp) le33).ext E41).growK K59 (by simp) le60).keep K78 (by simp)).ext E85).keep K101 (by simp))
  refine g_callVv X97 (hw _ (List.mem_of_getElem? (i := 51) rfl)) (hw _ (List.mem_of_getElem? (i := 52) rfl)) (hw _ (List.mem_of_getElem? (i := 54) rfl)) (hw _ (List.mem_of_getElem? (i := 53) rfl)) (hw _ (List.mem_of_getElem? (i := 34) rfl)) (hw _ (List.mem_of_getElem? (i := 55) rfl)) (nfSel (hw _ (List.mem_of_getElem? (i := 54) rfl))) (by decide) S102.1 (c_sba l Z a0 G a15 u t104 b57 kb105 kb58 34 (((([] : List Int32) ++ [(67 : Int32), (97 : Int32), (110 : Int32), (110 : Int32), (111 : Int32), (116 : Int32), (32 : Int32), (103 : Int32), (105 : Int32), (118 : Int32), (101 : Int32), (32 : Int32), (98 : Int32), (101 : Int32), (97 : Int32), (110 : Int32), (32 : Int32), (34 : Int32)]) ++ ([] : List Int32)) ++ [(34 : Int32), (32 : Int32), (116 : Int32), (104 : Int32), (101 : Int32), (32 : Int32), (97 : Int32), (108 : Int32), (105 : Int32), (97 : Int32), (115 : Int32), (32 : Int32), (34 : Int32)]) ([y0, y1]) h100 S102 e106 f107 f108 kc109 b110 l111 (by first | (simp; done) | exact Nat.le_of_ble_eq_true rfl)) (by simp) (argsL := [.ref u]) (rest := [.ref a1, .ref a1]) pd_17 rfl rfl rfl rfl 2 (Nat.le_of_eq rfl) (by decide) (by decide) (ck := 8) rfl (cs := 228) rfl (by decide) (by decide) d5_26 29 rfl ?_
  intro w115 T113 h117 X114 hq116
  obtain ⟨rfl, K118, S119⟩ := hq116
  have x120 : Ext h h117 := (ext_keep x103 K118 (fun x hx => by simp only [List.mem_cons, List.not_mem_nil, or_false] at hx; rcases hx with rfl | rfl <;> first | exact le_a15 | exact le_b57))
  refine g_ldcS X114 (cs := [(34 : Int32), (58 : Int32), (32 : Int32), (116 : Int32), (104 : Int32), (97 : Int32), (116 : Int32), (32 : Int32), (110 : Int32), (97 : Int32), (109 : Int32), (101 : Int32), (32 : Int32), (105 : Int32), (115 : Int32), (32 : Int32), (97 : Int32), (108 : Int32), (114 : Int32), (101 : Int32), (97 : Int32), (100 : Int32), (121 : Int32), (32 : Int32), (105 : Int32), (110 : Int32), (32 : Int32), (117 : Int32), (115 : Int32), (101 : Int32)]) rfl (hw _ (List.mem_of_getElem? (i := 123) rfl)) hSA (by simp [EL, consts_1]) ⟨by decide, by decide⟩ (by decide) (by decide) d5_29 120 (by decide) (by decide) (ck := 10) rfl (cs' := 352) rfl (by decide) (by decide) 31 rfl ?_
  intro s121 T122 h123 X124 E125 S126
  obtain ⟨t127, kb128, e129, f130, f131, kc132, b133, l134, n135⟩ := id S126
  refine g_callVv X124 (hw _ (List.mem_of_getElem? (i := 51) rfl)) (hw _ (List.mem_of_getElem? (i := 52) rfl)) (hw _ (List.mem_of_getElem? (i := 54) rfl)) (hw _ (List.mem_of_getElem? (i := 53) rfl)) (hw _ (List.mem_of_getElem? (i := 34) rfl)) (hw _ (List.mem_of_getElem? (i := 55) rfl)) (nfSel (hw _ (List.mem_of_getElem? (i := 54) rfl))) (by decide) (S119.ext E125).1 (c_sbaG l Z a0 G a15 s121 t127 b57 kb128 kb58 34 ((((([] : List Int32) ++ [(67 : Int32), (97 : Int32), (110 : Int32), (110 : Int32), (111 : Int32), (116 : Int32), (32 : Int32), (103 : Int32), (105 : Int32), (118 : Int32), (101 : Int32), (32 : Int32), (98 : Int32), (101 : Int32), (97 : Int32), (110 : Int32), (32 : Int32), (34 : Int32)]) ++ ([] : List Int32)) ++ [(34 : Int32), (32 : Int32), (116 : Int32), (104 : Int32), (101 : Int32), (32 : Int32), (97 : Int32), (108 : Int32), (105 : Int32), (97 : Int32), (115 : Int32), (32 : Int32), (34 : Int32)]) ++ [y0, y1]) ([(34 : Int32), (58 : Int32), (32 : Int32), (116 : Int32), (104 : Int32), (97 : Int32), (116 : Int32), (32 : Int32), (110 : Int32), (97 : Int32), (109 : Int32), (101 : Int32), (32 : Int32), (105 : Int32), (115 : Int32), (32 : Int32), (97 : Int32), (108 : Int32), (114 : Int32), (101 : Int32), (97 : Int32), (100 : Int32), (121 : Int32), (32 : Int32), (105 : Int32), (110 : Int32), (32 : Int32), (117 : Int32), (115 : Int32), (101 : Int32)]) h123 (S119.ext E125) e129 f130 f131 kc132 b133 l134 (n135 a15 (by simp)).1 (n135 a15 (by simp)).2 (by decide) (by first | (simp; done) | exact Nat.le_of_ble_eq_true rfl) (by first | (simp; done) | exact Nat.le_of_ble_eq_true rfl) (by decide) (by decide)) (by simp) (argsL := [.ref s121]) (rest := [.ref a1, .ref a1]) pd_17 rfl rfl rfl rfl 2 (Nat.le_of_eq rfl) (by decide) (by decide) (ck := 11) rfl (cs := 422) rfl (by decide) (by decide) d5_31 34 rfl ?_
  intro w138 T136 h140 X137 hq139
  obtain ⟨rfl, b141, kb142, K143, le144, S145⟩ := hq139
  have X146 := X137.add (elL hw 70 (by decide)) S145.arv (Nat.le_trans X124.old.1 le144)
  have le_b141 : h.size ≤ b141 := Nat.le_trans (x120.trans E125).1 le144
  have ne_a1_b141 : a1 ≠ b141 := Nat.ne_of_lt (Nat.lt_of_lt_of_le (((((((((A7.ext E20).keep K32).ext E41).keep K59).keep K78).ext E85).keep K101).keep K118).ext E125).lt le144)
  have ne_a15_b141 : a15 ≠ b141 := Nat.ne_of_lt (Nat.lt_of_lt_of_le (S119.ext E125).lt le144)
  have x147 : Ext h h140 := (ext_keep (x120.trans E125) K143 (fun x hx => by simp only [List.mem_cons, List.not_mem_nil, or_false] at hx; rcases hx with rfl <;> first | exact le_a15))
  refine g_callVv X146 (hw _ (List.mem_of_getElem? (i := 124) rfl)) (hw _ (List.mem_of_getElem? (i := 125) rfl)) (hw _ (List.mem_of_getElem? (i := 127) rfl)) (hw _ (List.mem_of_getElem? (i := 126) rfl)) (hw _ (List.mem_of_getElem? (i := 34) rfl)) (hw _ (List.mem_of_getElem? (i := 128) rfl)) (nfSel (hw _ (List.mem_of_getElem? (i := 127) rfl))) (by decide) S145.1 (c_sts l Z a0 G a15 b141 kb142 70 (((((([] : List Int32) ++ [(67 : Int32), (97 : Int32), (110 : Int32), (110 : Int32), (111 : Int32), (116 : Int32), (32 : Int32), (103 : Int32), (105 : Int32), (118 : Int32), (101 : Int32), (32 : Int32), (98 : Int32), (101 : Int32), (97 : Int32), (110 : Int32), (32 : Int32), (34 : Int32)]) ++ ([] : List Int32)) ++ [(34 : Int32), (32 : Int32), (116 : Int32), (104 : Int32), (101 : Int32), (32 : Int32), (97 : Int32), (108 : Int32), (105 : Int32), (97 : Int32), (115 : Int32), (32 : Int32), (34 : Int32)]) ++ [y0, y1]) ++ [(34 : Int32), (58 : Int32), (32 : Int32), (116 : Int32), (104 : Int32), (97 : Int32), (116 : Int32), (32 : Int32), (110 : Int32), (97 : Int32), (109 : Int32), (101 : Int32), (32 : Int32), (105 : Int32), (115 : Int32), (32 : Int32), (97 : Int32), (108 : Int32), (114 : Int32), (101 : Int32), (97 : Int32), (100 : Int32), (121 : Int32), (32 : Int32), (105 : Int32), (110 : Int32), (32 : Int32), (117 : Int32), (115 : Int32), (101 : Int32)]) h140 S145 (by first | (simp; done) | exact Nat.le_of_ble_eq_true rfl) (by first | (simp; done) | exact Nat.le_of_ble_eq_true rfl)) (by simp) (argsL := []) (rest := [.ref a1, .ref a1]) pd_21 rfl rfl rfl rfl 2 (Nat.le_of_eq rfl) (by decide) (by decide) (ck := 13) rfl (cs := 491) rfl (by decide) (by decide) d5_34 37 rfl ?_
  intro w150 T148 h152 X149 hq151
  obtain ⟨r153, rfl, E154, SN155⟩ := hq151
  have S156 : Str Z h152 (b141 :: b57 :: b30 :: a15 :: a1 :: us) r153 (((((([] : List Int32) ++ [(67 : Int32), (97 : Int32), (110 : Int32), (110 : Int32), (111 : Int32), (116 : Int32), (32 : Int32), (103 : Int32), (105 : Int32), (118 : Int32), (101 : Int32), (32 : Int32), (98 : Int32), (101 : Int32), (97 : Int32), (110 : Int32), (32 : Int32), (34 : Int32)]) ++ ([] : List Int32)) ++ [(34 : Int32), (32 : Int32), (116 : Int32), (104 : Int32), (101 : Int32), (32 : Int32), (97 : Int32), (108 : Int32), (105 : Int32), (97 : Int32), (115 : Int32), (32 : Int32), (34 : Int32)]) ++ [y0, y1]) ++ [(34 : Int32), (58 : Int32), (32 : Int32), (116 : Int32), (104 : Int32), (97 : Int32), (116 : Int32), (32 : Int32), (110 : Int32), (97 : Int32), (109 : Int32), (101 : Int32), (32 : Int32), (105 : Int32), (115 : Int32), (32 : Int32), (97 : Int32), (108 : Int32), (114 : Int32), (101 : Int32), (97 : Int32), (100 : Int32), (121 : Int32), (32 : Int32), (105 : Int32), (110 : Int32), (32 : Int32), (117 : Int32), (115 : Int32), (101 : Int32)]) := SN155.str X146.news
  have sn_r153 : StrN Z h h152 r153 (((((([] : List Int32) ++ [(67 : Int32), (97 : Int32), (110 : Int32), (110 : Int32), (111 : Int32), (116 : Int32), (32 : Int32), (103 : Int32), (105 : Int32), (118 : Int32), (101 : Int32), (32 : Int32), (98 : Int32), (101 : Int32), (97 : Int32), (110 : Int32), (32 : Int32), (34 : Int32)]) ++ ([] : List Int32)) ++ [(34 : Int32), (32 : Int32), (116 : Int32), (104 : Int32), (101 : Int32), (32 : Int32), (97 : Int32), (108 : Int32), (105 : Int32), (97 : Int32), (115 : Int32), (32 : Int32), (34 : Int32)]) ++ [y0, y1]) ++ [(34 : Int32), (58 : Int32), (32 : Int32), (116 : Int32), (104 : Int32), (97 : Int32), (116 : Int32), (32 : Int32), (110 : Int32), (97 : Int32), (109 : Int32), (101 : Int32), (32 : Int32), (105 : Int32), (115 : Int32), (32 : Int32), (97 : Int32), (108 : Int32), (114 : Int32), (101 : Int32), (97 : Int32), (100 : Int32), (121 : Int32), (32 : Int32), (105 : Int32), (110 : Int32), (32 : Int32), (117 : Int32), (115 : Int32), (101 : Int32)]) := SN155.mono x147.1
  refine g_callIK X149 hkn rfl (hw _ (List.mem_of_getElem? (i := 163) rfl)) (hw _ (List.mem_of_getElem? (i := 164) rfl)) (hw _ (List.mem_of_getElem? (i := 28) rfl)) (hw _ (List.mem_of_getElem? (i := 165) rfl)) (by decide) (c_bni l Z a0 G hst a1 r153 h152 (((((((((((A7.ext E20).keep K32).ext E41).keep K59).keep K78).ext E85).keep K101).keep K118).ext E125).keep K143).ext E154) (((((((((((U9.ext E20).keep K32 (ninS ne_a1_a15 nin0)).ext E41).keep K59 (ninS ne_a1_a15 nin0)).keep K78 (ninS ne_a1_a15 (ninS ne_a1_b57 nin0))).ext E85).keep K101 (ninS ne_a1_a15 (ninS ne_a1_b57 nin0))).keep K118 (ninS ne_a1_a15 (ninS ne_a1_b57 nin0))).ext E125).keep K143 (ninS ne_a1_a15 nin0)).ext E154) (((((((((((F10.ext E20).keep K32 (ninS ne_a1_a15 nin0)).ext E41).keep K59 (ninS ne_a1_a15 nin0)).keep K78 (ninS ne_a1_a15 (ninS ne_a1_b57 nin0))).ext E85).keep K101 (ninS ne_a1_a15 (ninS ne_a1_b57 nin0))).keep K118 (ninS ne_a1_a15 (ninS ne_a1_b57 nin0))).ext E125).keep K143 (ninS ne_a1_a15 nin0)).ext E154) (((((((((((F11.ext E20).keep K32 (ninS ne_a1_a15 nin0)).ext E41).keep K59 (ninS ne_a1_a15 nin0)).keep K78 (ninS ne_a1_a15 (ninS ne_a1_b57 nin0))).ext E85).keep K101 (ninS ne_a1_a15 (ninS ne_a1_b57 nin0))).keep K118 (ninS ne_a1_a15 (ninS ne_a1_b57 nin0))).ext E125).keep K143 (ninS ne_a1_a15 nin0)).ext E154) (((((((((((F12.ext E20).keep K32 (ninS ne_a1_a15 nin0)).ext E41).keep K59 (ninS ne_a1_a15 nin0)).keep K78 (ninS ne_a1_a15 (ninS ne_a1_b57 nin0))).ext E85).keep K101 (ninS ne_a1_a15 (ninS ne_a1_b57 nin0))).keep K118 (ninS ne_a1_a15 (ninS ne_a1_b57 nin0))).ext E125).keep K143 (ninS ne_a1_a15 nin0)).ext E154) (((((((((((F13.ext E20).keep K32 (ninS ne_a1_a15 nin0)).ext E41).keep K59 (ninS ne_a1_a15 nin0)).keep K78 (ninS ne_a1_a15 (ninS ne_a1_b57 nin0))).ext E85).keep K101 (ninS ne_a1_a15 (ninS ne_a1_b57 nin0))).keep K118 (ninS ne_a1_a15 (ninS ne_a1_b57 nin0))).ext E125).keep K143 (ninS ne_a1_a15 nin0)).ext E154) (((((((((((F14.ext E20).keep K32 (ninS ne_a1_a15 nin0)).ext E41).keep K59 (ninS ne_a1_a15 nin0)).keep K78 (ninS ne_a1_a15 (ninS ne_a1_b57 nin0))).ext E85).keep K101 (ninS ne_a1_a15 (ninS ne_a1_b57 nin0))).keep K118 (ninS ne_a1_a15 (ninS ne_a1_b57 nin0))).ext E125).keep K143 (ninS ne_a1_a15 nin0)).ext E154)) (by simp) (a := a1) (argsL := [.ref r153]) (rest := [.ref a1]) pd_2 rfl rfl rfl rfl 1 (Nat.le_of_eq rfl) (by decide) (by decide) (ck := 14) rfl (cs := 3243) rfl (by decide) (by decide) d5_37 40 rfl ?_
  intro T157 h158 X159 hq160
  obtain ⟨K161, E162, F163⟩ := hq160
  have x164 : Ext h h158 := (ext_keep (x147.trans E154) K161 (fun x hx => by simp only [List.mem_cons, List.not_mem_nil, or_false] at hx; rcases hx with rfl <;> first | exact le_a1))
  have X165 := X159.sub (us' := us) (by intro x hx; simp [hx])
  exact g_retA X165 rfl rfl rfl d5_40 (by decide) (by decide) ⟨_, rfl, ⟨a1, r153, rfl, x164, E162, F163, ((S156.keep K161 (by simp)).sub (us' := us) (by intro x hx; first | (simp [hx]; done) | (simp at hx ⊢; simp_all)))⟩⟩
set_option maxRecDepth 65536 in
set_option maxHeartbeats 40000000 in
theorem c_al10 (l : Launch) (Z : State) (a0 : Array Value) (G : Gl Z a0) (hst : l.stackTraces = true) (t u : Addr) (us : List Addr) (x0 x1 y0 y1 : Int32) (h : Heap) (ST : Str Z h us t [x0]) (SU : Str Z h us u ([] : List Int32)) :
    CtrK KnownK l Z EL nw (⟨"com/example/capsa/capsa/BeanNameInUseException", "alias", "(Ljava/lang/String;Ljava/lang/String;)Lcom/example/capsa/capsa/BeanNameInUseException;"⟩ : MethodName) prog_2_method_3_code 2 (Option.some (Jvm.ClassFile.FieldType.object "com/example/capsa/capsa/BeanNameInUseException")) ({ frames := 8, cells := 14, slots := 3243, locals := 108 } : Room) #[.ref t, .ref u] h us (ValQ fun w h' => ∃ j r, w = .ref j ∧ Ext h h' ∧ Exa Z h' j "com/example/capsa/capsa/BeanNameInUseException" ∧ Fld Z h' j "java/lang/Throwable" "detailMessage" "Ljava/lang/String;" (.ref r) ∧ Str Z h' us r (msgL [x0] ([] : List Int32))) := by
  obtain ⟨hw, hEL, hSA, ⟨zc, SC, hz⟩, ⟨fm, SF, hfm⟩, ⟨u0, SUn⟩, ⟨sp, SP, hsp⟩⟩ := id G
  refine CtrK.enter (K := KnownK) (own := "com/example/capsa/capsa/BeanNameInUseException") (nm := "alias") rfl rfl hEL (plainFor_of_name pn_12) #[.val (.ref t), .val (.ref u)] (fun m => by first | rfl | (simp [entryFrame, mkF, argsToLocals, Value.category, maxLocals]; done)) ?_
  intro p e s m below meth c T hfr hkn hZs X
  refine g_newU X (hw _ (List.mem_of_getElem? (i := 30) rfl)) (hw _ (List.mem_of_getElem? (i := 31) rfl)) (hw _ (List.mem_of_getElem? (i := 28) rfl)) d5_0 (ck := 1) rfl (cs := 6) rfl (by decide) (by decide) 3 rfl ?_
  intro a1 T2 h3 ea4 X5 E6 A7 D8 U9
  have le_a1 : h.size ≤ a1 := by rw [ea4]; exact (Ext.refl h).1
  have ne_t_a1 : t ≠ a1 := by rw [ea4]; exact Nat.ne_of_lt ST.lt
  have ne_u_a1 : u ≠ a1 := by rw [ea4]; exact Nat.ne_of_lt SU.lt
  have F10 : Fld Z h3 a1 "java/lang/Throwable" "backtrace" "Ljava/lang/Object;" (.null) := D8 (Or.inl (hw _ (List.mem_of_getElem? (i := 221) rfl))) (ty := (.object "java/lang/Object")) (by decide +kernel)
  have F11 : Fld Z h3 a1 "java/lang/Throwable" "cause" "Ljava/lang/Throwable;" (.null) := D8 (Or.inl (hw _ (List.mem_of_getElem? (i := 190) rfl))) (ty := (.object "java/lang/Throwable")) (by decide +kernel)
  have F12 : Fld Z h3 a1 "java/lang/Throwable" "stackTrace" "[Ljava/lang/StackTraceElement;" (.null) := D8 (Or.inl (hw _ (List.mem_of_getElem? (i := 193) rfl))) (ty := (.array (.object "java/lang/StackTraceElement"))) (by decide +kernel)
  have F13 : Fld Z h3 a1 "java/lang/Throwable" "suppressedExceptions" "Ljava/util/List;" (.null) := D8 (Or.inl (hw _ (List.mem_of_getElem? (i := 196) rfl))) (ty := (.object "java/util/List")) (by decide +kernel)
  have F14 : Fld Z h3 a1 "java/lang/Throwable" "detailMessage" "Ljava/lang/String;" (.null) := D8 (Or.inl (hw _ (List.mem_of_getElem? (i := 220) rfl))) (ty := (.object "java/lang/String")) (by decide +kernel)
  refine g_dup X5 d5_3 rfl 4 rfl ?_
  refine g_new X5 (hw _ (List.mem_of_getElem? (i := 32) rfl)) (hw _ (List.mem_of_getElem? (i := 33) rfl)) (hw _ (List.mem_of_getElem? (i := 34) rfl)) d5_4 (ck := 2) rfl (cs := 10) rfl (by decide) (by decide) 7 rfl ?_
  intro a15 T16 h17 ea18 X19 E20 A21 D22
  have le_a15 : h.size ≤ a15 := by rw [ea18]; exact ((Ext.refl h).trans E6).1
  have ne_t_a15 : t ≠ a15 := by rw [ea18]; exact Nat.ne_of_lt (ST.grow E6 ea4).lt
  have ne_u_a15 : u ≠ a15 := by rw [ea18]; exact Nat.ne_of_lt (SU.grow E6 ea4).lt
  have ne_a1_a15 : a1 ≠ a15 := by rw [ea18]; exact Nat.ne_of_lt A7.lt
  have F23 : Fld Z h17 a15 "java/lang/AbstractStringBuilder" "value" "[B" (.null) := D22 (Or.inl (hw _ (List.mem_of_getElem? (i := 47) rfl))) (ty := (.array .byte)) (by decide +kernel)
  have F24 : Fld Z h17 a15 "java/lang/AbstractStringBuilder" "coder" "B" (.int (0 : Int32)) := D22 (Or.inl (hw _ (List.mem_of_getElem? (i := 49) rfl))) (ty := .byte) (by decide +kernel)
  have F25 : Fld Z h17 a15 "java/lang/AbstractStringBuilder" "count" "I" (.int (0 : Int32)) := D22 (Or.inl (hw _ (List.mem_of_getElem? (i := 73) rfl))) (ty := .int) (by decide +kernel)
  refine g_dup X19 d5_7 rfl 8 rfl ?_
  refine g_callIn X19 rfl (hw _ (List.mem_of_getElem? (i := 35) rfl)) (hw _ (List.mem_of_getElem? (i := 36) rfl)) (hw _ (List.mem_of_getElem? (i := 34) rfl)) (hw _ (List.mem_of_getElem? (i := 37) rfl)) (by decide) (c_sbi l Z a0 G a15 h17 A21 F23 F24 F25) (by simp) (argsL := []) (rest := [.ref a15, .ref a1, .ref a1]) pd_15 rfl rfl rfl rfl 3 (Nat.le_of_eq rfl) (by decide) (by decide) (ck := 3) rfl (cs := 26) rfl (by decide) (by decide) d5_8 11 rfl ?_
  intro T26 h29 X27 hq28
  obtain ⟨b30, kb31, K32, le33, S34⟩ := hq28
  have X35 := X27.add (elL hw 16 (by decide)) S34.arv (Nat.le_trans X19.old.1 le33)
  have le_b30 : h.size ≤ b30 := Nat.le_trans (((Ext.refl h).trans E6).trans E20).1 le33
  have ne_a1_b30 : a1 ≠ b30 := Nat.ne_of_lt (Nat.lt_of_lt_of_le (A7.ext E20).lt le33)
  have ne_a15_b30 : a15 ≠ b30 := Nat.ne_of_lt (Nat.lt_of_lt_of_le A21.lt le33)
  have x36 : Ext h h29 := (ext_keep (((Ext.refl h).trans E6).trans E20) K32 (fun x hx => by simp only [List.mem_cons, List.not_mem_nil, or_false] at hx; rcases hx with rfl <;> first | exact le_a15))
  refine g_ldcS X35 (cs := [(67 : Int32), (97 : Int32), (110 : Int32), (110 : Int32), (111 : Int32), (116 : Int32), (32 : Int32), (103 : Int32), (105 : Int32), (118 : Int32), (101 : Int32), (32 : Int32), (98 : Int32), (101 : Int32), (97 : Int32), (110 : Int32), (32 : Int32), (34 : Int32)]) rfl (hw _ (List.mem_of_getElem? (i := 50) rfl)) hSA (by simp [EL, consts_1]) ⟨by decide, by decide⟩ (by decide) (by decide) d5_11 72 (by decide) (by decide) (ck := 5) rfl (cs' := 102) rfl (by decide) (by decide) 13 rfl ?_
  intro s37 T38 h39 X40 E41 S42
  obtain ⟨t43, kb44, e45, f46, f47, kc48, b49, l50, n51⟩ := id S42
  refine g_callVv X40 (hw _ (List.mem_of_getElem? (i := 51) rfl)) (hw _ (List.mem_of_getElem? (i := 52) rfl)) (hw _ (List.mem_of_getElem? (i := 54) rfl)) (hw _ (List.mem_of_getElem? (i := 53) rfl)) (hw _ (List.mem_of_getElem? (i := 34) rfl)) (hw _ (List.mem_of_getElem? (i := 55) rfl)) (nfSel (hw _ (List.mem_of_getElem? (i := 54) rfl))) (by decide) (S34.ext E41).1 (c_sbaG l Z a0 G a15 s37 t43 b30 kb44 kb31 16 ([] : List Int32) ([(67 : Int32), (97 : Int32), (110 : Int32), (110 : Int32), (111 : Int32), (116 : Int32), (32 : Int32), (103 : Int32), (105 : Int32), (118 : Int32), (101 : Int32), (32 : Int32), (98 : Int32), (101 : Int32), (97 : Int32), (110 : Int32), (32 : Int32), (34 : Int32)]) h39 (S34.ext E41) e45 f46 f47 kc48 b49 l50 (n51 a15 (by simp)).1 (n51 a15 (by simp)).2 (by decide) (by first | (simp; done) | exact Nat.le_of_ble_eq_true rfl) (by first | (simp; done) | exact Nat.le_of_ble_eq_true rfl) (by decide) (by decide)) (by simp) (argsL := [.ref s37]) (rest := [.ref a1, .ref a1]) pd_17 rfl rfl rfl rfl 2 (Nat.le_of_eq rfl) (by decide) (by decide) (ck := 6) rfl (cs := 172) rfl (by decide) (by decide) d5_13 16 rfl ?_
  intro w54 T52 h56 X53 hq55
  obtain ⟨rfl, b57, kb58, K59, le60, S61⟩ := hq55
  have X62 := X53.add (elL hw 34 (by decide)) S61.arv (Nat.le_trans X40.old.1 le60)
  have le_b57 : h.size ≤ b57 := Nat.le_trans (x36.trans E41).1 le60
  have ne_a1_b57 : a1 ≠ b57 := Nat.ne_of_lt (Nat.lt_of_lt_of_le (((A7.ext E20).keep K32).ext E41).lt le60)
  have ne_a15_b57 : a15 ≠ b57 := Nat.ne_of_lt (Nat.lt_of_lt_of_le (S34.ext E41).lt le60)
  have x63 : Ext h h56 := (ext_keep (x36.trans E41) K59 (fun x hx => by simp only [List.mem_cons, List.not_mem_nil, or_false] at hx; rcases hx with rfl <;> first | exact le_a15))
  refine g_aloadN X62 d5_16 rfl rfl 17 rfl ?_
  obtain ⟨t64, kb65, e66, f67, f68, kc69, b70, l71, n72⟩ := id (((((ST.grow E6 ea4).grow E20 ea18).growK K32 (by simp) le33).ext E41).growK K59 (by simp) le60)
  refine g_callVv X62 (hw _ (List.mem_of_getElem? (i := 51) rfl)) (hw _ (List.mem_of_getElem? (i := 52) rfl)) (hw _ (List.mem_of_getElem? (i := 54) rfl)) (hw _ (List.mem_of_getElem? (i := 53) rfl)) (hw _ (List.mem_of_getElem? (i := 34) rfl)) (hw _ (List.mem_of_getElem? (i := 55) rfl)) (nfSel (hw _ (List.mem_of_getElem? (i := 54) rfl))) (by decide) S61.1 (c_sba l Z a0 G a15 t t64 b57 kb65 kb58 34 (([] : List Int32) ++ [(67 : Int32), (97 : Int32), (110 : Int32), (110 : Int32), (111 : Int32), (116 : Int32), (32 : Int32), (103 : Int32), (105 : Int32), (118 : Int32), (101 : Int32), (32 : Int32), (98 : Int32), (101 : Int32), (97 : Int32), (110 : Int32), (32 : Int32), (34 : Int32)]) ([x0]) h56 S61 e66 f67 f68 kc69 b70 l71 (by first | (simp; done) | exact Nat.le_of_ble_eq_true rfl)) (by simp) (argsL := [.ref t]) (rest := [.ref a1, .ref a1]) pd_17 rfl rfl rfl rfl 2 (Nat.le_of_eq rfl) (by decide) (by decide) (ck := 6) rfl (cs := 172) rfl (by decide) (by decide) d5_17 20 rfl ?_
  intro w75 T73 h77 X74 hq76
  obtain ⟨rfl, K78, S79⟩ := hq76
  have x80 : Ext h h77 := (ext_keep x63 K78 (fun x hx => by simp only [List.mem_cons, List.not_mem_nil, or_false] at hx; rcases hx with rfl | rfl <;> first | exact le_a15 | exact le_b57))
  refine g_ldcS X74 (cs := [(34 : Int32), (32 : Int32), (116 : Int32), (104 : Int32), (101 : Int32), (32 : Int32), (97 : Int32), (108 : Int32), (105 : Int32), (97 : Int32), (115 : Int32), (32 : Int32), (34 : Int32)]) rfl (hw _ (List.mem_of_getElem? (i := 122) rfl)) hSA (by simp [EL, consts_1]) ⟨by decide, by decide⟩ (by decide) (by decide) d5_20 52 (by decide) (by decide) (ck := 8) rfl (cs' := 228) rfl (by decide) (by decide) 22 rfl ?_
  intro s81 T82 h83 X84 E85 S86
  obtain ⟨t87, kb88, e89, f90, f91, kc92, b93, l94, n95⟩ := id S86
  refine g_callVv X84 (hw _ (List.mem_of_getElem? (i := 51) rfl)) (hw _ (List.mem_of_getElem? (i := 52) rfl)) (hw _ (List.mem_of_getElem? (i := 54) rfl)) (hw _ (List.mem_of_getElem? (i := 53) rfl)) (hw _ (List.mem_of_getElem? (i := 34) rfl)) (hw _ (List.mem_of_getElem? (i := 55) rfl)) (nfSel (hw _ (List.mem_of_getElem? (i := 54) rfl))) (by decide) (S79.ext E85).1 (c_sba l Z a0 G a15 s81 t87 b57 kb88 kb58 34 ((([] : List Int32) ++ [(67 : Int32), (97 : Int32), (110 : Int32), (110 : Int32), (111 : Int32), (116 : Int32), (32 : Int32), (103 : Int32), (105 : Int32), (118 : Int32), (101 : Int32), (32 : Int32), (98 : Int32), (101 : Int32), (97 : Int32), (110 : Int32), (32 : Int32), (34 : Int32)]) ++ [x0]) ([(34 : Int32), (32 : Int32), (116 : Int32), (104 : Int32), (101 : Int32), (32 : Int32), (97 : Int32), (108 : Int32), (105 : Int32), (97 : Int32), (115 : Int32), (32 : Int32), (34 : Int32)]) h83 (S79.ext E85) e89 f90 f91 kc92 b93 l94 (by first | (simp; done) | exact Nat.le_of_ble_eq_true rfl)) (by simp) (argsL := [.ref s81]) (rest := [.ref a1, .ref a1]) pd_17 rfl rfl rfl rfl 2 (Nat.le_of_eq rfl) (by decide) (by decide) (ck := 8) rfl (cs := 228) rfl (by decide) (by decide) d5_22 25 rfl ?_
  intro w98 T96 h100 X97 hq99
  obtain ⟨rfl, K101, S102⟩ := hq99
  have x103 : Ext h h100 := (ext_keep (x80.trans E85) K101 (fun x hx => by simp only [List.mem_cons, List.not_mem_nil, or_false] at hx; rcases hx with rfl | rfl <;> first | exact le_a15 | exact le_b57))
  refine g_aloadN X97 d5_25 rfl rfl 26 rfl ?_
  obtain ⟨t104, kb105, e106, f107, f108, kc109, b110, l111, n112⟩ := id ((((((((SU.grow E6 ea4).grow E20 ea18).growK K32 (by simp) le33).ext E41).growK K59 (by simp) le60).keep K78 (by simp)).ext E85).keep K101 (by simp))
  refine g_callVv X97 (hw _ (List.mem_of_getElem? (i := 51) rfl)) (hw _ (List.mem_of_getElem? (i := 52) rfl)) (hw _ (List.mem_of_getElem? (i := 54) rfl)) (hw _ (List.mem_of_getElem? (i := 53) rfl)) (hw _ (List.mem_of_getElem? (i := 34) rfl)) (hw _ (List.mem_of_getElem? (i := 55) rfl)) (nfSel (hw _ (List.mem_of_getElem? (i := 54) rfl))) (by decide) S102.1 (c_sba l Z a0 G a15 u t104 b57 kb105 kb58 34 (((([] : List Int32) ++ [(67 : Int32), (97 : Int32), (110 : Int32), (110 : Int32), (111 : Int32), (116 : Int32), (32 : Int32), (103 : Int32), (105 : Int32), (118 : Int32), (101 : Int32), (32 : Int32), (98 : Int32), (101 : Int32), (97 : Int32), (110 : Int32), (32 : Int32), (34 : Int32)]) ++ [x0]) ++ [(34 : Int32), (32 : Int32), (116 : Int32), (104 : Int32), (101 : Int32), (32 : Int32), (97 : Int32), (108 : Int32), (105 : Int32), (97 : Int32), (115 : Int32), (32 : Int32), (34 : Int32)]) ([] : List Int32) h100 S102 e106 f107 f108 kc109 b110 l111 (by first | (simp; done) | exact Nat.le_of_ble_eq_true rfl)) (by simp) (argsL := [.ref u]) (rest := [.ref a1, .ref a1]) pd_17 rfl rfl rfl rfl 2 (Nat.le_of_eq rfl) (by decide) (by decide) (ck := 8) rfl (cs := 228) rfl (by decide) (by decide) d5_26 29 rfl ?_
  intro w115 T113 h117 X114 hq116
  obtain ⟨rfl, K118, S119⟩ := hq116
  have x120 : Ext h h117 := (ext_keep x103 K118 (fun x hx => by simp only [List.mem_cons, List.not_mem_nil, or_false] at hx; rcases hx with rfl | rfl <;> first | exact le_a15 | exact le_b57))
  refine g_ldcS X114 (cs := [(34 : Int32), (58 : Int32), (32 : Int32), (116 : Int32), (104 : Int32), (97 : Int32), (116 : Int32), (32 : Int32), (110 : Int32), (97 : Int32), (109 : Int32), (101 : Int32), (32 : Int32), (105 : Int32), (115 : Int32), (32 : Int32), (97 : Int32), (108 : Int32), (114 : Int32), (101 : Int32), (97 : Int32), (100 : Int32), (121 : Int32), (32 : Int32), (105 : Int32), (110 : Int32), (32 : Int32), (117 : Int32), (115 : Int32), (101 : Int32)]) rfl (hw _ (List.mem_of_getElem? (i := 123) rfl)) hSA (by simp [EL, consts_1]) ⟨by decide, by decide⟩ (by decide) (by decide) d5_29 120 (by decide) (by decide) (ck := 10) rfl (cs' := 352) rfl (by decide) (by decide) 31 rfl ?_
  intro s121 T122 h123 X124 E125 S126
  obtain ⟨t127, kb128, e129, f130, f131, kc132, b133, l134, n135⟩ := id S126
  refine g_callVv X124 (hw _ (List.mem_of_getElem? (i := 51) rfl)) (hw _ (List.mem_of_getElem? (i := 52) rfl)) (hw _ (List.mem_of_getElem? (i := 54) rfl)) (hw _ (List.mem_of_getElem? (i := 53) rfl)) (hw _ (List.mem_of_getElem? (i := 34) rfl)) (hw _ (List.mem_of_getElem? (i := 55) rfl)) (nfSel (hw _ (List.mem_of_getElem? (i := 54) rfl))) (by decide) (S119.ext E125).1 (c_sbaG l Z a0 G a15 s121 t127 b57 kb128 kb58 34 ((((([] : List Int32) ++ [(67 : Int32), (97 : Int32), (110 : Int32), (110 : Int32), (111 : Int32), (116 : Int32), (32 : Int32), (103 : Int32), (105 : Int32), (118 : Int32), (101 : Int32), (32 : Int32), (98 : Int32), (101 : Int32), (97 : Int32), (110 : Int32), (32 : Int32), (34 : Int32)]) ++ [x0]) ++ [(34 : Int32), (32 : Int32), (116 : Int32), (104 : Int32), (101 : Int32), (32 : Int32), (97 : Int32), (108 : Int32), (105 : Int32), (97 : Int32), (115 : Int32), (32 : Int32), (34 : Int32)]) ++ ([] : List Int32)) ([(34 : Int32), (58 : Int32), (32 : Int32), (116 : Int32), (104 : Int32), (97 : Int32), (116 : Int32), (32 : Int32), (110 : Int32), (97 : Int32), (109 : Int32), (101 : Int32), (32 : Int32), (105 : Int32), (115 : Int32), (32 : Int32), (97 : Int32), (108 : Int32), (114 : Int32), (101 : Int32), (97 : Int32), (100 : Int32), (121 : Int32), (32 : Int32), (105 : Int32), (110 : Int32), (32 : Int32), (117 : Int32), (115 : Int32), (101 : Int32)]) h123 (S119.ext E125) e129 f130 f131 kc132 b133 l134 (n135 a15 (by simp)).1 (n135 a15 (by simp)).2 (by decide) (by first | (simp; done) | exact Nat.le_of_ble_eq_true rfl) (by first | (simp; done) | exact Nat.le_of_ble_eq_true rfl) (by decide) (by decide)) (by simp) (argsL := [.ref s121]) (rest := [.ref a1, .ref a1]) pd_17 rfl rfl rfl rfl 2 (Nat.le_of_eq rfl) (by decide) (by decide) (ck := 11) rfl (cs := 422) rfl (by decide) (by decide) d5_31 34 rfl ?_
  intro w138 T136 h140 X137 hq139
  obtain ⟨rfl, b141, kb142, K143, le144, S145⟩ := hq139
  have X146 := X137.add (elL hw 70 (by decide)) S145.arv (Nat.le_trans X124.old.1 le144)
  have le_b141 : h.size ≤ b141 := Nat.le_trans (x120.trans E125).1 le144
  have ne_a1_b141 : a1 ≠ b141 := Nat.ne_of_lt (Nat.lt_of_lt_of_le (((((((((A7.ext E20).keep K32).ext E41).keep K59).keep K78).ext E85).keep K101).keep K118).ext E125).lt le144)
  have ne_a15_b141 : a15 ≠ b141 := Nat.ne_of_lt (Nat.lt_of_lt_of_le (S119.ext E125).lt le144)
  have x147 : Ext h h140 := (ext_keep (x120.trans E125) K143 (fun x hx => by simp only [List.mem_cons, List.not_mem_nil, or_false] at hx; rcases hx with rfl <;> first | exact le_a15))
  refine g_callVv X146 (hw _ (List.mem_of_getElem? (i := 124) rfl)) (hw _ (List.mem_of_getElem? (i := 125) rfl)) (hw _ (List.mem_of_getElem? (i := 127) rfl)) (hw _ (List.mem_of_getElem? (i := 126) rfl)) (hw _ (List.mem_of_getElem? (i := 34) rfl)) (hw _ (List.mem_of_getElem? (i := 128) rfl)) (nfSel (hw _ (List.mem_of_getElem? (i := 127) rfl))) (by decide) S145.1 (c_sts l Z a0 G a15 b141 kb142 70 (((((([] : List Int32) ++ [(67 : Int32), (97 : Int32), (110 : Int32), (110 : Int32), (111 : Int32), (116 : Int32), (32 : Int32), (103 : Int32), (105 : Int32), (118 : Int32), (101 : Int32), (32 : Int32), (98 : Int32), (101 : Int32), (97 : Int32), (110 : Int32), (32 : Int32), (34 : Int32)]) ++ [x0]) ++ [(34 : Int32), (32 : Int32), (116 : Int32), (104 : Int32), (101 : Int32), (32 : Int32), (97 : Int32), (108 : Int32), (105 : Int32), (97 : Int32), (115 : Int32), (32 : Int32), (34 : Int32)]) ++ ([] : List Int32)) ++ [(34 : Int32), (58 : Int32), (32 : Int32), (116 : Int32), (104 : Int32), (97 : Int32), (116 : Int32), (32 : Int32), (110 : Int32), (97 : Int32), (109 : Int32), (101 : Int32), (32 : Int32), (105 : Int32), (115 : Int32), (32 : Int32), (97 : Int32), (108 : Int32), (114 : Int32), (101 : Int32), (97 : Int32), (100 : Int32), (121 : Int32), (32 : Int32), (105 : Int32), (110 : Int32), (32 : Int32), (117 : Int32), (115 : Int32), (101 : Int32)]) h140 S145 (by first | (simp; done) | exact Nat.le_of_ble_eq_true rfl) (by first | (simp; done) | exact Nat.le_of_ble_eq_true rfl)) (by simp) (argsL := []) (rest := [.ref a1, .ref a1]) pd_21 rfl rfl rfl rfl 2 (Nat.le_of_eq rfl) (by decide) (by decide) (ck := 13) rfl (cs := 491) rfl (by decide) (by decide) d5_34 37 rfl ?_
  intro w150 T148 h152 X149 hq151
  obtain ⟨r153, rfl, E154, SN155⟩ := hq151
  have S156 : Str Z h152 (b141 :: b57 :: b30 :: a15 :: a1 :: us) r153 (((((([] : List Int32) ++ [(67 : Int32), (97 : Int32), (110 : Int32), (110 : Int32), (111 : Int32), (116 : Int32), (32 : Int32), (103 : Int32), (105 : Int32), (118 : Int32), (101 : Int32), (32 : Int32), (98 : Int32), (101 : Int32), (97 : Int32), (110 : Int32), (32 : Int32), (34 : Int32)]) ++ [x0]) ++ [(34 : Int32), (32 : Int32), (116 : Int32), (104 : Int32), (101 : Int32), (32 : Int32), (97 : Int32), (108 : Int32), (105 : Int32), (97 : Int32), (115 : Int32), (32 : Int32), (34 : Int32)]) ++ ([] : List Int32)) ++ [(34 : Int32), (58 : Int32), (32 : Int32), (116 : Int32), (104 : Int32), (97 : Int32), (116 : Int32), (32 : Int32), (110 : Int32), (97 : Int32), (109 : Int32), (101 : Int32), (32 : Int32), (105 : Int32), (115 : Int32), (32 : Int32), (97 : Int32), (108 : Int32), (114 : Int32), (101 : Int32), (97 : Int32), (100 : Int32), (121 : Int32), (32 : Int32), (105 : Int32), (110 : Int32), (32 : Int32), (117 : Int32), (115 : Int32), (101 : Int32)]) := SN155.str X146.news
  have sn_r153 : StrN Z h h152 r153 (((((([] : List Int32) ++ [(67 : Int32), (97 : Int32), (110 : Int32), (110 : Int32), (111 : Int32), (116 : Int32), (32 : Int32), (103 : Int32), (105 : Int32), (118 : Int32), (101 : Int32), (32 : Int32), (98 : Int32), (101 : Int32), (97 : Int32), (110 : Int32), (32 : Int32), (34 : Int32)]) ++ [x0]) ++ [(34 : Int32), (32 : Int32), (116 : Int32), (104 : Int32), (101 : Int32), (32 : Int32), (97 : Int32), (108 : Int32), (105 : Int32), (97 : Int32), (115 : Int32), (32 : Int32), (34 : Int32)]) ++ ([] : List Int32)) ++ [(34 : Int32), (58 : Int32), (32 : Int32), (116 : Int32), (104 : Int32), (97 : Int32), (116 : Int32), (32 : Int32), (110 : Int32), (97 : Int32), (109 : Int32), (101 : Int32), (32 : Int32), (105 : Int32), (115 : Int32), (32 : Int32), (97 : Int32), (108 : Int32), (114 : Int32), (101 : Int32), (97 : Int32), (100 : Int32), (121 : Int32), (32 : Int32), (105 : Int32), (110 : Int32), (32 : Int32), (117 : Int32), (115 : Int32), (101 : Int32)]) := SN155.mono x147.1
  refine g_callIK X149 hkn rfl (hw _ (List.mem_of_getElem? (i := 163) rfl)) (hw _ (List.mem_of_getElem? (i := 164) rfl)) (hw _ (List.mem_of_getElem? (i := 28) rfl)) (hw _ (List.mem_of_getElem? (i := 165) rfl)) (by decide) (c_bni l Z a0 G hst a1 r153 h152 (((((((((((A7.ext E20).keep K32).ext E41).keep K59).keep K78).ext E85).keep K101).keep K118).ext E125).keep K143).ext E154) (((((((((((U9.ext E20).keep K32 (ninS ne_a1_a15 nin0)).ext E41).keep K59 (ninS ne_a1_a15 nin0)).keep K78 (ninS ne_a1_a15 (ninS ne_a1_b57 nin0))).ext E85).keep K101 (ninS ne_a1_a15 (ninS ne_a1_b57 nin0))).keep K118 (ninS ne_a1_a15 (ninS ne_a1_b57 nin0))).ext E125).keep K143 (ninS ne_a1_a15 nin0)).ext E154) (((((((((((F10.ext E20).keep K32 (ninS ne_a1_a15 nin0)).ext E41).keep K59 (ninS ne_a1_a15 nin0)).keep K78 (ninS ne_a1_a15 (ninS ne_a1_b57 nin0))).ext E85).keep K101 (ninS ne_a1_a15 (ninS ne_a1_b57 nin0))).keep K118 (ninS ne_a1_a15 (ninS ne_a1_b57 nin0))).ext E125).keep K143 (ninS ne_a1_a15 nin0)).ext E154) (((((((((((F11.ext E20).keep K32 (ninS ne_a1_a15 nin0)).ext E41).keep K59 (ninS ne_a1_a15 nin0)).keep K78 (ninS ne_a1_a15 (ninS ne_a1_b57 nin0))).ext E85).keep K101 (ninS ne_a1_a15 (ninS ne_a1_b57 nin0))).keep K118 (ninS ne_a1_a15 (ninS ne_a1_b57 nin0))).ext E125).keep K143 (ninS ne_a1_a15 nin0)).ext E154) (((((((((((F12.ext E20).keep K32 (ninS ne_a1_a15 nin0)).ext E41).keep K59 (ninS ne_a1_a15 nin0)).keep K78 (ninS ne_a1_a15 (ninS ne_a1_b57 nin0))).ext E85).keep K101 (ninS ne_a1_a15 (ninS ne_a1_b57 nin0))).keep K118 (ninS ne_a1_a15 (ninS ne_a1_b57 nin0))).ext E125).keep K143 (ninS ne_a1_a15 nin0)).ext E154) (((((((((((F13.ext E20).keep K32 (ninS ne_a1_a15 nin0)).ext E41).keep K59 (ninS ne_a1_a15 nin0)).keep K78 (ninS ne_a1_a15 (ninS ne_a1_b57 nin0))).ext E85).keep K101 (ninS ne_a1_a15 (ninS ne_a1_b57 nin0))).keep K118 (ninS ne_a1_a15 (ninS ne_a1_b57 nin0))).ext E125).keep K143 (ninS ne_a1_a15 nin0)).ext E154) (((((((((((F14.ext E20).keep K32 (ninS ne_a1_a15 nin0)).ext E41).keep K59 (ninS ne_a1_a15 nin0)).keep K78 (ninS ne_a1_a15 (ninS ne_a1_b57 nin0))).ext E85).keep K101 (ninS ne_a1_a15 (ninS ne_a1_b57 nin0))).keep K118 (ninS ne_a1_a15 (ninS ne_a1_b57 nin0))).ext E125).keep K143 (ninS ne_a1_a15 nin0)).ext E154)) (by simp) (a := a1) (argsL := [.ref r153]) (rest := [.ref a1]) pd_2 rfl rfl rfl rfl 1 (Nat.le_of_eq rfl) (by decide) (by decide) (ck := 14) rfl (cs := 3243) rfl (by decide) (by decide) d5_37 40 rfl ?_
  intro T157 h158 X159 hq160
  obtain ⟨K161, E162, F163⟩ := hq160
  have x164 : Ext h h158 := (ext_keep (x147.trans E154) K161 (fun x hx => by simp only [List.mem_cons, List.not_mem_nil, or_false] at hx; rcases hx with rfl <;> first | exact le_a1))
  have X165 := X159.sub (us' := us) (by intro x hx; simp [hx])
  exact g_retA X165 rfl rfl rfl d5_40 (by decide) (by decide) ⟨_, rfl, ⟨a1, r153, rfl, x164, E162, F163, ((S156.keep K161 (by simp)).sub (us' := us) (by intro x hx; first | (simp [hx]; done) | (simp at hx ⊢; simp_all)))⟩⟩
set_option maxRecDepth 65536 in
set_option maxHeartbeats 40000000 in
theorem c_al11 (l : Launch) (Z : State) (a0 : Array Value) (G : Gl Z a0) (hst : l.stackTraces = true) (t u : Addr) (us : List Addr) (x0 x1 y0 y1 : Int32) (h : Heap) (ST : Str Z h us t [x0]) (SU : Str Z h us u [y0]) :
    CtrK KnownK l Z EL nw (⟨"com/example/capsa/capsa/BeanNameInUseException", "alias", "(Ljava/lang/String;Ljava/lang/String;)Lcom/example/capsa/capsa/BeanNameInUseException;"⟩ : MethodName) prog_2_method_3_code 2 (Option.some (Jvm.ClassFile.FieldType.object "com/example/capsa/capsa/BeanNameInUseException")) ({ frames := 8, cells := 14, slots := 3243, locals := 108 } : Room) #[.ref t, .ref u] h us (ValQ fun w h' => ∃ j r, w = .ref j ∧ Ext h h' ∧ Exa Z h' j "com/example/capsa/capsa/BeanNameInUseException" ∧ Fld Z h' j "java/lang/Throwable" "detailMessage" "Ljava/lang/String;" (.ref r) ∧ Str Z h' us r (msgL [x0] [y0])) := by
  obtain ⟨hw, hEL, hSA, ⟨zc, SC, hz⟩, ⟨fm, SF, hfm⟩, ⟨u0, SUn⟩, ⟨sp, SP, hsp⟩⟩ := id G
  refine CtrK.enter (K := KnownK) (own := "com/example/capsa/capsa/BeanNameInUseException") (nm := "alias") rfl rfl hEL (plainFor_of_name pn_12) #[.val (.ref t), .val (.ref u)] (fun m => by first | rfl | (simp [entryFrame, mkF, argsToLocals, Value.category, maxLocals]; done)) ?_
  intro p e s m below meth c T hfr hkn hZs X
  refine g_newU X (hw _ (List.mem_of_getElem? (i := 30) rfl)) (hw _ (List.mem_of_getElem? (i := 31) rfl)) (hw _ (List.mem_of_getElem? (i := 28) rfl)) d5_0 (ck := 1) rfl (cs := 6) rfl (by decide) (by decide) 3 rfl ?_
  intro a1 T2 h3 ea4 X5 E6 A7 D8 U9
  have le_a1 : h.size ≤ a1 := by rw [ea4]; exact (Ext.refl h).1
  have ne_t_a1 : t ≠ a1 := by rw [ea4]; exact Nat.ne_of_lt ST.lt
  have ne_u_a1 : u ≠ a1 := by rw [ea4]; exact Nat.ne_of_lt SU.lt
  have F10 : Fld Z h3 a1 "java/lang/Throwable" "backtrace" "Ljava/lang/Object;" (.null) := D8 (Or.inl (hw _ (List.mem_of_getElem? (i := 221) rfl))) (ty := (.object "java/lang/Object")) (by decide +kernel)
  have F11 : Fld Z h3 a1 "java/lang/Throwable" "cause" "Ljava/lang/Throwable;" (.null) := D8 (Or.inl (hw _ (List.mem_of_getElem? (i := 190) rfl))) (ty := (.object "java/lang/Throwable")) (by decide +kernel)
  have F12 : Fld Z h3 a1 "java/lang/Throwable" "stackTrace" "[Ljava/lang/StackTraceElement;" (.null) := D8 (Or.inl (hw _ (List.mem_of_getElem? (i := 193) rfl))) (ty := (.array (.object "java/lang/StackTraceElement"))) (by decide +kernel)
  have F13 : Fld Z h3 a1 "java/lang/Throwable" "suppressedExceptions" "Ljava/util/List;" (.null) := D8 (Or.inl (hw _ (List.mem_of_getElem? (i := 196) rfl))) (ty := (.object "java/util/List")) (by decide +kernel)
  have F14 : Fld Z h3 a1 "java/lang/Throwable" "detailMessage" "Ljava/lang/String;" (.null) := D8 (Or.inl (hw _ (List.mem_of_getElem? (i := 220) rfl))) (ty := (.object "java/lang/String")) (by decide +kernel)
  refine g_dup X5 d5_3 rfl 4 rfl ?_
  refine g_new X5 (hw _ (List.mem_of_getElem? (i := 32) rfl)) (hw _ (List.mem_of_getElem? (i := 33) rfl)) (hw _ (List.mem_of_getElem? (i := 34) rfl)) d5_4 (ck := 2) rfl (cs := 10) rfl (by decide) (by decide) 7 rfl ?_
  intro a15 T16 h17 ea18 X19 E20 A21 D22
  have le_a15 : h.size ≤ a15 := by rw [ea18]; exact ((Ext.refl h).trans E6).1
  have ne_t_a15 : t ≠ a15 := by rw [ea18]; exact Nat.ne_of_lt (ST.grow E6 ea4).lt
  have ne_u_a15 : u ≠ a15 := by rw [ea18]; exact Nat.ne_of_lt (SU.grow E6 ea4).lt
  have ne_a1_a15 : a1 ≠ a15 := by rw [ea18]; exact Nat.ne_of_lt A7.lt
  have F23 : Fld Z h17 a15 "java/lang/AbstractStringBuilder" "value" "[B" (.null) := D22 (Or.inl (hw _ (List.mem_of_getElem? (i := 47) rfl))) (ty := (.array .byte)) (by decide +kernel)
  have F24 : Fld Z h17 a15 "java/lang/AbstractStringBuilder" "coder" "B" (.int (0 : Int32)) := D22 (Or.inl (hw _ (List.mem_of_getElem? (i := 49) rfl))) (ty := .byte) (by decide +kernel)
  have F25 : Fld Z h17 a15 "java/lang/AbstractStringBuilder" "count" "I" (.int (0 : Int32)) := D22 (Or.inl (hw _ (List.mem_of_getElem? (i := 73) rfl))) (ty := .int) (by decide +kernel)
  refine g_dup X19 d5_7 rfl 8 rfl ?_
  refine g_callIn X19 rfl (hw _ (List.mem_of_getElem? (i := 35) rfl)) (hw _ (List.mem_of_getElem? (i := 36) rfl)) (hw _ (List.mem_of_getElem? (i := 34) rfl)) (hw _ (List.mem_of_getElem? (i := 37) rfl)) (by decide) (c_sbi l Z a0 G a15 h17 A21 F23 F24 F25) (by simp) (argsL := []) (rest := [.ref a15, .ref a1, .ref a1]) pd_15 rfl rfl rfl rfl 3 (Nat.le_of_eq rfl) (by decide) (by decide) (ck := 3) rfl (cs := 26) rfl (by decide) (by decide) d5_8 11 rfl ?_
  intro T26 h29 X27 hq28
  obtain ⟨b30, kb31, K32, le33, S34⟩ := hq28
  have X35 := X27.add (elL hw 16 (by decide)) S34.arv (Nat.le_trans X19.old.1 le33)
  have le_b30 : h.size ≤ b30 := Nat.le_trans (((Ext.refl h).trans E6).trans E20).1 le33
  have ne_a1_b30 : a1 ≠ b30 := Nat.ne_of_lt (Nat.lt_of_lt_of_le (A7.ext E20).lt le33)
  have ne_a15_b30 : a15 ≠ b30 := Nat.ne_of_lt (Nat.lt_of_lt_of_le A21.lt le33)
  have x36 : Ext h h29 := (ext_keep (((Ext.refl h).trans E6).trans E20) K32 (fun x hx => by simp only [List.mem_cons, List.not_mem_nil, or_false] at hx; rcases hx with rfl <;> first | exact le_a15))
  refine g_ldcS X35 (cs := [(67 : Int32), (97 : Int32), (110 : Int32), (110 : Int32), (111 : Int32), (116 : Int32), (32 : Int32), (103 : Int32), (105 : Int32), (118 : Int32), (101 : Int32), (32 : Int32), (98 : Int32), (101 : Int32), (97 : Int32), (110 : Int32), (32 : Int32), (34 : Int32)]) rfl (hw _ (List.mem_of_getElem? (i := 50) rfl)) hSA (by simp [EL, consts_1]) ⟨by decide, by decide⟩ (by decide) (by decide) d5_11 72 (by decide) (by decide) (ck := 5) rfl (cs' := 102) rfl (by decide) (by decide) 13 rfl ?_
  intro s37 T38 h39 X40 E41 S42
  obtain ⟨t43, kb44, e45, f46, f47, kc48, b49, l50, n51⟩ := id S42
  refine g_callVv X40 (hw _ (List.mem_of_getElem? (i := 51) rfl)) (hw _ (List.mem_of_getElem? (i := 52) rfl)) (hw _ (List.mem_of_getElem? (i := 54) rfl)) (hw _ (List.mem_of_getElem? (i := 53) rfl)) (hw _ (List.mem_of_getElem? (i := 34) rfl)) (hw _ (List.mem_of_getElem? (i := 55) rfl)) (nfSel (hw _ (List.mem_of_getElem? (i := 54) rfl))) (by decide) (S34.ext E41).1 (c_sbaG l Z a0 G a15 s37 t43 b30 kb44 kb31 16 ([] : List Int32) ([(67 : Int32), (97 : Int32), (110 : Int32), (110 : Int32), (111 : Int32), (116 : Int32), (32 : Int32), (103 : Int32), (105 : Int32), (118 : Int32), (101 : Int32), (32 : Int32), (98 : Int32), (101 : Int32), (97 : Int32), (110 : Int32), (32 : Int32), (34 : Int32)]) h39 (S34.ext E41) e45 f46 f47 kc48 b49 l50 (n51 a15 (by simp)).1 (n51 a15 (by simp)).2 (by decide) (by first | (simp; done) | exact Nat.le_of_ble_eq_true rfl) (by first | (simp; done) | exact Nat.le_of_ble_eq_true rfl) (by decide) (by decide)) (by simp) (argsL := [.ref s37]) (rest := [.ref a1, .ref a1]) pd_17 rfl rfl rfl rfl 2 (Nat.le_of_eq rfl) (by decide) (by decide) (ck := 6) rfl (cs := 172) rfl (by decide) (by decide) d5_13 16 rfl ?_
  intro w54 T52 h56 X53 hq55
  obtain ⟨rfl, b57, kb58, K59, le60, S61⟩ := hq55
  have X62 := X53.add (elL hw 34 (by decide)) S61.arv (Nat.le_trans X40.old.1 le60)
  have le_b57 : h.size ≤ b57 := Nat.le_trans (x36.trans E41).1 le60
  have ne_a1_b57 : a1 ≠ b57 := Nat.ne_of_lt (Nat.lt_of_lt_of_le (((A7.ext E20).keep K32).ext E41).lt le60)
  have ne_a15_b57 : a15 ≠ b57 := Nat.ne_of_lt (Nat.lt_of_lt_of_le (S34.ext E41).lt le60)
  have x63 : Ext h h56 := (ext_keep (x36.trans E41) K59 (fun x hx => by simp only [List.mem_cons, List.not_mem_nil, or_false] at hx; rcases hx with rfl <;> first | exact le_a15))
  refine g_aloadN X62 d5_16 rfl rfl 17 rfl ?_
  obtain ⟨t64, kb65, e66, f67, f68, kc69, b70, l71, n72⟩ := id (((((ST.grow E6 ea4).grow E20 ea18).growK K32 (by simp) le33).ext E41).growK K59 (by simp) le60)
  refine g_callVv X62 (hw _ (List.mem_of_getElem? (i := 51) rfl)) (hw _ (List.mem_of_getElem? (i := 52) rfl)) (hw _ (List.mem_of_getElem? (i := 54) rfl)) (hw _ (List.mem_of_getElem? (i := 53) rfl)) (hw _ (List.mem_of_getElem? (i := 34) rfl)) (hw _ (List.mem_of_getElem? (i := 55) rfl)) (nfSel (hw _ (List.mem_of_getElem? (i := 54) rfl))) (by decide) S61.1 (c_sba l Z a0 G a15 t t64 b57 kb65 kb58 34 (([] : List Int32) ++ [(67 : Int32), (97 : Int32), (110 : Int32), (110 : Int32), (111 : Int32), (116 : Int32), (32 : Int32), (103 : Int32), (105 : Int32), (118 : Int32), (101 : Int32), (32 : Int32), (98 : Int32), (101 : Int32), (97 : Int32), (110 : Int32), (32 : Int32), (34 : Int32)]) ([x0]) h56 S61 e66 f67 f68 kc69 b70 l71 (by first | (simp; done) | exact Nat.le_of_ble_eq_true rfl)) (by simp) (argsL := [.ref t]) (rest := [.ref a1, .ref a1]) pd_17 rfl rfl rfl rfl 2 (Nat.le_of_eq rfl) (by decide) (by decide) (ck := 6) rfl (cs := 172) rfl (by decide) (by decide) d5_17 20 rfl ?_
  intro w75 T73 h77 X74 hq76
  obtain ⟨rfl, K78, S79⟩ := hq76
  have x80 : Ext h h77 := (ext_keep x63 K78 (fun x hx => by simp only [List.mem_cons, List.not_mem_nil, or_false] at hx; rcases hx with rfl | rfl <;> first | exact le_a15 | exact le_b57))
  refine g_ldcS X74 (cs := [(34 : Int32), (32 : Int32), (116 : Int32), (104 : Int32), (101 : Int32), (32 : Int32), (97 : Int32), (108 : Int32), (105 : Int32), (97 : Int32), (115 : Int32), (32 : Int32), (34 : Int32)]) rfl (hw _ (List.mem_of_getElem? (i := 122) rfl)) hSA (by simp [EL, consts_1]) ⟨by decide, by decide⟩ (by decide) (by decide) d5_20 52 (by decide) (by decide) (ck := 8) rfl (cs' := 228) rfl (by decide) (by decide) 22 rfl ?_
  intro s81 T82 h83 X84 E85 S86
  obtain ⟨t87, kb88, e89, f90, f91, kc92, b93, l94, n95⟩ := id S86
  refine g_callVv X84 (hw _ (List.mem_of_getElem? (i := 51) rfl)) (hw _ (List.mem_of_getElem? (i := 52) rfl)) (hw _ (List.mem_of_getElem? (i := 54) rfl)) (hw _ (List.mem_of_getElem? (i := 53) rfl)) (hw _ (List.mem_of_getElem? (i := 34) rfl)) (hw _ (List.mem_of_getElem? (i := 55) rfl)) (nfSel (hw _ (List.mem_of_getElem? (i := 54) rfl))) (by decide) (S79.ext E85).1 (c_sba l Z a0 G a15 s81 t87 b57 kb88 kb58 34 ((([] : List Int32) ++ [(67 : Int32), (97 : Int32), (110 : Int32), (110 : Int32), (111 : Int32), (116 : Int32), (32 : Int32), (103 : Int32), (105 : Int32), (118 : Int32), (101 : Int32), (32 : Int32), (98 : Int32), (101 : Int32), (97 : Int32), (110 : Int32), (32 : Int32), (34 : Int32)]) ++ [x0]) ([(34 : Int32), (32 : Int32), (116 : Int32), (104 : Int32), (101 : Int32), (32 : Int32), (97 : Int32), (108 : Int32), (105 : Int32), (97 : Int32), (115 : Int32), (32 : Int32), (34 : Int32)]) h83 (S79.ext E85) e89 f90 f91 kc92 b93 l94 (by first | (simp; done) | exact Nat.le_of_ble_eq_true rfl)) (by simp) (argsL := [.ref s81]) (rest := [.ref a1, .ref a1]) pd_17 rfl rfl rfl rfl 2 (Nat.le_of_eq rfl) (by decide) (by decide) (ck := 8) rfl (cs := 228) rfl (by decide) (by decide) d5_22 25 rfl ?_
  intro w98 T96 h100 X97 hq99
  obtain ⟨rfl, K101, S102⟩ := hq99
  have x103 : Ext h h100 := (ext_keep (x80.trans E85) K101 (fun x hx => by simp only [List.mem_cons, List.not_mem_nil, or_false] at hx; rcases hx with rfl | rfl <;> first | exact le_a15 | exact le_b57))
  refine g_aloadN X97 d5_25 rfl rfl 26 rfl ?_
  obtain ⟨t104, kb105, e106, f107, f108, kc109, b110, l111, n112⟩ := id ((((((((SU.grow E6 ea4).grow E20 ea18).growK K32 (by simp) le33).ext E41).growK K59 (by simp) le60).keep K78 (by simp)).ext E85).keep K101 (by simp))
  refine g_callVv X97 (hw _ (List.mem_of_getElem? (i := 51) rfl)) (hw _ (List.mem_of_getElem? (i := 52) rfl)) (hw _ (List.mem_of_getElem? (i := 54) rfl)) (hw _ (List.mem_of_getElem? (i := 53) rfl)) (hw _ (List.mem_of_getElem? (i := 34) rfl)) (hw _ (List.mem_of_getElem? (i := 55) rfl)) (nfSel (hw _ (List.mem_of_getElem? (i := 54) rfl))) (by decide) S102.1 (c_sba l Z a0 G a15 u t104 b57 kb105 kb58 34 (((([] : List Int32) ++ [(67 : Int32), (97 : Int32), (110 : Int32), (110 : Int32), (111 : Int32), (116 : Int32), (32 : Int32), (103 : Int32), (105 : Int32), (118 : Int32), (101 : Int32), (32 : Int32), (98 : Int32), (101 : Int32), (97 : Int32), (110 : Int32), (32 : Int32), (34 : Int32)]) ++ [x0]) ++ [(34 : Int32), (32 : Int32), (116 : Int32), (104 : Int32), (101 : Int32), (32 : Int32), (97 : Int32), (108 : Int32), (105 : Int32), (97 : Int32), (115 : Int32), (32 : Int32), (34 : Int32)]) ([y0]) h100 S102 e106 f107 f108 kc109 b110 l111 (by first | (simp; done) | exact Nat.le_of_ble_eq_true rfl)) (by simp) (argsL := [.ref u]) (rest := [.ref a1, .ref a1]) pd_17 rfl rfl rfl rfl 2 (Nat.le_of_eq rfl) (by decide) (by decide) (ck := 8) rfl (cs := 228) rfl (by decide) (by decide) d5_26 29 rfl ?_
  intro w115 T113 h117 X114 hq116
  obtain ⟨rfl, K118, S119⟩ := hq116
  have x120 : Ext h h117 := (ext_keep x103 K118 (fun x hx => by simp only [List.mem_cons, List.not_mem_nil, or_false] at hx; rcases hx with rfl | rfl <;> first | exact le_a15 | exact le_b57))
  refine g_ldcS X114 (cs := [(34 : Int32), (58 : Int32), (32 : Int32), (116 : Int32), (104 : Int32), (97 : Int32), (116 : Int32), (32 : Int32), (110 : Int32), (97 : Int32), (109 : Int32), (101 : Int32), (32 : Int32), (105 : Int32), (115 : Int32), (32 : Int32), (97 : Int32), (108 : Int32), (114 : Int32), (101 : Int32), (97 : Int32), (100 : Int32), (121 : Int32), (32 : Int32), (105 : Int32), (110 : Int32), (32 : Int32), (117 : Int32), (115 : Int32), (101 : Int32)]) rfl (hw _ (List.mem_of_getElem? (i := 123) rfl)) hSA (by simp [EL, consts_1]) ⟨by decide, by decide⟩ (by decide) (by decide) d5_29 120 (by decide) (by decide) (ck := 10) rfl (cs' := 352) rfl (by decide) (by decide) 31 rfl ?_
  intro s121 T122 h123 X124 E125 S126
  obtain ⟨t127, kb128, e129, f130, f131, kc132, b133, l134, n135⟩ := id S126
  refine g_callVv X124 (hw _ (List.mem_of_getElem? (i := 51) rfl)) (hw _ (List.mem_of_getElem? (i := 52) rfl)) (hw _ (List.mem_of_getElem? (i := 54) rfl)) (hw _ (List.mem_of_getElem? (i := 53) rfl)) (hw _ (List.mem_of_getElem? (i := 34) rfl)) (hw _ (List.mem_of_getElem? (i := 55) rfl)) (nfSel (hw _ (List.mem_of_getElem? (i := 54) rfl))) (by decide) (S119.ext E125).1 (c_sbaG l Z a0 G a15 s121 t127 b57 kb128 kb58 34 ((((([] : List Int32) ++ [(67 : Int32), (97 : Int32), (110 : Int32), (110 : Int32), (111 : Int32), (116 : Int32), (32 : Int32), (103 : Int32), (105 : Int32), (118 : Int32), (101 : Int32), (32 : Int32), (98 : Int32), (101 : Int32), (97 : Int32), (110 : Int32), (32 : Int32), (34 : Int32)]) ++ [x0]) ++ [(34 : Int32), (32 : Int32), (116 : Int32), (104 : Int32), (101 : Int32), (32 : Int32), (97 : Int32), (108 : Int32), (105 : Int32), (97 : Int32), (115 : Int32), (32 : Int32), (34 : Int32)]) ++ [y0]) ([(34 : Int32), (58 : Int32), (32 : Int32), (116 : Int32), (104 : Int32), (97 : Int32), (116 : Int32), (32 : Int32), (110 : Int32), (97 : Int32), (109 : Int32), (101 : Int32), (32 : Int32), (105 : Int32), (115 : Int32), (32 : Int32), (97 : Int32), (108 : Int32), (114 : Int32), (101 : Int32), (97 : Int32), (100 : Int32), (121 : Int32), (32 : Int32), (105 : Int32), (110 : Int32), (32 : Int32), (117 : Int32), (115 : Int32), (101 : Int32)]) h123 (S119.ext E125) e129 f130 f131 kc132 b133 l134 (n135 a15 (by simp)).1 (n135 a15 (by simp)).2 (by decide) (by first | (simp; done) | exact Nat.le_of_ble_eq_true rfl) (by first | (simp; done) | exact Nat.le_of_ble_eq_true rfl) (by decide) (by decide)) (by simp) (argsL := [.ref s121]) (rest := [.ref a1, .ref a1]) pd_17 rfl rfl rfl rfl 2 (Nat.le_of_eq rfl) (by decide) (by decide) (ck := 11) rfl (cs := 422) rfl (by decide) (by decide) d5_31 34 rfl ?_
  intro w138 T136 h140 X137 hq139
  obtain ⟨rfl, b141, kb142, K143, le144, S145⟩ := hq139
  have X146 := X137.add (elL hw 70 (by decide)) S145.arv (Nat.le_trans X124.old.1 le144)
  have le_b141 : h.size ≤ b141 := Nat.le_trans (x120.trans E125).1 le144
  have ne_a1_b141 : a1 ≠ b141 := Nat.ne_of_lt (Nat.lt_of_lt_of_le (((((((((A7.ext E20).keep K32).ext E41).keep K59).keep K78).ext E85).keep K101).keep K118).ext E125).lt le144)
  have ne_a15_b141 : a15 ≠ b141 := Nat.ne_of_lt (Nat.lt_of_lt_of_le (S119.ext E125).lt le144)
  have x147 : Ext h h140 := (ext_keep (x120.trans E125) K143 (fun x hx => by simp only [List.mem_cons, List.not_mem_nil, or_false] at hx; rcases hx with rfl <;> first | exact le_a15))
  refine g_callVv X146 (hw _ (List.mem_of_getElem? (i := 124) rfl)) (hw _ (List.mem_of_getElem? (i := 125) rfl)) (hw _ (List.mem_of_getElem? (i := 127) rfl)) (hw _ (List.mem_of_getElem? (i := 126) rfl)) (hw _ (List.mem_of_getElem? (i := 34) rfl)) (hw _ (List.mem_of_getElem? (i := 128) rfl)) (nfSel (hw _ (List.mem_of_getElem? (i := 127) rfl))) (by decide) S145.1 (c_sts l Z a0 G a15 b141 kb142 70 (((((([] : List Int32) ++ [(67 : Int32), (97 : Int32), (110 : Int32), (110 : Int32), (111 : Int32), (116 : Int32), (32 : Int32), (103 : Int32), (105 : Int32), (118 : Int32), (101 : Int32), (32 : Int32), (98 : Int32), (101 : Int32), (97 : Int32), (110 : Int32), (32 : Int32), (34 : Int32)]) ++ [x0]) ++ [(34 : Int32), (32 : Int32), (116 : Int32), (104 : Int32), (101 : Int32), (32 : Int32), (97 : Int32), (108 : Int32), (105 : Int32), (97 : Int32), (115 : Int32), (32 : Int32), (34 : Int32)]) ++ [y0]) ++ [(34 : Int32), (58 : Int32), (32 : Int32), (116 : Int32), (104 : Int32), (97 : Int32), (116 : Int32), (32 : Int32), (110 : Int32), (97 : Int32), (109 : Int32), (101 : Int32), (32 : Int32), (105 : Int32), (115 : Int32), (32 : Int32), (97 : Int32), (108 : Int32), (114 : Int32), (101 : Int32), (97 : Int32), (100 : Int32), (121 : Int32), (32 : Int32), (105 : Int32), (110 : Int32), (32 : Int32), (117 : Int32), (115 : Int32), (101 : Int32)]) h140 S145 (by first | (simp; done) | exact Nat.le_of_ble_eq_true rfl) (by first | (simp; done) | exact Nat.le_of_ble_eq_true rfl)) (by simp) (argsL := []) (rest := [.ref a1, .ref a1]) pd_21 rfl rfl rfl rfl 2 (Nat.le_of_eq rfl) (by decide) (by decide) (ck := 13) rfl (cs := 491) rfl (by decide) (by decide) d5_34 37 rfl ?_
  intro w150 T148 h152 X149 hq151
  obtain ⟨r153, rfl, E154, SN155⟩ := hq151
  have S156 : Str Z h152 (b141 :: b57 :: b30 :: a15 :: a1 :: us) r153 (((((([] : List Int32) ++ [(67 : Int32), (97 : Int32), (110 : Int32), (110 : Int32), (111 : Int32), (116 : Int32), (32 : Int32), (103 : Int32), (105 : Int32), (118 : Int32), (101 : Int32), (32 : Int32), (98 : Int32), (101 : Int32), (97 : Int32), (110 : Int32), (32 : Int32), (34 : Int32)]) ++ [x0]) ++ [(34 : Int32), (32 : Int32), (116 : Int32), (104 : Int32), (101 : Int32), (32 : Int32), (97 : Int32), (108 : Int32), (105 : Int32), (97 : Int32), (115 : Int32), (32 : Int32), (34 : Int32)]) ++ [y0]) ++ [(34 : Int32), (58 : Int32), (32 : Int32), (116 : Int32), (104 : Int32), (97 : Int32), (116 : Int32), (32 : Int32), (110 : Int32), (97 : Int32), (109 : Int32), (101 : Int32), (32 : Int32), (105 : Int32), (115 : Int32), (32 : Int32), (97 : Int32), (108 : Int32), (114 : Int32), (101 : Int32), (97 : Int32), (100 : Int32), (121 : Int32), (32 : Int32), (105 : Int32), (110 : Int32), (32 : Int32), (117 : Int32), (115 : Int32), (101 : Int32)]) := SN155.str X146.news
  have sn_r153 : StrN Z h h152 r153 (((((([] : List Int32) ++ [(67 : Int32), (97 : Int32), (110 : Int32), (110 : Int32), (111 : Int32), (116 : Int32), (32 : Int32), (103 : Int32), (105 : Int32), (118 : Int32), (101 : Int32), (32 : Int32), (98 : Int32), (101 : Int32), (97 : Int32), (110 : Int32), (32 : Int32), (34 : Int32)]) ++ [x0]) ++ [(34 : Int32), (32 : Int32), (116 : Int32), (104 : Int32), (101 : Int32), (32 : Int32), (97 : Int32), (108 : Int32), (105 : Int32), (97 : Int32), (115 : Int32), (32 : Int32), (34 : Int32)]) ++ [y0]) ++ [(34 : Int32), (58 : Int32), (32 : Int32), (116 : Int32), (104 : Int32), (97 : Int32), (116 : Int32), (32 : Int32), (110 : Int32), (97 : Int32), (109 : Int32), (101 : Int32), (32 : Int32), (105 : Int32), (115 : Int32), (32 : Int32), (97 : Int32), (108 : Int32), (114 : Int32), (101 : Int32), (97 : Int32), (100 : Int32), (121 : Int32), (32 : Int32), (105 : Int32), (110 : Int32), (32 : Int32), (117 : Int32), (115 : Int32), (101 : Int32)]) := SN155.mono x147.1
  refine g_callIK X149 hkn rfl (hw _ (List.mem_of_getElem? (i := 163) rfl)) (hw _ (List.mem_of_getElem? (i := 164) rfl)) (hw _ (List.mem_of_getElem? (i := 28) rfl)) (hw _ (List.mem_of_getElem? (i := 165) rfl)) (by decide) (c_bni l Z a0 G hst a1 r153 h152 (((((((((((A7.ext E20).keep K32).ext E41).keep K59).keep K78).ext E85).keep K101).keep K118).ext E125).keep K143).ext E154) (((((((((((U9.ext E20).keep K32 (ninS ne_a1_a15 nin0)).ext E41).keep K59 (ninS ne_a1_a15 nin0)).keep K78 (ninS ne_a1_a15 (ninS ne_a1_b57 nin0))).ext E85).keep K101 (ninS ne_a1_a15 (ninS ne_a1_b57 nin0))).keep K118 (ninS ne_a1_a15 (ninS ne_a1_b57 nin0))).ext E125).keep K143 (ninS ne_a1_a15 nin0)).ext E154) (((((((((((F10.ext E20).keep K32 (ninS ne_a1_a15 nin0)).ext E41).keep K59 (ninS ne_a1_a15 nin0)).keep K78 (ninS ne_a1_a15 (ninS ne_a1_b57 nin0))).ext E85).keep K101 (ninS ne_a1_a15 (ninS ne_a1_b57 nin0))).keep K118 (ninS ne_a1_a15 (ninS ne_a1_b57 nin0))).ext E125).keep K143 (ninS ne_a1_a15 nin0)).ext E154) (((((((((((F11.ext E20).keep K32 (ninS ne_a1_a15 nin0)).ext E41).keep K59 (ninS ne_a1_a15 nin0)).keep K78 (ninS ne_a1_a15 (ninS ne_a1_b57 nin0))).ext E85).keep K101 (ninS ne_a1_a15 (ninS ne_a1_b57 nin0))).keep K118 (ninS ne_a1_a15 (ninS ne_a1_b57 nin0))).ext E125).keep K143 (ninS ne_a1_a15 nin0)).ext E154) (((((((((((F12.ext E20).keep K32 (ninS ne_a1_a15 nin0)).ext E41).keep K59 (ninS ne_a1_a15 nin0)).keep K78 (ninS ne_a1_a15 (ninS ne_a1_b57 nin0))).ext E85).keep K101 (ninS ne_a1_a15 (ninS ne_a1_b57 nin0))).keep K118 (ninS ne_a1_a15 (ninS ne_a1_b57 nin0))).ext E125).keep K143 (ninS ne_a1_a15 nin0)).ext E154) (((((((((((F13.ext E20).keep K32 (ninS ne_a1_a15 nin0)).ext E41).keep K59 (ninS ne_a1_a15 nin0)).keep K78 (ninS ne_a1_a15 (ninS ne_a1_b57 nin0))).ext E85).keep K101 (ninS ne_a1_a15 (ninS ne_a1_b57 nin0))).keep K118 (ninS ne_a1_a15 (ninS ne_a1_b57 nin0))).ext E125).keep K143 (ninS ne_a1_a15 nin0)).ext E154) (((((((((((F14.ext E20).keep K32 (ninS ne_a1_a15 nin0)).ext E41).keep K59 (ninS ne_a1_a15 nin0)).keep K78 (ninS ne_a1_a15 (ninS ne_a1_b57 nin0))).ext E85).keep K101 (ninS ne_a1_a15 (ninS ne_a1_b57 nin0))).keep K118 (ninS ne_a1_a15 (ninS ne_a1_b57 nin0))).ext E125).keep K143 (ninS ne_a1_a15 nin0)).ext E154)) (by simp) (a := a1) (argsL := [.ref r153]) (rest := [.ref a1]) pd_2 rfl rfl rfl rfl 1 (Nat.le_of_eq rfl) (by decide) (by decide) (ck := 14) rfl (cs := 3243) rfl (by decide) (by decide) d5_37 40 rfl ?_
  intro T157 h158 X159 hq160
  obtain ⟨K161, E162, F163⟩ := hq160
  have x164 : Ext h h158 := (ext_keep (x147.trans E154) K161 (fun x hx => by simp only [List.mem_cons, List.not_mem_nil, or_false] at hx; rcases hx with rfl <;> first | exact le_a1))
  have X165 := X159.sub (us' := us) (by intro x hx; simp [hx])
  exact g_retA X165 rfl rfl rfl d5_40 (by decide) (by decide) ⟨_, rfl, ⟨a1, r153, rfl, x164, E162, F163, ((S156.keep K161 (by simp)).sub (us' := us) (by intro x hx; first | (simp [hx]; done) | (simp at hx ⊢; simp_all)))⟩⟩
set_option maxRecDepth 65536 in
set_option maxHeartbeats 40000000 in
theorem c_al12 (l : Launch) (Z : State) (a0 : Array Value) (G : Gl Z a0) (hst : l.stackTraces = true) (t u : Addr) (us : List Addr) (x0 x1 y0 y1 : Int32) (h : Heap) (ST : Str Z h us t [x0]) (SU : Str Z h us u [y0, y1]) :
    CtrK KnownK l Z EL nw (⟨"com/example/capsa/capsa/BeanNameInUseException", "alias", "(Ljava/lang/String;Ljava/lang/String;)Lcom/example/capsa/capsa/BeanNameInUseException;"⟩ : MethodName) prog_2_method_3_code 2 (Option.some (Jvm.ClassFile.FieldType.object "com/example/capsa/capsa/BeanNameInUseException")) ({ frames := 8, cells := 14, slots := 3243, locals := 108 } : Room) #[.ref t, .ref u] h us (ValQ fun w h' => ∃ j r, w = .ref j ∧ Ext h h' ∧ Exa Z h' j "com/example/capsa/capsa/BeanNameInUseException" ∧ Fld Z h' j "java/lang/Throwable" "detailMessage" "Ljava/lang/String;" (.ref r) ∧ Str Z h' us r (msgL [x0] [y0, y1])) := by
  obtain ⟨hw, hEL, hSA, ⟨zc, SC, hz⟩, ⟨fm, SF, hfm⟩, ⟨u0, SUn⟩, ⟨sp, SP, hsp⟩⟩ := id G
  refine CtrK.enter (K := KnownK) (own := "com/example/capsa/capsa/BeanNameInUseException") (nm := "alias") rfl rfl hEL (plainFor_of_name pn_12) #[.val (.ref t), .val (.ref u)] (fun m => by first | rfl | (simp [entryFrame, mkF, argsToLocals, Value.category, maxLocals]; done)) ?_
  intro p e s m below meth c T hfr hkn hZs X
  refine g_newU X (hw _ (List.mem_of_getElem? (i := 30) rfl)) (hw _ (List.mem_of_getElem? (i := 31) rfl)) (hw _ (List.mem_of_getElem? (i := 28) rfl)) d5_0 (ck := 1) rfl (cs := 6) rfl (by decide) (by decide) 3 rfl ?_
  intro a1 T2 h3 ea4 X5 E6 A7 D8 U9
  have le_a1 : h.size ≤ a1 := by rw [ea4]; exact (Ext.refl h).1
  have ne_t_a1 : t ≠ a1 := by rw [ea4]; exact Nat.ne_of_lt ST.lt
  have ne_u_a1 : u ≠ a1 := by rw [ea4]; exact Nat.ne_of_lt SU.lt
  have F10 : Fld Z h3 a1 "java/lang/Throwable" "backtrace" "Ljava/lang/Object;" (.null) := D8 (Or.inl (hw _ (List.mem_of_getElem? (i := 221) rfl))) (ty := (.object "java/lang/Object")) (by decide +kernel)
  have F11 : Fld Z h3 a1 "java/lang/Throwable" "cause" "Ljava/lang/Throwable;" (.null) := D8 (Or.inl (hw _ (List.mem_of_getElem? (i := 190) rfl))) (ty := (.object "java/lang/Throwable")) (by decide +kernel)
  have F12 : Fld Z h3 a1 "java/lang/Throwable" "stackTrace" "[Ljava/lang/StackTraceElement;" (.null) := D8 (Or.inl (hw _ (List.mem_of_getElem? (i := 193) rfl))) (ty := (.array (.object "java/lang/StackTraceElement"))) (by decide +kernel)
  have F13 : Fld Z h3 a1 "java/lang/Throwable" "suppressedExceptions" "Ljava/util/List;" (.null) := D8 (Or.inl (hw _ (List.mem_of_getElem? (i := 196) rfl))) (ty := (.object "java/util/List")) (by decide +kernel)
  have F14 : Fld Z h3 a1 "java/lang/Throwable" "detailMessage" "Ljava/lang/String;" (.null) := D8 (Or.inl (hw _ (List.mem_of_getElem? (i := 220) rfl))) (ty := (.object "java/lang/String")) (by decide +kernel)
  refine g_dup X5 d5_3 rfl 4 rfl ?_
  refine g_new X5 (hw _ (List.mem_of_getElem? (i := 32) rfl)) (hw _ (List.mem_of_getElem? (i := 33) rfl)) (hw _ (List.mem_of_getElem? (i := 34) rfl)) d5_4 (ck := 2) rfl (cs := 10) rfl (by decide) (by decide) 7 rfl ?_
  intro a15 T16 h17 ea18 X19 E20 A21 D22
  have le_a15 : h.size ≤ a15 := by rw [ea18]; exact ((Ext.refl h).trans E6).1
  have ne_t_a15 : t ≠ a15 := by rw [ea18]; exact Nat.ne_of_lt (ST.grow E6 ea4).lt
  have ne_u_a15 : u ≠ a15 := by rw [ea18]; exact Nat.ne_of_lt (SU.grow E6 ea4).lt
  have ne_a1_a15 : a1 ≠ a15 := by rw [ea18]; exact Nat.ne_of_lt A7.lt
  have F23 : Fld Z h17 a15 "java/lang/AbstractStringBuilder" "value" "[B" (.null) := D22 (Or.inl (hw _ (List.mem_of_getElem? (i := 47) rfl))) (ty := (.array .byte)) (by decide +kernel)
  have F24 : Fld Z h17 a15 "java/lang/AbstractStringBuilder" "coder" "B" (.int (0 : Int32)) := D22 (Or.inl (hw _ (List.mem_of_getElem? (i := 49) rfl))) (ty := .byte) (by decide +kernel)
  have F25 : Fld Z h17 a15 "java/lang/AbstractStringBuilder" "count" "I" (.int (0 : Int32)) := D22 (Or.inl (hw _ (List.mem_of_getElem? (i := 73) rfl))) (ty := .int) (by decide +kernel)
  refine g_dup X19 d5_7 rfl 8 rfl ?_
  refine g_callIn X19 rfl (hw _ (List.mem_of_getElem? (i := 35) rfl)) (hw _ (List.mem_of_getElem? (i := 36) rfl)) (hw _ (List.mem_of_getElem? (i := 34) rfl)) (hw _ (List.mem_of_getElem? (i := 37) rfl)) (by decide) (c_sbi l Z a0 G a15 h17 A21 F23 F24 F25) (by simp) (argsL := []) (rest := [.ref a15, .ref a1, .ref a1]) pd_15 rfl rfl rfl rfl 3 (Nat.le_of_eq rfl) (by decide) (by decide) (ck := 3) rfl (cs := 26) rfl (by decide) (by decide) d5_8 11 rfl ?_
  intro T26 h29 X27 hq28
  obtain ⟨b30, kb31, K32, le33, S34⟩ := hq28
  have X35 := X27.add (elL hw 16 (by decide)) S34.arv (Nat.le_trans X19.old.1 le33)
  have le_b30 : h.size ≤ b30 := Nat.le_trans (((Ext.refl h).trans E6).trans E20).1 le33
  have ne_a1_b30 : a1 ≠ b30 := Nat.ne_of_lt (Nat.lt_of_lt_of_le (A7.ext E20).lt le33)
  have ne_a15_b30 : a15 ≠ b30 := Nat.ne_of_lt (Nat.lt_of_lt_of_le A21.lt le33)
  have x36 : Ext h h29 := (ext_keep (((Ext.refl h).trans E6).trans E20) K32 (fun x hx => by simp only [List.mem_cons, List.not_mem_nil, or_false] at hx; rcases hx with rfl <;> first | exact le_a15))
  refine g_ldcS X35 (cs := [(67 : Int32), (97 : Int32), (110 : Int32), (110 : Int32), (111 : Int32), (116 : Int32), (32 : Int32), (103 : Int32), (105 : Int32), (118 : Int32), (101 : Int32), (32 : Int32), (98 : Int32), (101 : Int32), (97 : Int32), (110 : Int32), (32 : Int32), (34 : Int32)]) rfl (hw _ (List.mem_of_getElem? (i := 50) rfl)) hSA (by simp [EL, consts_1]) ⟨by decide, by decide⟩ (by decide) (by decide) d5_11 72 (by decide) (by decide) (ck := 5) rfl (cs' := 102) rfl (by decide) (by decide) 13 rfl ?_
  intro s37 T38 h39 X40 E41 S42
  obtain ⟨t43, kb44, e45, f46, f47, kc48, b49, l50, n51⟩ := id S42
  refine g_callVv X40 (hw _ (List.mem_of_getElem? (i := 51) rfl)) (hw _ (List.mem_of_getElem? (i := 52) rfl)) (hw _ (List.mem_of_getElem? (i := 54) rfl)) (hw _ (List.mem_of_getElem? (i := 53) rfl)) (hw _ (List.mem_of_getElem? (i := 34) rfl)) (hw _ (List.mem_of_getElem? (i := 55) rfl)) (nfSel (hw _ (List.mem_of_getElem? (i := 54) rfl))) (by decide) (S34.ext E41).1 (c_sbaG l Z a0 G a15 s37 t43 b30 kb44 kb31 16 ([] : List Int32) ([(67 : Int32), (97 : Int32), (110 : Int32), (110 : Int32), (111 : Int32), (116 : Int32), (32 : Int32), (103 : Int32), (105 : Int32), (118 : Int32), (101 : Int32), (32 : Int32), (98 : Int32), (101 : Int32), (97 : Int32), (110 : Int32), (32 : Int32), (34 : Int32)]) h39 (S34.ext E41) e45 f46 f47 kc48 b49 l50 (n51 a15 (by simp)).1 (n51 a15 (by simp)).2 (by decide) (by first | (simp; done) | exact Nat.le_of_ble_eq_true rfl) (by first | (simp; done) | exact Nat.le_of_ble_eq_true rfl) (by decide) (by decide)) (by simp) (argsL := [.ref s37]) (rest := [.ref a1, .ref a1]) pd_17 rfl rfl rfl rfl 2 (Nat.le_of_eq rfl) (by decide) (by decide) (ck := 6) rfl (cs := 172) rfl (by decide) (by decide) d5_13 16 rfl ?_
  intro w54 T52 h56 X53 hq55
  obtain ⟨rfl, b57, kb58, K59, le60, S61⟩ := hq55
  have X62 := X53.add (elL hw 34 (by decide)) S61.arv (Nat.le_trans X40.old.1 le60)
  have le_b57 : h.size ≤ b57 := Nat.le_trans (x36.trans E41).1 le60
  have ne_a1_b57 : a1 ≠ b57 := Nat.ne_of_lt (Nat.lt_of_lt_of_le (((A7.ext E20).keep K32).ext E41).lt le60)
  have ne_a15_b57 : a15 ≠ b57 := Nat.ne_of_lt (Nat.lt_of_lt_of_le (S34.ext E41).lt le60)
  have x63 : Ext h h56 := (ext_keep (x36.trans E41) K59 (fun x hx => by simp only [List.mem_cons, List.not_mem_nil, or_false] at hx; rcases hx with rfl <;> first | exact le_a15))
  refine g_aloadN X62 d5_16 rfl rfl 17 rfl ?_
  obtain ⟨t64, kb65, e66, f67, f68, kc69, b70, l71, n72⟩ := id (((((ST.grow E6 ea4).grow E20 ea18).growK K32 (by simp) le33).ext E41).growK K59 (by simp) le60)
  refine g_callVv X62 (hw _ (List.mem_of_getElem? (i := 51) rfl)) (hw _ (List.mem_of_getElem? (i := 52) rfl)) (hw _ (List.mem_of_getElem? (i := 54) rfl)) (hw _ (List.mem_of_getElem? (i := 53) rfl)) (hw _ (List.mem_of_getElem? (i := 34) rfl)) (hw _ (List.mem_of_getElem? (i := 55) rfl)) (nfSel (hw _ (List.mem_of_getElem? (i := 54) rfl))) (by decide) S61.1 (c_sba l Z a0 G a15 t t64 b57 kb65 kb58 34 (([] : List Int32) ++ [(67 : Int32), (97 : Int32), (110 : Int32), (110 : Int32), (111 : Int32), (116 : Int32), (32 : Int32), (103 : Int32), (105 : Int32), (118 : Int32), (101 : Int32), (32 : Int32), (98 : Int32), (101 : Int32), (97 : Int32), (110 : Int32), (32 : Int32), (34 : Int32)]) ([x0]) h56 S61 e66 f67 f68 kc69 b70 l71 (by first | (simp; done) | exact Nat.le_of_ble_eq_true rfl)) (by simp) (argsL := [.ref t]) (rest := [.ref a1, .ref a1]) pd_17 rfl rfl rfl rfl 2 (Nat.le_of_eq rfl) (by decide) (by decide) (ck := 6) rfl (cs := 172) rfl (by decide) (by decide) d5_17 20 rfl ?_
  intro w75 T73 h77 X74 hq76
  obtain ⟨rfl, K78, S79⟩ := hq76
  have x80 : Ext h h77 := (ext_keep x63 K78 (fun x hx => by simp only [List.mem_cons, List.not_mem_nil, or_false] at hx; rcases hx with rfl | rfl <;> first | exact le_a15 | exact le_b57))
  refine g_ldcS X74 (cs := [(34 : Int32), (32 : Int32), (116 : Int32), (104 : Int32), (101 : Int32), (32 : Int32), (97 : Int32), (108 : Int32), (105 : Int32), (97 : Int32), (115 : Int32), (32 : Int32), (34 : Int32)]) rfl (hw _ (List.mem_of_getElem? (i := 122) rfl)) hSA (by simp [EL, consts_1]) ⟨by decide, by decide⟩ (by decide) (by decide) d5_20 52 (by decide) (by decide) (ck := 8) rfl (cs' := 228) rfl (by decide) (by decide) 22 rfl ?_
  intro s81 T82 h83 X84 E85 S86
  obtain ⟨t87, kb88, e89, f90, f91, kc92, b93, l94, n95⟩ := id S86
  refine g_callVv X84 (hw _ (List.mem_of_getElem? (i := 51) rfl)) (hw _ (List.mem_of_getElem? (i := 52) rfl)) (hw _ (List.mem_of_getElem? (i := 54) rfl)) (hw _ (List.mem_of_getElem? (i := 53) rfl)) (hw _ (List.mem_of_getElem? (i := 34) rfl)) (hw _ (List.mem_of_getElem? (i := 55) rfl)) (nfSel (hw _ (List.mem_of_getElem? (i := 54) rfl))) (by decide) (S79.ext E85).1 (c_sba l Z a0 G a15 s81 t87 b57 kb88 kb58 34 ((([] : List Int32) ++ [(67 : Int32), (97 : Int32), (110 : Int32), (110 : Int32), (111 : Int32), (116 : Int32), (32 : Int32), (103 : Int32), (105 : Int32), (118 : Int32), (101 : Int32), (32 : Int32), (98 : Int32), (101 : Int32), (97 : Int32), (110 : Int32), (32 : Int32), (34 : Int32)]) ++ [x0]) ([(34 : Int32), (32 : Int32), (116 : Int32), (104 : Int32), (101 : Int32), (32 : Int32), (97 : Int32), (108 : Int32), (105 : Int32), (97 : Int32), (115 : Int32), (32 : Int32), (34 : Int32)]) h83 (S79.ext E85) e89 f90 f91 kc92 b93 l94 (by first | (simp; done) | exact Nat.le_of_ble_eq_true rfl)) (by simp) (argsL := [.ref s81]) (rest := [.ref a1, .ref a1]) pd_17 rfl rfl rfl rfl 2 (Nat.le_of_eq rfl) (by decide) (by decide) (ck := 8) rfl (cs := 228) rfl (by decide) (by decide) d5_22 25 rfl ?_
  intro w98 T96 h100 X97 hq99
  obtain ⟨rfl, K101, S102⟩ := hq99
  have x103 : Ext h h100 := (ext_keep (x80.trans E85) K101 (fun x hx => by simp only [List.mem_cons, List.not_mem_nil, or_false] at hx; rcases hx with rfl | rfl <;> first | exact le_a15 | exact le_b57))
  refine g_aloadN X97 d5_25 rfl rfl 26 rfl ?_
  obtain ⟨t104, kb105, e106, f107, f108, kc109, b110, l111, n112⟩ := id ((((((((SU.grow E6 ea4).grow E20 ea18).growK K32 (by simp) le33).ext E41).growK K59 (by simp) le60).keep K78 (by simp)).ext E85).keep K101 (by simp))
  refine g_callVv X97 (hw _ (List.mem_of_getElem? (i := 51) rfl)) (hw _ (List.mem_of_getElem? (i := 52) rfl)) (hw _ (List.mem_of_getElem? (i := 54) rfl)) (hw _ (List.mem_of_getElem? (i := 53) rfl)) (hw _ (List.mem_of_getElem? (i := 34) rfl)) (hw _ (List.mem_of_getElem? (i := 55) rfl)) (nfSel (hw _ (List.mem_of_getElem? (i := 54) rfl))) (by decide) S102.1 (c_sba l Z a0 G a15 u t104 b57 kb105 kb58 34 (((([] : List Int32) ++ [(67 : Int32), (97 : Int32), (110 : Int32), (110 : Int32), (111 : Int32), (116 : Int32), (32 : Int32), (103 : Int32), (105 : Int32), (118 : Int32), (101 : Int32), (32 : Int32), (98 : Int32), (101 : Int32), (97 : Int32), (110 : Int32), (32 : Int32), (34 : Int32)]) ++ [x0]) ++ [(34 : Int32), (32 : Int32), (116 : Int32), (104 : Int32), (101 : Int32), (32 : Int32), (97 : Int32), (108 : Int32), (105 : Int32), (97 : Int32), (115 : Int32), (32 : Int32), (34 : Int32)]) ([y0, y1]) h100 S102 e106 f107 f108 kc109 b110 l111 (by first | (simp; done) | exact Nat.le_of_ble_eq_true rfl)) (by simp) (argsL := [.ref u]) (rest := [.ref a1, .ref a1]) pd_17 rfl rfl rfl rfl 2 (Nat.le_of_eq rfl) (by decide) (by decide) (ck := 8) rfl (cs := 228) rfl (by decide) (by decide) d5_26 29 rfl ?_
  intro w115 T113 h117 X114 hq116
  obtain ⟨rfl, K118, S119⟩ := hq116
  have x120 : Ext h h117 := (ext_keep x103 K118 (fun x hx => by simp only [List.mem_cons, List.not_mem_nil, or_false] at hx; rcases hx with rfl | rfl <;> first | exact le_a15 | exact le_b57))
  refine g_ldcS X114 (cs := [(34 : Int32), (58 : Int32), (32 : Int32), (116 : Int32), (104 : Int32), (97 : Int32), (116 : Int32), (32 : Int32), (110 : Int32), (97 : Int32), (109 : Int32), (101 : Int32), (32 : Int32), (105 : Int32), (115 : Int32), (32 : Int32), (97 : Int32), (108 : Int32), (114 : Int32), (101 : Int32), (97 : Int32), (100 : Int32), (121 : Int32), (32 : Int32), (105 : Int32), (110 : Int32), (32 : Int32), (117 : Int32), (115 : Int32), (101 : Int32)]) rfl (hw _ (List.mem_of_getElem? (i := 123) rfl)) hSA (by simp [EL, consts_1]) ⟨by decide, by decide⟩ (by decide) (by decide) d5_29 120 (by decide) (by decide) (ck := 10) rfl (cs' := 352) rfl (by decide) (by decide) 31 rfl ?_
  intro s121 T122 h123 X124 E125 S126
  obtain ⟨t127, kb128, e129, f130, f131, kc132, b133, l134, n135⟩ := id S126
  refine g_callVv X124 (hw _ (List.mem_of_getElem? (i := 51) rfl)) (hw _ (List.mem_of_getElem? (i := 52) rfl)) (hw _ (List.mem_of_getElem? (i := 54) rfl)) (hw _ (List.mem_of_getElem? (i := 53) rfl)) (hw _ (List.mem_of_getElem? (i := 34) rfl)) (hw _ (List.mem_of_getElem? (i := 55) rfl)) (nfSel (hw _ (List.mem_of_getElem? (i := 54) rfl))) (by decide) (S119.ext E125).1 (c_sbaG l Z a0 G a15 s121 t127 b57 kb128 kb58 34 ((((([] : List Int32) ++ [(67 : Int32), (97 : Int32), (110 : Int32), (110 : Int32), (111 : Int32), (116 : Int32), (32 : Int32), (103 : Int32), (105 : Int32), (118 : Int32), (101 : Int32), (32 : Int32), (98 : Int32), (101 : Int32), (97 : Int32), (110 : Int32), (32 : Int32), (34 : Int32)]) ++ [x0]) ++ [(34 : Int32), (32 : Int32), (116 : Int32), (104 : Int32), (101 : Int32), (32 : Int32), (97 : Int32), (108 : Int32), (105 : Int32), (97 : Int32), (115 : Int32), (32 : Int32), (34 : Int32)]) ++ [y0, y1]) ([(34 : Int32), (58 : Int32), (32 : Int32), (116 : Int32), (104 : Int32), (97 : Int32), (116 : Int32), (32 : Int32), (110 : Int32), (97 : Int32), (109 : Int32), (101 : Int32), (32 : Int32), (105 : Int32), (115 : Int32), (32 : Int32), (97 : Int32), (108 : Int32), (114 : Int32), (101 : Int32), (97 : Int32), (100 : Int32), (121 : Int32), (32 : Int32), (105 : Int32), (110 : Int32), (32 : Int32), (117 : Int32), (115 : Int32), (101 : Int32)]) h123 (S119.ext E125) e129 f130 f131 kc132 b133 l134 (n135 a15 (by simp)).1 (n135 a15 (by simp)).2 (by decide) (by first | (simp; done) | exact Nat.le_of_ble_eq_true rfl) (by first | (simp; done) | exact Nat.le_of_ble_eq_true rfl) (by decide) (by decide)) (by simp) (argsL := [.ref s121]) (rest := [.ref a1, .ref a1]) pd_17 rfl rfl rfl rfl 2 (Nat.le_of_eq rfl) (by decide) (by decide) (ck := 11) rfl (cs := 422) rfl (by decide) (by decide) d5_31 34 rfl ?_
  intro w138 T136 h140 X137 hq139
  obtain ⟨rfl, b141, kb142, K143, le144, S145⟩ := hq139
  have X146 := X137.add (elL hw 70 (by decide)) S145.arv (Nat.le_trans X124.old.1 le144)
  have le_b141 : h.size ≤ b141 := Nat.le_trans (x120.trans E125).1 le144
  have ne_a1_b141 : a1 ≠ b141 := Nat.ne_of_lt (Nat.lt_of_lt_of_le (((((((((A7.ext E20).keep K32).ext E41).keep K59).keep K78).ext E85).keep K101).keep K118).ext E125).lt le144)
  have ne_a15_b141 : a15 ≠ b141 := Nat.ne_of_lt (Nat.lt_of_lt_of_le (S119.ext E125).lt le144)
  have x147 : Ext h h140 := (ext_keep (x120.trans E125) K143 (fun x hx => by simp only [List.mem_cons, List.not_mem_nil, or_false] at hx; rcases hx with rfl <;> first | exact le_a15))
  refine g_callVv X146 (hw _ (List.mem_of_getElem? (i := 124) rfl)) (hw _ (List.mem_of_getElem? (i := 125) rfl)) (hw _ (List.mem_of_getElem? (i := 127) rfl)) (hw _ (List.mem_of_getElem? (i := 126) rfl)) (hw _ (List.mem_of_getElem? (i := 34) rfl)) (hw _ (List.mem_of_getElem? (i := 128) rfl)) (nfSel (hw _ (List.mem_of_getElem? (i := 127) rfl))) (by decide) S145.1 (c_sts l Z a0 G a15 b141 kb142 70 (((((([] : List Int32) ++ [(67 : Int32), (97 : Int32), (110 : Int32), (110 : Int32), (111 : Int32), (116 : Int32), (32 : Int32), (103 : Int32), (105 : Int32), (118 : Int32), (101 : Int32), (32 : Int32), (98 : Int32), (101 : Int32), (97 : Int32), (110 : Int32), (32 : Int32), (34 : Int32)]) ++ [x0]) ++ [(34 : Int32), (32 : Int32), (116 : Int32), (104 : Int32), (101 : Int32), (32 : Int32), (97 : Int32), (108 : Int32), (105 : Int32), (97 : Int32), (115 : Int32), (32 : Int32), (34 : Int32)]) ++ [y0, y1]) ++ [(34 : Int32), (58 : Int32), (32 : Int32), (116 : Int32), (104 : Int32), (97 : Int32), (116 : Int32), (32 : Int32), (110 : Int32), (97 : Int32), (109 : Int32), (101 : Int32), (32 : Int32), (105 : Int32), (115 : Int32), (32 : Int32), (97 : Int32), (108 : Int32), (114 : Int32), (101 : Int32), (97 : Int32), (100 : Int32), (121 : Int32), (32 : Int32), (105 : Int32), (110 : Int32), (32 : Int32), (117 : Int32), (115 : Int32), (101 : Int32)]) h140 S145 (by first | (simp; done) | exact Nat.le_of_ble_eq_true rfl) (by first | (simp; done) | exact Nat.le_of_ble_eq_true rfl)) (by simp) (argsL := []) (rest := [.ref a1, .ref a1]) pd_21 rfl rfl rfl rfl 2 (Nat.le_of_eq rfl) (by decide) (by decide) (ck := 13) rfl (cs := 491) rfl (by decide) (by decide) d5_34 37 rfl ?_
  intro w150 T148 h152 X149 hq151
  obtain ⟨r153, rfl, E154, SN155⟩ := hq151
  have S156 : Str Z h152 (b141 :: b57 :: b30 :: a15 :: a1 :: us) r153 (((((([] : List Int32) ++ [(67 : Int32), (97 : Int32), (110 : Int32), (110 : Int32), (111 : Int32), (116 : Int32), (32 : Int32), (103 : Int32), (105 : Int32), (118 : Int32), (101 : Int32), (32 : Int32), (98 : Int32), (101 : Int32), (97 : Int32), (110 : Int32), (32 : Int32), (34 : Int32)]) ++ [x0]) ++ [(34 : Int32), (32 : Int32), (116 : Int32), (104 : Int32), (101 : Int32), (32 : Int32), (97 : Int32), (108 : Int32), (105 : Int32), (97 : Int32), (115 : Int32), (32 : Int32), (34 : Int32)]) ++ [y0, y1]) ++ [(34 : Int32), (58 : Int32), (32 : Int32), (116 : Int32), (104 : Int32), (97 : Int32), (116 : Int32), (32 : Int32), (110 : Int32), (97 : Int32), (109 : Int32), (101 : Int32), (32 : Int32), (105 : Int32), (115 : Int32), (32 : Int32), (97 : Int32), (108 : Int32), (114 : Int32), (101 : Int32), (97 : Int32), (100 : Int32), (121 : Int32), (32 : Int32), (105 : Int32), (110 : Int32), (32 : Int32), (117 : Int32), (115 : Int32), (101 : Int32)]) := SN155.str X146.news
  have sn_r153 : StrN Z h h152 r153 (((((([] : List Int32) ++ [(67 : Int32), (97 : Int32), (110 : Int32), (110 : Int32), (111 : Int32), (116 : Int32), (32 : Int32), (103 : Int32), (105 : Int32), (118 : Int32), (101 : Int32), (32 : Int32), (98 : Int32), (101 : Int32), (97 : Int32), (110 : Int32), (32 : Int32), (34 : Int32)]) ++ [x0]) ++ [(34 : Int32), (32 : Int32), (116 : Int32), (104 : Int32), (101 : Int32), (32 : Int32), (97 : Int32), (108 : Int32), (105 : Int32), (97 : Int32), (115 : Int32), (32 : Int32), (34 : Int32)]) ++ [y0, y1]) ++ [(34 : Int32), (58 : Int32), (32 : Int32), (116 : Int32), (104 : Int32), (97 : Int32), (116 : Int32), (32 : Int32), (110 : Int32), (97 : Int32), (109 : Int32), (101 : Int32), (32 : Int32), (105 : Int32), (115 : Int32), (32 : Int32), (97 : Int32), (108 : Int32), (114 : Int32), (101 : Int32), (97 : Int32), (100 : Int32), (121 : Int32), (32 : Int32), (105 : Int32), (110 : Int32), (32 : Int32), (117 : Int32), (115 : Int32), (101 : Int32)]) := SN155.mono x147.1
  refine g_callIK X149 hkn rfl (hw _ (List.mem_of_getElem? (i := 163) rfl)) (hw _ (List.mem_of_getElem? (i := 164) rfl)) (hw _ (List.mem_of_getElem? (i := 28) rfl)) (hw _ (List.mem_of_getElem? (i := 165) rfl)) (by decide) (c_bni l Z a0 G hst a1 r153 h152 (((((((((((A7.ext E20).keep K32).ext E41).keep K59).keep K78).ext E85).keep K101).keep K118).ext E125).keep K143).ext E154) (((((((((((U9.ext E20).keep K32 (ninS ne_a1_a15 nin0)).ext E41).keep K59 (ninS ne_a1_a15 nin0)).keep K78 (ninS ne_a1_a15 (ninS ne_a1_b57 nin0))).ext E85).keep K101 (ninS ne_a1_a15 (ninS ne_a1_b57 nin0))).keep K118 (ninS ne_a1_a15 (ninS ne_a1_b57 nin0))).ext E125).keep K143 (ninS ne_a1_a15 nin0)).ext E154) (((((((((((F10.ext E20).keep K32 (ninS ne_a1_a15 nin0)).ext E41).keep K59 (ninS ne_a1_a15 nin0)).keep K78 (ninS ne_a1_a15 (ninS ne_a1_b57 nin0))).ext E85).keep K101 (ninS ne_a1_a15 (ninS ne_a1_b57 nin0))).keep K118 (ninS ne_a1_a15 (ninS ne_a1_b57 nin0))).ext E125).keep K143 (ninS ne_a1_a15 nin0)).ext E154) (((((((((((F11.ext E20).keep K32 (ninS ne_a1_a15 nin0)).ext E41).keep K59 (ninS ne_a1_a15 nin0)).keep K78 (ninS ne_a1_a15 (ninS ne_a1_b57 nin0))).ext E85).keep K101 (ninS ne_a1_a15 (ninS ne_a1_b57 nin0))).keep K118 (ninS ne_a1_a15 (ninS ne_a1_b57 nin0))).ext E125).keep K143 (ninS ne_a1_a15 nin0)).ext E154) (((((((((((F12.ext E20).keep K32 (ninS ne_a1_a15 nin0)).ext E41).keep K59 (ninS ne_a1_a15 nin0)).keep K78 (ninS ne_a1_a15 (ninS ne_a1_b57 nin0))).ext E85).keep K101 (ninS ne_a1_a15 (ninS ne_a1_b57 nin0))).keep K118 (ninS ne_a1_a15 (ninS ne_a1_b57 nin0))).ext E125).keep K143 (ninS ne_a1_a15 nin0)).ext E154) (((((((((((F13.ext E20).keep K32 (ninS ne_a1_a15 nin0)).ext E41).keep K59 (ninS ne_a1_a15 nin0)).keep K78 (ninS ne_a1_a15 (ninS ne_a1_b57 nin0))).ext E85).keep K101 (ninS ne_a1_a15 (ninS ne_a1_b57 nin0))).keep K118 (ninS ne_a1_a15 (ninS ne_a1_b57 nin0))).ext E125).keep K143 (ninS ne_a1_a15 nin0)).ext E154) (((((((((((F14.ext E20).keep K32 (ninS ne_a1_a15 nin0)).ext E41).keep K59 (ninS ne_a1_a15 nin0)).keep K78 (ninS ne_a1_a15 (ninS ne_a1_b57 nin0))).ext E85).keep K101 (ninS ne_a1_a15 (ninS ne_a1_b57 nin0))).keep K118 (ninS ne_a1_a15 (ninS ne_a1_b57 nin0))).ext E125).keep K143 (ninS ne_a1_a15 nin0)).ext E154)) (by simp) (a := a1) (argsL := [.ref r153]) (rest := [.ref a1]) pd_2 rfl rfl rfl rfl 1 (Nat.le_of_eq rfl) (by decide) (by decide) (ck := 14) rfl (cs := 3243) rfl (by decide) (by decide) d5_37 40 rfl ?_
  intro T157 h158 X159 hq160
  obtain ⟨K161, E162, F163⟩ := hq160
  have x164 : Ext h h158 := (ext_keep (x147.trans E154) K161 (fun x hx => by simp only [List.mem_cons, List.not_mem_nil, or_false] at hx; rcases hx with rfl <;> first | exact le_a1))
  have X165 := X159.sub (us' := us) (by intro x hx; simp [hx])
  exact g_retA X165 rfl rfl rfl d5_40 (by decide) (by decide) ⟨_, rfl, ⟨a1, r153, rfl, x164, E162, F163, ((S156.keep K161 (by simp)).sub (us' := us) (by intro x hx; first | (simp [hx]; done) | (simp at hx ⊢; simp_all)))⟩⟩
set_option maxRecDepth 65536 in
set_option maxHeartbeats 40000000 in
theorem c_al20 (l : Launch) (Z : State) (a0 : Array Value) (G : Gl Z a0) (hst : l.stackTraces = true) (t u : Addr) (us : List Addr) (x0 x1 y0 y1 : Int32) (h : Heap) (ST : Str Z h us t [x0, x1]) (SU : Str Z h us u ([] : List Int32)) :
    CtrK KnownK l Z EL nw (⟨"com/example/capsa/capsa/BeanNameInUseException", "alias", "(Ljava/lang/String;Ljava/lang/String;)Lcom/example/capsa/capsa/BeanNameInUseException;"⟩ : MethodName) prog_2_method_3_code 2 (Option.some (Jvm.ClassFile.FieldType.object "com/example/capsa/capsa/BeanNameInUseException")) ({ frames := 8, cells := 14, slots := 3243, locals := 108 } : Room) #[.ref t, .ref u] h us (ValQ fun w h' => ∃ j r, w = .ref j ∧ Ext h h' ∧ Exa Z h' j "com/example/capsa/capsa/BeanNameInUseException" ∧ Fld Z h' j "java/lang/Throwable" "detailMessage" "Ljava/lang/String;" (.ref r) ∧ Str Z h' us r (msgL [x0, x1] ([] : List Int32))) := by
  obtain ⟨hw, hEL, hSA, ⟨zc, SC, hz⟩, ⟨fm, SF, hfm⟩, ⟨u0, SUn⟩, ⟨sp, SP, hsp⟩⟩ := id G
  refine CtrK.enter (K := KnownK) (own := "com/example/capsa/capsa/BeanNameInUseException") (nm := "alias") rfl rfl hEL (plainFor_of_name pn_12) #[.val (.ref t), .val (.ref u)] (fun m => by first | rfl | (simp [entryFrame, mkF, argsToLocals, Value.category, maxLocals]; done)) ?_
  intro p e s m below meth c T hfr hkn hZs X
  refine g_newU X (hw _ (List.mem_of_getElem? (i := 30) rfl)) (hw _ (List.mem_of_getElem? (i := 31) rfl)) (hw _ (List.mem_of_getElem? (i := 28) rfl)) d5_0 (ck := 1) rfl (cs := 6) rfl (by decide) (by decide) 3 rfl ?_
  intro a1 T2 h3 ea4 X5 E6 A7 D8 U9
  have le_a1 : h.size ≤ a1 := by rw [ea4]; exact (Ext.refl h).1
  have ne_t_a1 : t ≠ a1 := by rw [ea4]; exact Nat.ne_of_lt ST.lt
  have ne_u_a1 : u ≠ a1 := by rw [ea4]; exact Nat.ne_of_lt SU.lt
  have F10 : Fld Z h3 a1 "java/lang/Throwable" "backtrace" "Ljava/lang/Object;" (.null) := D8 (Or.inl (hw _ (List.mem_of_getElem? (i := 221) rfl))) (ty := (.object "java/lang/Object")) (by decide +kernel)
  have F11 : Fld Z h3 a1 "java/lang/Throwable" "cause" "Ljava/lang/Throwable;" (.null) := D8 (Or.inl (hw _ (List.mem_of_getElem? (i := 190) rfl))) (ty := (.object "java/lang/Throwable")) (by decide +kernel)
  have F12 : Fld Z h3 a1 "java/lang/Throwable" "stackTrace" "[Ljava/lang/StackTraceElement;" (.null) := D8 (Or.inl (hw _ (List.mem_of_getElem? (i := 193) rfl))) (ty := (.array (.object "java/lang/StackTraceElement"))) (by decide +kernel)
  have F13 : Fld Z h3 a1 "java/lang/Throwable" "suppressedExceptions" "Ljava/util/List;" (.null) := D8 (Or.inl (hw _ (List.mem_of_getElem? (i := 196) rfl))) (ty := (.object "java/util/List")) (by decide +kernel)
  have F14 : Fld Z h3 a1 "java/lang/Throwable" "detailMessage" "Ljava/lang/String;" (.null) := D8 (Or.inl (hw _ (List.mem_of_getElem? (i := 220) rfl))) (ty := (.object "java/lang/String")) (by decide +kernel)
  refine g_dup X5 d5_3 rfl 4 rfl ?_
  refine g_new X5 (hw _ (List.mem_of_getElem? (i := 32) rfl)) (hw _ (List.mem_of_getElem? (i := 33) rfl)) (hw _ (List.mem_of_getElem? (i := 34) rfl)) d5_4 (ck := 2) rfl (cs := 10) rfl (by decide) (by decide) 7 rfl ?_
  intro a15 T16 h17 ea18 X19 E20 A21 D22
  have le_a15 : h.size ≤ a15 := by rw [ea18]; exact ((Ext.refl h).trans E6).1
  have ne_t_a15 : t ≠ a15 := by rw [ea18]; exact Nat.ne_of_lt (ST.grow E6 ea4).lt
  have ne_u_a15 : u ≠ a15 := by rw [ea18]; exact Nat.ne_of_lt (SU.grow E6 ea4).lt
  have ne_a1_a15 : a1 ≠ a15 := by rw [ea18]; exact Nat.ne_of_lt A7.lt
  have F23 : Fld Z h17 a15 "java/lang/AbstractStringBuilder" "value" "[B" (.null) := D22 (Or.inl (hw _ (List.mem_of_getElem? (i := 47) rfl))) (ty := (.array .byte)) (by decide +kernel)
  have F24 : Fld Z h17 a15 "java/lang/AbstractStringBuilder" "coder" "B" (.int (0 : Int32)) := D22 (Or.inl (hw _ (List.mem_of_getElem? (i := 49) rfl))) (ty := .byte) (by decide +kernel)
  have F25 : Fld Z h17 a15 "java/lang/AbstractStringBuilder" "count" "I" (.int (0 : Int32)) := D22 (Or.inl (hw _ (List.mem_of_getElem? (i := 73) rfl))) (ty := .int) (by decide +kernel)
  refine g_dup X19 d5_7 rfl 8 rfl ?_
  refine g_callIn X19 rfl (hw _ (List.mem_of_getElem? (i := 35) rfl)) (hw _ (List.mem_of_getElem? (i := 36) rfl)) (hw _ (List.mem_of_getElem? (i := 34) rfl)) (hw _ (List.mem_of_getElem? (i := 37) rfl)) (by decide) (c_sbi l Z a0 G a15 h17 A21 F23 F24 F25) (by simp) (argsL := []) (rest := [.ref a15, .ref a1, .ref a1]) pd_15 rfl rfl rfl rfl 3 (Nat.le_of_eq rfl) (by decide) (by decide) (ck := 3) rfl (cs := 26) rfl (by decide) (by decide) d5_8 11 rfl ?_
  intro T26 h29 X27 hq28
  obtain ⟨b30, kb31, K32, le33, S34⟩ := hq28
  have X35 := X27.add (elL hw 16 (by decide)) S34.arv (Nat.le_trans X19.old.1 le33)
  have le_b30 : h.size ≤ b30 := Nat.le_trans (((Ext.refl h).trans E6).trans E20).1 le33
  have ne_a1_b30 : a1 ≠ b30 := Nat.ne_of_lt (Nat.lt_of_lt_of_le (A7.ext E20).lt le33)
  have ne_a15_b30 : a15 ≠ b30 := Nat.ne_of_lt (Nat.lt_of_lt_of_le A21.lt le33)
  have x36 : Ext h h29 := (ext_keep (((Ext.refl h).trans E6).trans E20) K32 (fun x hx => by simp only [List.mem_cons, List.not_mem_nil, or_false] at hx; rcases hx with rfl <;> first | exact le_a15))
  refine g_ldcS X35 (cs := [(67 : Int32), (97 : Int32), (110 : Int32), (110 : Int32), (111 : Int32), (116 : Int32), (32 : Int32), (103 : Int32), (105 : Int32), (118 : Int32), (101 : Int32), (32 : Int32), (98 : Int32), (101 : Int32), (97 : Int32), (110 : Int32), (32 : Int32), (34 : Int32)]) rfl (hw _ (List.mem_of_getElem? (i := 50) rfl)) hSA (by simp [EL, consts_1]) ⟨by decide, by decide⟩ (by decide) (by decide) d5_11 72 (by decide) (by decide) (ck := 5) rfl (cs' := 102) rfl (by decide) (by decide) 13 rfl ?_
  intro s37 T38 h39 X40 E41 S42
  obtain ⟨t43, kb44, e45, f46, f47, kc48, b49, l50, n51⟩ := id S42
  refine g_callVv X40 (hw _ (List.mem_of_getElem? (i := 51) rfl)) (hw _ (List.mem_of_getElem? (i := 52) rfl)) (hw _ (List.mem_of_getElem? (i := 54) rfl)) (hw _ (List.mem_of_getElem? (i := 53) rfl)) (hw _ (List.mem_of_getElem? (i := 34) rfl)) (hw _ (List.mem_of_getElem? (i := 55) rfl)) (nfSel (hw _ (List.mem_of_getElem? (i := 54) rfl))) (by decide) (S34.ext E41).1 (c_sbaG l Z a0 G a15 s37 t43 b30 kb44 kb31 16 ([] : List Int32) ([(67 : Int32), (97 : Int32), (110 : Int32), (110 : Int32), (111 : Int32), (116 : Int32), (32 : Int32), (103 : Int32), (105 : Int32), (118 : Int32), (101 : Int32), (32 : Int32), (98 : Int32), (101 : Int32), (97 : Int32), (110 : Int32), (32 : Int32), (34 : Int32)]) h39 (S34.ext E41) e45 f46 f47 kc48 b49 l50 (n51 a15 (by simp)).1 (n51 a15 (by simp)).2 (by decide) (by first | (simp; done) | exact Nat.le_of_ble_eq_true rfl) (by first | (simp; done) | exact Nat.le_of_ble_eq_true rfl) (by decide) (by decide)) (by simp) (argsL := [.ref s37]) (rest := [.ref a1, .ref a1]) pd_17 rfl rfl rfl rfl 2 (Nat.le_of_eq rfl) (by decide) (by decide) (ck := 6) rfl (cs := 172) rfl (by decide) (by decide) d5_13 16 rfl ?_
  intro w54 T52 h56 X53 hq55
  obtain ⟨rfl, b57, kb58, K59, le60, S61⟩ := hq55
  have X62 := X53.add (elL hw 34 (by decide)) S61.arv (Nat.le_trans X40.old.1 le60)
  have le_b57 : h.size ≤ b57 := Nat.le_trans (x36.trans E41).1 le60
  have ne_a1_b57 : a1 ≠ b57 := Nat.ne_of_lt (Nat.lt_of_lt_of_le (((A7.ext E20).keep K32).ext E41).lt le60)
  have ne_a15_b57 : a15 ≠ b57 := Nat.ne_of_lt (Nat.lt_of_lt_of_le (S34.ext E41).lt le60)
  have x63 : Ext h h56 := (ext_keep (x36.trans E41) K59 (fun x hx => by simp only [List.mem_cons, List.not_mem_nil, or_false] at hx; rcases hx with rfl <;> first | exact le_a15))
  refine g_aloadN X62 d5_16 rfl rfl 17 rfl ?_
  obtain ⟨t64, kb65, e66, f67, f68, kc69, b70, l71, n72⟩ := id (((((ST.grow E6 ea4).grow E20 ea18).growK K32 (by simp) le33).ext E41).growK K59 (by simp) le60)
  refine g_callVv X62 (hw _ (List.mem_of_getElem? (i := 51) rfl)) (hw _ (List.mem_of_getElem? (i := 52) rfl)) (hw _ (List.mem_of_getElem? (i := 54) rfl)) (hw _ (List.mem_of_getElem? (i := 53) rfl)) (hw _ (List.mem_of_getElem? (i := 34) rfl)) (hw _ (List.mem_of_getElem? (i := 55) rfl)) (nfSel (hw _ (List.mem_of_getElem? (i := 54) rfl))) (by decide) S61.1 (c_sba l Z a0 G a15 t t64 b57 kb65 kb58 34 (([] : List Int32) ++ [(67 : Int32), (97 : Int32), (110 : Int32), (110 : Int32), (111 : Int32), (116 : Int32), (32 : Int32), (103 : Int32), (105 : Int32), (118 : Int32), (101 : Int32), (32 : Int32), (98 : Int32), (101 : Int32), (97 : Int32), (110 : Int32), (32 : Int32), (34 : Int32)]) ([x0, x1]) h56 S61 e66 f67 f68 kc69 b70 l71 (by first | (simp; done) | exact Nat.le_of_ble_eq_true rfl)) (by simp) (argsL := [.ref t]) (rest := [.ref a1, .ref a1]) pd_17 rfl rfl rfl rfl 2 (Nat.le_of_eq rfl) (by decide) (by decide) (ck := 6) rfl (cs := 172) rfl (by decide) (by decide) d5_17 20 rfl ?_
  intro w75 T73 h77 X74 hq76
  obtain ⟨rfl, K78, S79⟩ := hq76
  have x80 : Ext h h77 := (ext_keep x63 K78 (fun x hx => by simp only [List.mem_cons, List.not_mem_nil, or_false] at hx; rcases hx with rfl | rfl <;> first | exact le_a15 | exact le_b57))
  refine g_ldcS X74 (cs := [(34 : Int32), (32 : Int32), (116 : Int32), (104 : Int32), (101 : Int32), (32 : Int32), (97 : Int32), (108 : Int32), (105 : Int32), (97 : Int32), (115 : Int32), (32 : Int32), (34 : Int32)]) rfl (hw _ (List.mem_of_getElem? (i := 122) rfl)) hSA (by simp [EL, consts_1]) ⟨by decide, by decide⟩ (by decide) (by decide) d5_20 52 (by decide) (by decide) (ck := 8) rfl (cs' := 228) rfl (by decide) (by decide) 22 rfl ?_
  intro s81 T82 h83 X84 E85 S86
  obtain ⟨t87, kb88, e89, f90, f91, kc92, b93, l94, n95⟩ := id S86
  refine g_callVv X84 (hw _ (List.mem_of_getElem? (i := 51) rfl)) (hw _ (List.mem_of_getElem? (i := 52) rfl)) (hw _ (List.mem_of_getElem? (i := 54) rfl)) (hw _ (List.mem_of_getElem? (i := 53) rfl)) (hw _ (List.mem_of_getElem? (i := 34) rfl)) (hw _ (List.mem_of_getElem? (i := 55) rfl)) (nfSel (hw _ (List.mem_of_getElem? (i := 54) rfl))) (by decide) (S79.ext E85).1 (c_sba l Z a0 G a15 s81 t87 b57 kb88 kb58 34 ((([] : List Int32) ++ [(67 : Int32), (97 : Int32), (110 : Int32), (110 : Int32), (111 : Int32), (116 : Int32), (32 : Int32), (103 : Int32), (105 : Int32), (118 : Int32), (101 : Int32), (32 : Int32), (98 : Int32), (101 : Int32), (97 : Int32), (110 : Int32), (32 : Int32), (34 : Int32)]) ++ [x0, x1]) ([(34 : Int32), (32 : Int32), (116 : Int32), (104 : Int32), (101 : Int32), (32 : Int32), (97 : Int32), (108 : Int32), (105 : Int32), (97 : Int32), (115 : Int32), (32 : Int32), (34 : Int32)]) h83 (S79.ext E85) e89 f90 f91 kc92 b93 l94 (by first | (simp; done) | exact Nat.le_of_ble_eq_true rfl)) (by simp) (argsL := [.ref s81]) (rest := [.ref a1, .ref a1]) pd_17 rfl rfl rfl rfl 2 (Nat.le_of_eq rfl) (by decide) (by decide) (ck := 8) rfl (cs := 228) rfl (by decide) (by decide) d5_22 25 rfl ?_
  intro w98 T96 h100 X97 hq99
  obtain ⟨rfl, K101, S102⟩ := hq99
  have x103 : Ext h h100 := (ext_keep (x80.trans E85) K101 (fun x hx => by simp only [List.mem_cons, List.not_mem_nil, or_false] at hx; rcases hx with rfl | rfl <;> first | exact le_a15 | exact le_b57))
  refine g_aloadN X97 d5_25 rfl rfl 26 rfl ?_
  obtain ⟨t104, kb105, e106, f107, f108, kc109, b110, l111, n112⟩ := id ((((((((SU.grow E6 ea4).grow E20 ea18).growK K32 (by simp) le33).ext E41).growK K59 (by simp) le60).keep K78 (by simp)).ext E85).keep K101 (by simp))
  refine g_callVv X97 (hw _ (List.mem_of_getElem? (i := 51) rfl)) (hw _ (List.mem_of_getElem? (i := 52) rfl)) (hw _ (List.mem_of_getElem? (i := 54) rfl)) (hw _ (List.mem_of_getElem? (i := 53) rfl)) (hw _ (List.mem_of_getElem? (i := 34) rfl)) (hw _ (List.mem_of_getElem? (i := 55) rfl)) (nfSel (hw _ (List.mem_of_getElem? (i := 54) rfl))) (by decide) S102.1 (c_sba l Z a0 G a15 u t104 b57 kb105 kb58 34 (((([] : List Int32) ++ [(67 : Int32), (97 : Int32), (110 : Int32), (110 : Int32), (111 : Int32), (116 : Int32), (32 : Int32), (103 : Int32), (105 : Int32), (118 : Int32), (101 : Int32), (32 : Int32), (98 : Int32), (101 : Int32), (97 : Int32), (110 : Int32), (32 : Int32), (34 : Int32)]) ++ [x0, x1]) ++ [(34 : Int32), (32 : Int32), (116 : Int32), (104 : Int32), (101 : Int32), (32 : Int32), (97 : Int32), (108 : Int32), (105 : Int32), (97 : Int32), (115 : Int32), (32 : Int32), (34 : Int32)]) ([] : List Int32) h100 S102 e106 f107 f108 kc109 b110 l111 (by first | (simp; done) | exact Nat.le_of_ble_eq_true rfl)) (by simp) (argsL := [.ref u]) (rest := [.ref a1, .ref a1]) pd_17 rfl rfl rfl rfl 2 (Nat.le_of_eq rfl) (by decide) (by decide) (ck := 8) rfl (cs := 228) rfl (by decide) (by decide) d5_26 29 rfl ?_
  intro w115 T113 h117 X114 hq116
  obtain ⟨rfl, K118, S119⟩ := hq116
  have x120 : Ext h h117 := (ext_keep x103 K118 (fun x hx => by simp only [List.mem_cons, List.not_mem_nil, or_false] at hx; rcases hx with rfl | rfl <;> first | exact le_a15 | exact le_b57))
  refine g_ldcS X114 (cs := [(34 : Int32), (58 : Int32), (32 : Int32), (116 : Int32), (104 : Int32), (97 : Int32), (116 : Int32), (32 : Int32), (110 : Int32), (97 : Int32), (109 : Int32), (101 : Int32), (32 : Int32), (105 : Int32), (115 : Int32), (32 : Int32), (97 : Int32), (108 : Int32), (114 : Int32), (101 : Int32), (97 : Int32), (100 : Int32), (121 : Int32), (32 : Int32), (105 : Int32), (110 : Int32), (32 : Int32), (117 : Int32), (115 : Int32), (101 : Int32)]) rfl (hw _ (List.mem_of_getElem? (i := 123) rfl)) hSA (by simp [EL, consts_1]) ⟨by decide, by decide⟩ (by decide) (by decide) d5_29 120 (by decide) (by decide) (ck := 10) rfl (cs' := 352) rfl (by decide) (by decide) 31 rfl ?_
  intro s121 T122 h123 X124 E125 S126
  obtain ⟨t127, kb128, e129, f130, f131, kc132, b133, l134, n135⟩ := id S126
  refine g_callVv X124 (hw _ (List.mem_of_getElem? (i := 51) rfl)) (hw _ (List.mem_of_getElem? (i := 52) rfl)) (hw _ (List.mem_of_getElem? (i := 54) rfl)) (hw _ (List.mem_of_getElem? (i := 53) rfl)) (hw _ (List.mem_of_getElem? (i := 34) rfl)) (hw _ (List.mem_of_getElem? (i := 55) rfl)) (nfSel (hw _ (List.mem_of_getElem? (i := 54) rfl))) (by decide) (S119.ext E125).1 (c_sbaG l Z a0 G a15 s121 t127 b57 kb128 kb58 34 ((((([] : List Int32) ++ [(67 : Int32), (97 : Int32), (110 : Int32), (110 : Int32), (111 : Int32), (116 : Int32), (32 : Int32), (103 : Int32), (105 : Int32), (118 : Int32), (101 : Int32), (32 : Int32), (98 : Int32), (101 : Int32), (97 : Int32), (110 : Int32), (32 : Int32), (34 : Int32)]) ++ [x0, x1]) ++ [(34 : Int32), (32 : Int32), (116 : Int32), (104 : Int32), (101 : Int32), (32 : Int32), (97 : Int32), (108 : Int32), (105 : Int32), (97 : Int32), (115 : Int32), (32 : Int32), (34 : Int32)]) ++ ([] : List Int32)) ([(34 : Int32), (58 : Int32), (32 : Int32), (116 : Int32), (104 : Int32), (97 : Int32), (116 : Int32), (32 : Int32), (110 : Int32), (97 : Int32), (109 : Int32), (101 : Int32), (32 : Int32), (105 : Int32), (115 : Int32), (32 : Int32), (97 : Int32), (108 : Int32), (114 : Int32), (101 : Int32), (97 : Int32), (100 : Int32), (121 : Int32), (32 : Int32), (105 : Int32), (110 : Int32), (32 : Int32), (117 : Int32), (115 : Int32), (101 : Int32)]) h123 (S119.ext E125) e129 f130 f131 kc132 b133 l134 (n135 a15 (by simp)).1 (n135 a15 (by simp)).2 (by decide) (by first | (simp; done) | exact Nat.le_of_ble_eq_true rfl) (by first | (simp; done) | exact Nat.le_of_ble_eq_true rfl) (by decide) (by decide)) (by simp) (argsL := [.ref s121]) (rest := [.ref a1, .ref a1]) pd_17 rfl rfl rfl rfl 2 (Nat.le_of_eq rfl) (by decide) (by decide) (ck := 11) rfl (cs := 422) rfl (by decide) (by decide) d5_31 34 rfl ?_
  intro w138 T136 h140 X137 hq139
  obtain ⟨rfl, b141, kb142, K143, le144, S145⟩ := hq139
  have X146 := X137.add (elL hw 70 (by decide)) S145.arv (Nat.le_trans X124.old.1 le144)
  have le_b141 : h.size ≤ b141 := Nat.le_trans (x120.trans E125).1 le144
  have ne_a1_b141 : a1 ≠ b141 := Nat.ne_of_lt (Nat.lt_of_lt_of_le (((((((((A7.ext E20).keep K32).ext E41).keep K59).keep K78).ext E85).keep K101).keep K118).ext E125).lt le144)
  have ne_a15_b141 : a15 ≠ b141 := Nat.ne_of_lt (Nat.lt_of_lt_of_le (S119.ext E125).lt le144)
  have x147 : Ext h h140 := (ext_keep (x120.trans E125) K143 (fun x hx => by simp only [List.mem_cons, List.not_mem_nil, or_false] at hx; rcases hx with rfl <;> first | exact le_a15))
  refine g_callVv X146 (hw _ (List.mem_of_getElem? (i := 124) rfl)) (hw _ (List.mem_of_getElem? (i := 125) rfl)) (hw _ (List.mem_of_getElem? (i := 127) rfl)) (hw _ (List.mem_of_getElem? (i := 126) rfl)) (hw _ (List.mem_of_getElem? (i := 34) rfl)) (hw _ (List.mem_of_getElem? (i := 128) rfl)) (nfSel (hw _ (List.mem_of_getElem? (i := 127) rfl))) (by decide) S145.1 (c_sts l Z a0 G a15 b141 kb142 70 (((((([] : List Int32) ++ [(67 : Int32), (97 : Int32), (110 : Int32), (110 : Int32), (111 : Int32), (116 : Int32), (32 : Int32), (103 : Int32), (105 : Int32), (118 : Int32), (101 : Int32), (32 : Int32), (98 : Int32), (101 : Int32), (97 : Int32), (110 : Int32), (32 : Int32), (34 : Int32)]) ++ [x0, x1]) ++ [(34 : Int32), (32 : Int32), (116 : Int32), (104 : Int32), (101 : Int32), (32 : Int32), (97 : Int32), (108 : Int32), (105 : Int32), (97 : Int32), (115 : Int32), (32 : Int32), (34 : Int32)]) ++ ([] : List Int32)) ++ [(34 : Int32), (58 : Int32), (32 : Int32), (116 : Int32), (104 : Int32), (97 : Int32), (116 : Int32), (32 : Int32), (110 : Int32), (97 : Int32), (109 : Int32), (101 : Int32), (32 : Int32), (105 : Int32), (115 : Int32), (32 : Int32), (97 : Int32), (108 : Int32), (114 : Int32), (101 : Int32), (97 : Int32), (100 : Int32), (121 : Int32), (32 : Int32), (105 : Int32), (110 : Int32), (32 : Int32), (117 : Int32), (115 : Int32), (101 : Int32)]) h140 S145 (by first | (simp; done) | exact Nat.le_of_ble_eq_true rfl) (by first | (simp; done) | exact Nat.le_of_ble_eq_true rfl)) (by simp) (argsL := []) (rest := [.ref a1, .ref a1]) pd_21 rfl rfl rfl rfl 2 (Nat.le_of_eq rfl) (by decide) (by decide) (ck := 13) rfl (cs := 491) rfl (by decide) (by decide) d5_34 37 rfl ?_
  intro w150 T148 h152 X149 hq151
  obtain ⟨r153, rfl, E154, SN155⟩ := hq151
  have S156 : Str Z h152 (b141 :: b57 :: b30 :: a15 :: a1 :: us) r153 (((((([] : List Int32) ++ [(67 : Int32), (97 : Int32), (110 : Int32), (110 : Int32), (111 : Int32), (116 : Int32), (32 : Int32), (103 : Int32), (105 : Int32), (118 : Int32), (101 : Int32), (32 : Int32), (98 : Int32), (101 : Int32), (97 : Int32), (110 : Int32), (32 : Int32), (34 : Int32)]) ++ [x0, x1]) ++ [(34 : Int32), (32 : Int32), (116 : Int32), (104 : Int32), (101 : Int32), (32 : Int32), (97 : Int32), (108 : Int32), (105 : Int32), (97 : Int32), (115 : Int32), (32 : Int32), (34 : Int32)]) ++ ([] : List Int32)) ++ [(34 : Int32), (58 : Int32), (32 : Int32), (116 : Int32), (104 : Int32), (97 : Int32), (116 : Int32), (32 : Int32), (110 : Int32), (97 : Int32), (109 : Int32), (101 : Int32), (32 : Int32), (105 : Int32), (115 : Int32), (32 : Int32), (97 : Int32), (108 : Int32), (114 : Int32), (101 : Int32), (97 : Int32), (100 : Int32), (121 : Int32), (32 : Int32), (105 : Int32), (110 : Int32), (32 : Int32), (117 : Int32), (115 : Int32), (101 : Int32)]) := SN155.str X146.news
  have sn_r153 : StrN Z h h152 r153 (((((([] : List Int32) ++ [(67 : Int32), (97 : Int32), (110 : Int32), (110 : Int32), (111 : Int32), (116 : Int32), (32 : Int32), (103 : Int32), (105 : Int32), (118 : Int32), (101 : Int32), (32 : Int32), (98 : Int32), (101 : Int32), (97 : Int32), (110 : Int32), (32 : Int32), (34 : Int32)]) ++ [x0, x1]) ++ [(34 : Int32), (32 : Int32), (116 : Int32), (104 : Int32), (101 : Int32), (32 : Int32), (97 : Int32), (108 : Int32), (105 : Int32), (97 : Int32), (115 : Int32), (32 : Int32), (34 : Int32)]) ++ ([] : List Int32)) ++ [(34 : Int32), (58 : Int32), (32 : Int32), (116 : Int32), (104 : Int32), (97 : Int32), (116 : Int32), (32 : Int32), (110 : Int32), (97 : Int32), (109 : Int32), (101 : Int32), (32 : Int32), (105 : Int32), (115 : Int32), (32 : Int32), (97 : Int32), (108 : Int32), (114 : Int32), (101 : Int32), (97 : Int32), (100 : Int32), (121 : Int32), (32 : Int32), (105 : Int32), (110 : Int32), (32 : Int32), (117 : Int32), (115 : Int32), (101 : Int32)]) := SN155.mono x147.1
  refine g_callIK X149 hkn rfl (hw _ (List.mem_of_getElem? (i := 163) rfl)) (hw _ (List.mem_of_getElem? (i := 164) rfl)) (hw _ (List.mem_of_getElem? (i := 28) rfl)) (hw _ (List.mem_of_getElem? (i := 165) rfl)) (by decide) (c_bni l Z a0 G hst a1 r153 h152 (((((((((((A7.ext E20).keep K32).ext E41).keep K59).keep K78).ext E85).keep K101).keep K118).ext E125).keep K143).ext E154) (((((((((((U9.ext E20).keep K32 (ninS ne_a1_a15 nin0)).ext E41).keep K59 (ninS ne_a1_a15 nin0)).keep K78 (ninS ne_a1_a15 (ninS ne_a1_b57 nin0))).ext E85).keep K101 (ninS ne_a1_a15 (ninS ne_a1_b57 nin0))).keep K118 (ninS ne_a1_a15 (ninS ne_a1_b57 nin0))).ext E125).keep K143 (ninS ne_a1_a15 nin0)).ext E154) (((((((((((F10.ext E20).keep K32 (ninS ne_a1_a15 nin0)).ext E41).keep K59 (ninS ne_a1_a15 nin0)).keep K78 (ninS ne_a1_a15 (ninS ne_a1_b57 nin0))).ext E85).keep K101 (ninS ne_a1_a15 (ninS ne_a1_b57 nin0))).keep K118 (ninS ne_a1_a15 (ninS ne_a1_b57 nin0))).ext E125).keep K143 (ninS ne_a1_a15 nin0)).ext E154) (((((((((((F11.ext E20).keep K32 (ninS ne_a1_a15 nin0)).ext E41).keep K59 (ninS ne_a1_a15 nin0)).keep K78 (ninS ne_a1_a15 (ninS ne_a1_b57 nin0))).ext E85).keep K101 (ninS ne_a1_a15 (ninS ne_a1_b57 nin0))).keep K118 (ninS ne_a1_a15 (ninS ne_a1_b57 nin0))).ext E125).keep K143 (ninS ne_a1_a15 nin0)).ext E154) (((((((((((F12.ext E20).keep K32 (ninS ne_a1_a15 nin0)).ext E41).keep K59 (ninS ne_a1_a15 nin0)).keep K78 (ninS ne_a1_a15 (ninS ne_a1_b57 nin0))).ext E85).keep K101 (ninS ne_a1_a15 (ninS ne_a1_b57 nin0))).keep K118 (ninS ne_a1_a15 (ninS ne_a1_b57 nin0))).ext E125).keep K143 (ninS ne_a1_a15 nin0)).ext E154) (((((((((((F13.ext E20).keep K32 (ninS ne_a1_a15 nin0)).ext E41).keep K59 (ninS ne_a1_a15 nin0)).keep K78 (ninS ne_a1_a15 (ninS ne_a1_b57 nin0))).ext E85).keep K101 (ninS ne_a1_a15 (ninS ne_a1_b57 nin0))).keep K118 (ninS ne_a1_a15 (ninS ne_a1_b57 nin0))).ext E125).keep K143 (ninS ne_a1_a15 nin0)).ext E154) (((((((((((F14.ext E20).keep K32 (ninS ne_a1_a15 nin0)).ext E41).keep K59 (ninS ne_a1_a15 nin0)).keep K78 (ninS ne_a1_a15 (ninS ne_a1_b57 nin0))).ext E85).keep K101 (ninS ne_a1_a15 (ninS ne_a1_b57 nin0))).keep K118 (ninS ne_a1_a15 (ninS ne_a1_b57 nin0))).ext E125).keep K143 (ninS ne_a1_a15 nin0)).ext E154)) (by simp) (a := a1) (argsL := [.ref r153]) (rest := [.ref a1]) pd_2 rfl rfl rfl rfl 1 (Nat.le_of_eq rfl) (by decide) (by decide) (ck := 14) rfl (cs := 3243) rfl (by decide) (by decide) d5_37 40 rfl ?_
  intro T157 h158 X159 hq160
  obtain ⟨K161, E162, F163⟩ := hq160
  have x164 : Ext h h158 := (ext_keep (x147.trans E154) K161 (fun x hx => by simp only [List.mem_cons, List.not_mem_nil, or_false] at hx; rcases hx with rfl <;> first | exact le_a1))
  have X165 := X159.sub (us' := us) (by intro x hx; simp [hx])
  exact g_retA X165 rfl rfl rfl d5_40 (by decide) (by decide) ⟨_, rfl, ⟨a1, r153, rfl, x164, E162, F163, ((S156.keep K161 (by simp)).sub (us' := us) (by intro x hx; first | (simp [hx]; done) | (simp at hx ⊢; simp_all)))⟩⟩
set_option maxRecDepth 65536 in
set_option maxHeartbeats 40000000 in
theorem c_al21 (l : Launch) (Z : State) (a0 : Array Value) (G : Gl Z a0) (hst : l.stackTraces = true) (t u : Addr) (us : List Addr) (x0 x1 y0 y1 : Int32) (h : Heap) (ST : Str Z h us t [x0, x1]) (SU : Str Z h us u [y0]) :
    CtrK KnownK l Z EL nw (⟨"com/example/capsa/capsa/BeanNameInUseException", "alias", "(Ljava/lang/String;Ljava/lang/String;)Lcom/example/capsa/capsa/BeanNameInUseException;"⟩ : MethodName) prog_2_method_3_code 2 (Option.some (Jvm.ClassFile.FieldType.object "com/example/capsa/capsa/BeanNameInUseException")) ({ frames := 8, cells := 14, slots := 3243, locals := 108 } : Room) #[.ref t, .ref u] h us (ValQ fun w h' => ∃ j r, w = .ref j ∧ Ext h h' ∧ Exa Z h' j "com/example/capsa/capsa/BeanNameInUseException" ∧ Fld Z h' j "java/lang/Throwable" "detailMessage" "Ljava/lang/String;" (.ref r) ∧ Str Z h' us r (msgL [x0, x1] [y0])) := by
  obtain ⟨hw, hEL, hSA, ⟨zc, SC, hz⟩, ⟨fm, SF, hfm⟩, ⟨u0, SUn⟩, ⟨sp, SP, hsp⟩⟩ := id G
  refine CtrK.enter (K := KnownK) (own := "com/example/capsa/capsa/BeanNameInUseException") (nm := "alias") rfl rfl hEL (plainFor_of_name pn_12) #[.val (.ref t), .val (.ref u)] (fun m => by first | rfl | (simp [entryFrame, mkF, argsToLocals, Value.category, maxLocals]; done)) ?_
  intro p e s m below meth c T hfr hkn hZs X
  refine g_newU X (hw _ (List.mem_of_getElem? (i := 30) rfl)) (hw _ (List.mem_of_getElem? (i := 31) rfl)) (hw _ (List.mem_of_getElem? (i := 28) rfl)) d5_0 (ck := 1) rfl (cs := 6) rfl (by decide) (by decide) 3 rfl ?_
  intro a1 T2 h3 ea4 X5 E6 A7 D8 U9
  have le_a1 : h.size ≤ a1 := by rw [ea4]; exact (Ext.refl h).1
  have ne_t_a1 : t ≠ a1 := by rw [ea4]; exact Nat.ne_of_lt ST.lt
  have ne_u_a1 : u ≠ a1 := by rw [ea4]; exact Nat.ne_of_lt SU.lt
  have F10 : Fld Z h3 a1 "java/lang/Throwable" "backtrace" "Ljava/lang/Object;" (.null) := D8 (Or.inl (hw _ (List.mem_of_getElem? (i := 221) rfl))) (ty := (.object "java/lang/Object")) (by decide +kernel)
  have F11 : Fld Z h3 a1 "java/lang/Throwable" "cause" "Ljava/lang/Throwable;" (.null) := D8 (Or.inl (hw _ (List.mem_of_getElem? (i := 190) rfl))) (ty := (.object "java/lang/Throwable")) (by decide +kernel)
  have F12 : Fld Z h3 a1 "java/lang/Throwable" "stackTrace" "[Ljava/lang/StackTraceElement;" (.null) := D8 (Or.inl (hw _ (List.mem_of_getElem? (i := 193) rfl))) (ty := (.array (.object "java/lang/StackTraceElement"))) (by decide +kernel)
  have F13 : Fld Z h3 a1 "java/lang/Throwable" "suppressedExceptions" "Ljava/util/List;" (.null) := D8 (Or.inl (hw _ (List.mem_of_getElem? (i := 196) rfl))) (ty := (.object "java/util/List")) (by decide +kernel)
  have F14 : Fld Z h3 a1 "java/lang/Throwable" "detailMessage" "Ljava/lang/String;" (.null) := D8 (Or.inl (hw _ (List.mem_of_getElem? (i := 220) rfl))) (ty := (.object "java/lang/String")) (by decide +kernel)
  refine g_dup X5 d5_3 rfl 4 rfl ?_
  refine g_new X5 (hw _ (List.mem_of_getElem? (i := 32) rfl)) (hw _ (List.mem_of_getElem? (i := 33) rfl)) (hw _ (List.mem_of_getElem? (i := 34) rfl)) d5_4 (ck := 2) rfl (cs := 10) rfl (by decide) (by decide) 7 rfl ?_
  intro a15 T16 h17 ea18 X19 E20 A21 D22
  have le_a15 : h.size ≤ a15 := by rw [ea18]; exact ((Ext.refl h).trans E6).1
  have ne_t_a15 : t ≠ a15 := by rw [ea18]; exact Nat.ne_of_lt (ST.grow E6 ea4).lt
  have ne_u_a15 : u ≠ a15 := by rw [ea18]; exact Nat.ne_of_lt (SU.grow E6 ea4).lt
  have ne_a1_a15 : a1 ≠ a15 := by rw [ea18]; exact Nat.ne_of_lt A7.lt
  have F23 : Fld Z h17 a15 "java/lang/AbstractStringBuilder" "value" "[B" (.null) := D22 (Or.inl (hw _ (List.mem_of_getElem? (i := 47) rfl))) (ty := (.array .byte)) (by decide +kernel)
  have F24 : Fld Z h17 a15 "java/lang/AbstractStringBuilder" "coder" "B" (.int (0 : Int32)) := D22 (Or.inl (hw _ (List.mem_of_getElem? (i := 49) rfl))) (ty := .byte) (by decide +kernel)
  have F25 : Fld Z h17 a15 "java/lang/AbstractStringBuilder" "count" "I" (.int (0 : Int32)) := D22 (Or.inl (hw _ (List.mem_of_getElem? (i := 73) rfl))) (ty := .int) (by decide +kernel)
  refine g_dup X19 d5_7 rfl 8 rfl ?_
  refine g_callIn X19 rfl (hw _ (List.mem_of_getElem? (i := 35) rfl)) (hw _ (List.mem_of_getElem? (i := 36) rfl)) (hw _ (List.mem_of_getElem? (i := 34) rfl)) (hw _ (List.mem_of_getElem? (i := 37) rfl)) (by decide) (c_sbi l Z a0 G a15 h17 A21 F23 F24 F25) (by simp) (argsL := []) (rest := [.ref a15, .ref a1, .ref a1]) pd_15 rfl rfl rfl rfl 3 (Nat.le_of_eq rfl) (by decide) (by decide) (ck := 3) rfl (cs := 26) rfl (by decide) (by decide) d5_8 11 rfl ?_
  intro T26 h29 X27 hq28
  obtain ⟨b30, kb31, K32, le33, S34⟩ := hq28
  have X35 := X27.add (elL hw 16 (by decide)) S34.arv (Nat.le_trans X19.old.1 le33)
  have le_b30 : h.size ≤ b30 := Nat.le_trans (((Ext.refl h).trans E6).trans E20).1 le33
  have ne_a1_b30 : a1 ≠ b30 := Nat.ne_of_lt (Nat.lt_of_lt_of_le (A7.ext E20).lt le33)
  have ne_a15_b30 : a15 ≠ b30 := Nat.ne_of_lt (Nat.lt_of_lt_of_le A21.lt le33)
  have x36 : Ext h h29 := (ext_keep (((Ext.refl h).trans E6).trans E20) K32 (fun x hx => by simp only [List.mem_cons, List.not_mem_nil, or_false] at hx; rcases hx with rfl <;> first | exact le_a15))
  refine g_ldcS X35 (cs := [(67 : Int32), (97 : Int32), (110 : Int32), (110 : Int32), (111 : Int32), (116 : Int32), (32 : Int32), (103 : Int32), (105 : Int32), (118 : Int32), (101 : Int32), (32 : Int32), (98 : Int32), (101 : Int32), (97 : Int32), (110 : Int32), (32 : Int32), (34 : Int32)]) rfl (hw _ (List.mem_of_getElem? (i := 50) rfl)) hSA (by simp [EL, consts_1]) ⟨by decide, by decide⟩ (by decide) (by decide) d5_11 72 (by decide) (by decide) (ck := 5) rfl (cs' := 102) rfl (by decide) (by decide) 13 rfl ?_
  intro s37 T38 h39 X40 E41 S42
  obtain ⟨t43, kb44, e45, f46, f47, kc48, b49, l50, n51⟩ := id S42
  refine g_callVv X40 (hw _ (List.mem_of_getElem? (i := 51) rfl)) (hw _ (List.mem_of_getElem? (i := 52) rfl)) (hw _ (List.mem_of_getElem? (i := 54) rfl)) (hw _ (List.mem_of_getElem? (i := 53) rfl)) (hw _ (List.mem_of_getElem? (i := 34) rfl)) (hw _ (List.mem_of_getElem? (i := 55) rfl)) (nfSel (hw _ (List.mem_of_getElem? (i := 54) rfl))) (by decide) (S34.ext E41).1 (c_sbaG l Z a0 G a15 s37 t43 b30 kb44 kb31 16 ([] : List Int32) ([(67 : Int32), (97 : Int32), (110 : Int32), (110 : Int32), (111 : Int32), (116 : Int32), (32 : Int32), (103 : Int32), (105 : Int32), (118 : Int32), (101 : Int32), (32 : Int32), (98 : Int32), (101 : Int32), (97 : Int32), (110 : Int32), (32 : Int32), (34 : Int32)]) h39 (S34.ext E41) e45 f46 f47 kc48 b49 l50 (n51 a15 (by simp)).1 (n51 a15 (by simp)).2 (by decide) (by first | (simp; done) | exact Nat.le_of_ble_eq_true rfl) (by first | (simp; done) | exact Nat.le_of_ble_eq_true rfl) (by decide) (by decide)) (by simp) (argsL := [.ref s37]) (rest := [.ref a1, .ref a1]) pd_17 rfl rfl rfl rfl 2 (Nat.le_of_eq rfl) (by decide) (by decide) (ck := 6) rfl (cs := 172) rfl (by decide) (by decide) d5_13 16 rfl ?_
  intro w54 T52 h56 X53 hq55
  obtain ⟨rfl, b57, kb58, K59, le60, S61⟩ := hq55
  have X62 := X53.add (elL hw 34 (by decide)) S61.arv (Nat.le_trans X40.old.1 le60)
  have le_b57 : h.size ≤ b57 := Nat.le_trans (x36.trans E41).1 le60
  have ne_a1_b57 : a1 ≠ b57 := Nat.ne_of_lt (Nat.lt_of_lt_of_le (((A7.ext E20).keep K32).ext E41).lt le60)
  have ne_a15_b57 : a15 ≠ b57 := Nat.ne_of_lt (Nat.lt_of_lt_of_le (S34.ext E41).lt le60)
  have x63 : Ext h h56 := (ext_keep (x36.trans E41) K59 (fun x hx => by simp only [List.mem_cons, List.not_mem_nil, or_false] at hx; rcases hx with rfl <;> first | exact le_a15))
  refine g_aloadN X62 d5_16 rfl rfl 17 rfl ?_
  obtain ⟨t64, kb65, e66, f67, f68, kc69, b70, l71, n72⟩ := id (((((ST.grow E6 ea4).grow E20 ea18).growK K32 (by simp) le33).ext E41).growK K59 (by simp) le60)
  refine g_callVv X62 (hw _ (List.mem_of_getElem? (i := 51) rfl)) (hw _ (List.mem_of_getElem? (i := 52) rfl)) (hw _ (List.mem_of_getElem? (i := 54) rfl)) (hw _ (List.mem_of_getElem? (i := 53) rfl)) (hw _ (List.mem_of_getElem? (i := 34) rfl)) (hw _ (List.mem_of_getElem? (i := 55) rfl)) (nfSel (hw _ (List.mem_of_getElem? (i := 54) rfl))) (by decide) S61.1 (c_sba l Z a0 G a15 t t64 b57 kb65 kb58 34 (([] : List Int32) ++ [(67 : Int32), (97 : Int32), (110 : Int32), (110 : Int32), (111 : Int32), (116 : Int32), (32 : Int32), (103 : Int32), (105 : Int32), (118 : Int32), (101 : Int32), (32 : Int32), (98 : Int32), (101 : Int32), (97 : Int32), (110 : Int32), (32 : Int32), (34 : Int32)]) ([x0, x1]) h56 S61 e66 f67 f68 kc69 b70 l71 (by first | (simp; done) | exact Nat.le_of_ble_eq_true rfl)) (by simp) (argsL := [.ref t]) (rest := [.ref a1, .ref a1]) pd_17 rfl rfl rfl rfl 2 (Nat.le_of_eq rfl) (by decide) (by decide) (ck := 6) rfl (cs := 172) rfl (by decide) (by decide) d5_17 20 rfl ?_
  intro w75 T73 h77 X74 hq76
  obtain ⟨rfl, K78, S79⟩ := hq76
  have x80 : Ext h h77 := (ext_keep x63 K78 (fun x hx => by simp only [List.mem_cons, List.not_mem_nil, or_false] at hx; rcases hx with rfl | rfl <;> first | exact le_a15 | exact le_b57))
  refine g_ldcS X74 (cs := [(34 : Int32), (32 : Int32), (116 : Int32), (104 : Int32), (101 : Int32), (32 : Int32), (97 : Int32), (108 : Int32), (105 : Int32), (97 : Int32), (115 : Int32), (32 : Int32), (34 : Int32)]) rfl (hw _ (List.mem_of_getElem? (i := 122) rfl)) hSA (by simp [EL, consts_1]) ⟨by decide, by decide⟩ (by decide) (by decide) d5_20 52 (by decide) (by decide) (ck := 8) rfl (cs' := 228) rfl (by decide) (by decide) 22 rfl ?_
  intro s81 T82 h83 X84 E85 S86
  obtain ⟨t87, kb88, e89, f90, f91, kc92, b93, l94, n95⟩ := id S86
  refine g_callVv X84 (hw _ (List.mem_of_getElem? (i := 51) rfl)) (hw _ (List.mem_of_getElem? (i := 52) rfl)) (hw _ (List.mem_of_getElem? (i := 54) rfl)) (hw _ (List.mem_of_getElem? (i := 53) rfl)) (hw _ (List.mem_of_getElem? (i := 34) rfl)) (hw _ (List.mem_of_getElem? (i := 55) rfl)) (nfSel (hw _ (List.mem_of_getElem? (i := 54) rfl))) (by decide) (S79.ext E85).1 (c_sba l Z a0 G a15 s81 t87 b57 kb88 kb58 34 ((([] : List Int32) ++ [(67 : Int32), (97 : Int32), (110 : Int32), (110 : Int32), (111 : Int32), (116 : Int32), (32 : Int32), (103 : Int32), (105 : Int32), (118 : Int32), (101 : Int32), (32 : Int32), (98 : Int32), (101 : Int32), (97 : Int32), (110 : Int32), (32 : Int32), (34 : Int32)]) ++ [x0, x1]) ([(34 : Int32), (32 : Int32), (116 : Int32), (104 : Int32), (101 : Int32), (32 : Int32), (97 : Int32), (108 : Int32), (105 : Int32), (97 : Int32), (115 : Int32), (32 : Int32), (34 : Int32)]) h83 (S79.ext E85) e89 f90 f91 kc92 b93 l94 (by first | (simp; done) | exact Nat.le_of_ble_eq_true rfl)) (by simp) (argsL := [.ref s81]) (rest := [.ref a1, .ref a1]) pd_17 rfl rfl rfl rfl 2 (Nat.le_of_eq rfl) (by decide) (by decide) (ck := 8) rfl (cs := 228) rfl (by decide) (by decide) d5_22 25 rfl ?_
  intro w98 T96 h100 X97 hq99
  obtain ⟨rfl, K101, S102⟩ := hq99
  have x103 : Ext h h100 := (ext_keep (x80.trans E85) K101 (fun x hx => by simp only [List.mem_cons, List.not_mem_nil, or_false] at hx; rcases hx with rfl | rfl <;> first | exact le_a15 | exact le_b57))
  refine g_aloadN X97 d5_25 rfl rfl 26 rfl ?_
  obtain ⟨t104, kb105, e106, f107, f108, kc109, b110, l111, n112⟩ := id ((((((((SU.grow E6 ea4).grow E20 ea18).growK K32 (by simp) le33).ext E41).growK K59 (by simp) le60).keep K78 (by simp)).ext E85).keep K101 (by simp))
  refine g_callVv X97 (hw _ (List.mem_of_getElem? (i := 51) rfl)) (hw _ (List.mem_of_getElem? (i := 52) rfl)) (hw _ (List.mem_of_getElem? (i := 54) rfl)) (hw _ (List.mem_of_getElem? (i := 53) rfl)) (hw _ (List.mem_of_getElem? (i := 34) rfl)) (hw _ (List.mem_of_getElem? (i := 55) rfl)) (nfSel (hw _ (List.mem_of_getElem? (i := 54) rfl))) (by decide) S102.1 (c_sba l Z a0 G a15 u t104 b57 kb105 kb58 34 (((([] : List Int32) ++ [(67 : Int32), (97 : Int32), (110 : Int32), (110 : Int32), (111 : Int32), (116 : Int32), (32 : Int32), (103 : Int32), (105 : Int32), (118 : Int32), (101 : Int32), (32 : Int32), (98 : Int32), (101 : Int32), (97 : Int32), (110 : Int32), (32 : Int32), (34 : Int32)]) ++ [x0, x1]) ++ [(34 : Int32), (32 : Int32), (116 : Int32), (104 : Int32), (101 : Int32), (32 : Int32), (97 : Int32), (108 : Int32), (105 : Int32), (97 : Int32), (115 : Int32), (32 : Int32), (34 : Int32)]) ([y0]) h100 S102 e106 f107 f108 kc109 b110 l111 (by first | (simp; done) | exact Nat.le_of_ble_eq_true rfl)) (by simp) (argsL := [.ref u]) (rest := [.ref a1, .ref a1]) pd_17 rfl rfl rfl rfl 2 (Nat.le_of_eq rfl) (by decide) (by decide) (ck := 8) rfl (cs := 228) rfl (by decide) (by decide) d5_26 29 rfl ?_
  intro w115 T113 h117 X114 hq116
  obtain ⟨rfl, K118, S119⟩ := hq116
  have x120 : Ext h h117 := (ext_keep x103 K118 (fun x hx => by simp only [List.mem_cons, List.not_mem_nil, or_false] at hx; rcases hx with rfl | rfl <;> first | exact le_a15 | exact le_b57))
  refine g_ldcS X114 (cs := [(34 : Int32), (58 : Int32), (32 : Int32), (116 : Int32), (104 : Int32), (97 : Int32), (116 : Int32), (32 : Int32), (110 : Int32), (97 : Int32), (109 : Int32), (101 : Int32), (32 : Int32), (105 : Int32), (115 : Int32), (32 : Int32), (97 : Int32), (108 : Int32), (114 : Int32), (101 : Int32), (97 : Int32), (100 : Int32), (121 : Int32), (32 : Int32), (105 : Int32), (110 : Int32), (32 : Int32), (117 : Int32), (115 : Int32), (101 : Int32)]) rfl (hw _ (List.mem_of_getElem? (i := 123) rfl)) hSA (by simp [EL, consts_1]) ⟨by decide, by decide⟩ (by decide) (by decide) d5_29 120 (by decide) (by decide) (ck := 10) rfl (cs' := 352) rfl (by decide) (by decide) 31 rfl ?_
  intro s121 T122 h123 X124 E125 S126
  obtain ⟨t127, kb128, e129, f130, f131, kc132, b133, l134, n135⟩ := id S126
  refine g_callVv X124 (hw _ (List.mem_of_getElem? (i := 51) rfl)) (hw _ (List.mem_of_getElem? (i := 52) rfl)) (hw _ (List.mem_of_getElem? (i := 54) rfl)) (hw _ (List.mem_of_getElem? (i := 53) rfl)) (hw _ (List.mem_of_getElem? (i := 34) rfl)) (hw _ (List.mem_of_getElem? (i := 55) rfl)) (nfSel (hw _ (List.mem_of_getElem? (i := 54) rfl))) (by decide) (S119.ext E125).1 (c_sbaG l Z a0 G a15 s121 t127 b57 kb128 kb58 34 ((((([] : List Int32) ++ [(67 : Int32), (97 : Int32), (110 : Int32), (110 : Int32), (111 : Int32), (116 : Int32), (32 : Int32), (103 : Int32), (105 : Int32), (118 : Int32), (101 : Int32), (32 : Int32), (98 : Int32), (101 : Int32), (97 : Int32), (110 : Int32), (32 : Int32), (34 : Int32)]) ++ [x0, x1]) ++ [(34 : Int32), (32 : Int32), (116 : Int32), (104 : Int32), (101 : Int32), (32 : Int32), (97 : Int32), (108 : Int32), (105 : Int32), (97 : Int32), (115 : Int32), (32 : Int32), (34 : Int32)]) ++ [y0]) ([(34 : Int32), (58 : Int32), (32 : Int32), (116 : Int32), (104 : Int32), (97 : Int32), (116 : Int32), (32 : Int32), (110 : Int32), (97 : Int32), (109 : Int32), (101 : Int32), (32 : Int32), (105 : Int32), (115 : Int32), (32 : Int32), (97 : Int32), (108 : Int32), (114 : Int32), (101 : Int32), (97 : Int32), (100 : Int32), (121 : Int32), (32 : Int32), (105 : Int32), (110 : Int32), (32 : Int32), (117 : Int32), (115 : Int32), (101 : Int32)]) h123 (S119.ext E125) e129 f130 f131 kc132 b133 l134 (n135 a15 (by simp)).1 (n135 a15 (by simp)).2 (by decide) (by first | (simp; done) | exact Nat.le_of_ble_eq_true rfl) (by first | (simp; done) | exact Nat.le_of_ble_eq_true rfl) (by decide) (by decide)) (by simp) (argsL := [.ref s121]) (rest := [.ref a1, .ref a1]) pd_17 rfl rfl rfl rfl 2 (Nat.le_of_eq rfl) (by decide) (by decide) (ck := 11) rfl (cs := 422) rfl (by decide) (by decide) d5_31 34 rfl ?_
  intro w138 T136 h140 X137 hq139
  obtain ⟨rfl, b141, kb142, K143, le144, S145⟩ := hq139
  have X146 := X137.add (elL hw 70 (by decide)) S145.arv (Nat.le_trans X124.old.1 le144)
  have le_b141 : h.size ≤ b141 := Nat.le_trans (x120.trans E125).1 le144
  have ne_a1_b141 : a1 ≠ b141 := Nat.ne_of_lt (Nat.lt_of_lt_of_le (((((((((A7.ext E20).keep K32).ext E41).keep K59).keep K78).ext E85).keep K101).keep K118).ext E125).lt le144)
  have ne_a15_b141 : a15 ≠ b141 := Nat.ne_of_lt (Nat.lt_of_lt_of_le (S119.ext E125).lt le144)
  have x147 : Ext h h140 := (ext_keep (x120.trans E125) K143 (fun x hx => by simp only [List.mem_cons, List.not_mem_nil, or_false] at hx; rcases hx with rfl <;> first | exact le_a15))
  refine g_callVv X146 (hw _ (List.mem_of_getElem? (i := 124) rfl)) (hw _ (List.mem_of_getElem? (i := 125) rfl)) (hw _ (List.mem_of_getElem? (i := 127) rfl)) (hw _ (List.mem_of_getElem? (i := 126) rfl)) (hw _ (List.mem_of_getElem? (i := 34) rfl)) (hw _ (List.mem_of_getElem? (i := 128) rfl)) (nfSel (hw _ (List.mem_of_getElem? (i := 127) rfl))) (by decide) S145.1 (c_sts l Z a0 G a15 b141 kb142 70 (((((([] : List Int32) ++ [(67 : Int32), (97 : Int32), (110 : Int32), (110 : Int32), (111 : Int32), (116 : Int32), (32 : Int32), (103 : Int32), (105 : Int32), (118 : Int32), (101 : Int32), (32 : Int32), (98 : Int32), (101 : Int32), (97 : Int32), (110 : Int32), (32 : Int32), (34 : Int32)]) ++ [x0, x1]) ++ [(34 : Int32), (32 : Int32), (116 : Int32), (104 : Int32), (101 : Int32), (32 : Int32), (97 : Int32), (108 : Int32), (105 : Int32), (97 : Int32), (115 : Int32), (32 : Int32), (34 : Int32)]) ++ [y0]) ++ [(34 : Int32), (58 : Int32), (32 : Int32), (116 : Int32), (104 : Int32), (97 : Int32), (116 : Int32), (32 : Int32), (110 : Int32), (97 : Int32), (109 : Int32), (101 : Int32), (32 : Int32), (105 : Int32), (115 : Int32), (32 : Int32), (97 : Int32), (108 : Int32), (114 : Int32), (101 : Int32), (97 : Int32), (100 : Int32), (121 : Int32), (32 : Int32), (105 : Int32), (110 : Int32), (32 : Int32), (117 : Int32), (115 : Int32), (101 : Int32)]) h140 S145 (by first | (simp; done) | exact Nat.le_of_ble_eq_true rfl) (by first | (simp; done) | exact Nat.le_of_ble_eq_true rfl)) (by simp) (argsL := []) (rest := [.ref a1, .ref a1]) pd_21 rfl rfl rfl rfl 2 (Nat.le_of_eq rfl) (by decide) (by decide) (ck := 13) rfl (cs := 491) rfl (by decide) (by decide) d5_34 37 rfl ?_
  intro w150 T148 h152 X149 hq151
  obtain ⟨r153, rfl, E154, SN155⟩ := hq151
  have S156 : Str Z h152 (b141 :: b57 :: b30 :: a15 :: a1 :: us) r153 (((((([] : List Int32) ++ [(67 : Int32), (97 : Int32), (110 : Int32), (110 : Int32), (111 : Int32), (116 : Int32), (32 : Int32), (103 : Int32), (105 : Int32), (118 : Int32), (101 : Int32), (32 : Int32), (98 : Int32), (101 : Int32), (97 : Int32), (110 : Int32), (32 : Int32), (34 : Int32)]) ++ [x0, x1]) ++ [(34 : Int32), (32 : Int32), (116 : Int32), (104 : Int32), (101 : Int32), (32 : Int32), (97 : Int32), (108 : Int32), (105 : Int32), (97 : Int32), (115 : Int32), (32 : Int32), (34 : Int32)]) ++ [y0]) ++ [(34 : Int32), (58 : Int32), (32 : Int32), (116 : Int32), (104 : Int32), (97 : Int32), (116 : Int32), (32 : Int32), (110 : Int32), (97 : Int32), (109 : Int32), (101 : Int32), (32 : Int32), (105 : Int32), (115 : Int32), (32 : Int32), (97 : Int32), (108 : Int32), (114 : Int32), (101 : Int32), (97 : Int32), (100 : Int32), (121 : Int32), (32 : Int32), (105 : Int32), (110 : Int32), (32 : Int32), (117 : Int32), (115 : Int32), (101 : Int32)]) := SN155.str X146.news
  have sn_r153 : StrN Z h h152 r153 (((((([] : List Int32) ++ [(67 : Int32), (97 : Int32), (110 : Int32), (110 : Int32), (111 : Int32), (116 : Int32), (32 : Int32), (103 : Int32), (105 : Int32), (118 : Int32), (101 : Int32), (32 : Int32), (98 : Int32), (101 : Int32), (97 : Int32), (110 : Int32), (32 : Int32), (34 : Int32)]) ++ [x0, x1]) ++ [(34 : Int32), (32 : Int32), (116 : Int32), (104 : Int32), (101 : Int32), (32 : Int32), (97 : Int32), (108 : Int32), (105 : Int32), (97 : Int32), (115 : Int32), (32 : Int32), (34 : Int32)]) ++ [y0]) ++ [(34 : Int32), (58 : Int32), (32 : Int32), (116 : Int32), (104 : Int32), (97 : Int32), (116 : Int32), (32 : Int32), (110 : Int32), (97 : Int32), (109 : Int32), (101 : Int32), (32 : Int32), (105 : Int32), (115 : Int32), (32 : Int32), (97 : Int32), (108 : Int32), (114 : Int32), (101 : Int32), (97 : Int32), (100 : Int32), (121 : Int32), (32 : Int32), (105 : Int32), (110 : Int32), (32 : Int32), (117 : Int32), (115 : Int32), (101 : Int32)]) := SN155.mono x147.1
  refine g_callIK X149 hkn rfl (hw _ (List.mem_of_getElem? (i := 163) rfl)) (hw _ (List.mem_of_getElem? (i := 164) rfl)) (hw _ (List.mem_of_getElem? (i := 28) rfl)) (hw _ (List.mem_of_getElem? (i := 165) rfl)) (by decide) (c_bni l Z a0 G hst a1 r153 h152 (((((((((((A7.ext E20).keep K32).ext E41).keep K59).keep K78).ext E85).keep K101).keep K118).ext E125).keep K143).ext E154) (((((((((((U9.ext E20).keep K32 (ninS ne_a1_a15 nin0)).ext E41).keep K59 (ninS ne_a1_a15 nin0)).keep K78 (ninS ne_a1_a15 (ninS ne_a1_b57 nin0))).ext E85).keep K101 (ninS ne_a1_a15 (ninS ne_a1_b57 nin0))).keep K118 (ninS ne_a1_a15 (ninS ne_a1_b57 nin0))).ext E125).keep K143 (ninS ne_a1_a15 nin0)).ext E154) (((((((((((F10.ext E20).keep K32 (ninS ne_a1_a15 nin0)).ext E41).keep K59 (ninS ne_a1_a15 nin0)).keep K78 (ninS ne_a1_a15 (ninS ne_a1_b57 nin0))).ext E85).keep K101 (ninS ne_a1_a15 (ninS ne_a1_b57 nin0))).keep K118 (ninS ne_a1_a15 (ninS ne_a1_b57 nin0))).ext E125).keep K143 (ninS ne_a1_a15 nin0)).ext E154) (((((((((((F11.ext E20).keep K32 (ninS ne_a1_a15 nin0)).ext E41).keep K59 (ninS ne_a1_a15 nin0)).keep K78 (ninS ne_a1_a15 (ninS ne_a1_b57 nin0))).ext E85).keep K101 (ninS ne_a1_a15 (ninS ne_a1_b57 nin0))).keep K118 (ninS ne_a1_a15 (ninS ne_a1_b57 nin0))).ext E125).keep K143 (ninS ne_a1_a15 nin0)).ext E154) (((((((((((F12.ext E20).keep K32 (ninS ne_a1_a15 nin0)).ext E41).keep K59 (ninS ne_a1_a15 nin0)).keep K78 (ninS ne_a1_a15 (ninS ne_a1_b57 nin0))).ext E85).keep K101 (ninS ne_a1_a15 (ninS ne_a1_b57 nin0))).keep K118 (ninS ne_a1_a15 (ninS ne_a1_b57 nin0))).ext E125).keep K143 (ninS ne_a1_a15 nin0)).ext E154) (((((((((((F13.ext E20).keep K32 (ninS ne_a1_a15 nin0)).ext E41).keep K59 (ninS ne_a1_a15 nin0)).keep K78 (ninS ne_a1_a15 (ninS ne_a1_b57 nin0))).ext E85).keep K101 (ninS ne_a1_a15 (ninS ne_a1_b57 nin0))).keep K118 (ninS ne_a1_a15 (ninS ne_a1_b57 nin0))).ext E125).keep K143 (ninS ne_a1_a15 nin0)).ext E154) (((((((((((F14.ext E20).keep K32 (ninS ne_a1_a15 nin0)).ext E41).keep K59 (ninS ne_a1_a15 nin0)).keep K78 (ninS ne_a1_a15 (ninS ne_a1_b57 nin0))).ext E85).keep K101 (ninS ne_a1_a15 (ninS ne_a1_b57 nin0))).keep K118 (ninS ne_a1_a15 (ninS ne_a1_b57 nin0))).ext E125).keep K143 (ninS ne_a1_a15 nin0)).ext E154)) (by simp) (a := a1) (argsL := [.ref r153]) (rest := [.ref a1]) pd_2 rfl rfl rfl rfl 1 (Nat.le_of_eq rfl) (by decide) (by decide) (ck := 14) rfl (cs := 3243) rfl (by decide) (by decide) d5_37 40 rfl ?_
  intro T157 h158 X159 hq160
  obtain ⟨K161, E162, F163⟩ := hq160
  have x164 : Ext h h158 := (ext_keep (x147.trans E154) K161 (fun x hx => by simp only [List.mem_cons, List.not_mem_nil, or_false] at hx; rcases hx with rfl <;> first | exact le_a1))
  have X165 := X159.sub (us' := us) (by intro x hx; simp [hx])
  exact g_retA X165 rfl rfl rfl d5_40 (by decide) (by decide) ⟨_, rfl, ⟨a1, r153, rfl, x164, E162, F163, ((S156.keep K161 (by simp)).sub (us' := us) (by intro x hx; first | (simp [hx]; done) | (simp at hx ⊢; simp_all)))⟩⟩
set_option maxRecDepth 65536 in
set_option maxHeartbeats 40000000 in
theorem c_al22 (l : Launch) (Z : State) (a0 : Array Value) (G : Gl Z a0) (hst : l.stackTraces = true) (t u : Addr) (us : List Addr) (x0 x1 y0 y1 : Int32) (h : Heap) (ST : Str Z h us t [x0, x1]) (SU : Str Z h us u [y0, y1]) :
    CtrK KnownK l Z EL nw (⟨"com/example/capsa/capsa/BeanNameInUseException", "alias", "(Ljava/lang/String;Ljava/lang/String;)Lcom/example/capsa/capsa/BeanNameInUseException;"⟩ : MethodName) prog_2_method_3_code 2 (Option.some (Jvm.ClassFile.FieldType.object "com/example/capsa/capsa/BeanNameInUseException")) ({ frames := 8, cells := 14, slots := 3243, locals := 108 } : Room) #[.ref t, .ref u] h us (ValQ fun w h' => ∃ j r, w = .ref j ∧ Ext h h' ∧ Exa Z h' j "com/example/capsa/capsa/BeanNameInUseException" ∧ Fld Z h' j "java/lang/Throwable" "detailMessage" "Ljava/lang/String;" (.ref r) ∧ Str Z h' us r (msgL [x0, x1] [y0, y1])) := by
  obtain ⟨hw, hEL, hSA, ⟨zc, SC, hz⟩, ⟨fm, SF, hfm⟩, ⟨u0, SUn⟩, ⟨sp, SP, hsp⟩⟩ := id G
  refine CtrK.enter (K := KnownK) (own := "com/example/capsa/capsa/BeanNameInUseException") (nm := "alias") rfl rfl hEL (plainFor_of_name pn_12) #[.val (.ref t), .val (.ref u)] (fun m => by first | rfl | (simp [entryFrame, mkF, argsToLocals, Value.category, maxLocals]; done)) ?_
  intro p e s m below meth c T hfr hkn hZs X
  refine g_newU X (hw _ (List.mem_of_getElem? (i := 30) rfl)) (hw _ (List.mem_of_getElem? (i := 31) rfl)) (hw _ (List.mem_of_getElem? (i := 28) rfl)) d5_0 (ck := 1) rfl (cs := 6) rfl (by decide) (by decide) 3 rfl ?_
  intro a1 T2 h3 ea4 X5 E6 A7 D8 U9
  have le_a1 : h.size ≤ a1 := by rw [ea4]; exact (Ext.refl h).1
  have ne_t_a1 : t ≠ a1 := by rw [ea4]; exact Nat.ne_of_lt ST.lt
  have ne_u_a1 : u ≠ a1 := by rw [ea4]; exact Nat.ne_of_lt SU.lt
  have F10 : Fld Z h3 a1 "java/lang/Throwable" "backtrace" "Ljava/lang/Object;" (.null) := D8 (Or.inl (hw _ (List.mem_of_getElem? (i := 221) rfl))) (ty := (.object "java/lang/Object")) (by decide +kernel)
  have F11 : Fld Z h3 a1 "java/lang/Throwable" "cause" "Ljava/lang/Throwable;" (.null) := D8 (Or.inl (hw _ (List.mem_of_getElem? (i := 190) rfl))) (ty := (.object "java/lang/Throwable")) (by decide +kernel)
  have F12 : Fld Z h3 a1 "java/lang/Throwable" "stackTrace" "[Ljava/lang/StackTraceElement;" (.null) := D8 (Or.inl (hw _ (List.mem_of_getElem? (i := 193) rfl))) (ty := (.array (.object "java/lang/StackTraceElement"))) (by decide +kernel)
  have F13 : Fld Z h3 a1 "java/lang/Throwable" "suppressedExceptions" "Ljava/util/List;" (.null) := D8 (Or.inl (hw _ (List.mem_of_getElem? (i := 196) rfl))) (ty := (.object "java/util/List")) (by decide +kernel)
  have F14 : Fld Z h3 a1 "java/lang/Throwable" "detailMessage" "Ljava/lang/String;" (.null) := D8 (Or.inl (hw _ (List.mem_of_getElem? (i := 220) rfl))) (ty := (.object "java/lang/String")) (by decide +kernel)
  refine g_dup X5 d5_3 rfl 4 rfl ?_
  refine g_new X5 (hw _ (List.mem_of_getElem? (i := 32) rfl)) (hw _ (List.mem_of_getElem? (i := 33) rfl)) (hw _ (List.mem_of_getElem? (i := 34) rfl)) d5_4 (ck := 2) rfl (cs := 10) rfl (by decide) (by decide) 7 rfl ?_
  intro a15 T16 h17 ea18 X19 E20 A21 D22
  have le_a15 : h.size ≤ a15 := by rw [ea18]; exact ((Ext.refl h).trans E6).1
  have ne_t_a15 : t ≠ a15 := by rw [ea18]; exact Nat.ne_of_lt (ST.grow E6 ea4).lt
  have ne_u_a15 : u ≠ a15 := by rw [ea18]; exact Nat.ne_of_lt (SU.grow E6 ea4).lt
  have ne_a1_a15 : a1 ≠ a15 := by rw [ea18]; exact Nat.ne_of_lt A7.lt
  have F23 : Fld Z h17 a15 "java/lang/AbstractStringBuilder" "value" "[B" (.null) := D22 (Or.inl (hw _ (List.mem_of_getElem? (i := 47) rfl))) (ty := (.array .byte)) (by decide +kernel)
  have F24 : Fld Z h17 a15 "java/lang/AbstractStringBuilder" "coder" "B" (.int (0 : Int32)) := D22 (Or.inl (hw _ (List.mem_of_getElem? (i := 49) rfl))) (ty := .byte) (by decide +kernel)
  have F25 : Fld Z h17 a15 "java/lang/AbstractStringBuilder" "count" "I" (.int (0 : Int32)) := D22 (Or.inl (hw _ (List.mem_of_getElem? (i := 73) rfl))) (ty := .int) (by decide +kernel)
  refine g_dup X19 d5_7 rfl 8 rfl ?_
  refine g_callIn X19 rfl (hw _ (List.mem_of_getElem? (i := 35) rfl)) (hw _ (List.mem_of_getElem? (i := 36) rfl)) (hw _ (List.mem_of_getElem? (i := 34) rfl)) (hw _ (List.mem_of_getElem? (i := 37) rfl)) (by decide) (c_sbi l Z a0 G a15 h17 A21 F23 F24 F25) (by simp) (argsL := []) (rest := [.ref a15, .ref a1, .ref a1]) pd_15 rfl rfl rfl rfl 3 (Nat.le_of_eq rfl) (by decide) (by decide) (ck := 3) rfl (cs := 26) rfl (by decide) (by decide) d5_8 11 rfl ?_
  intro T26 h29 X27 hq28
  obtain ⟨b30, kb31, K32, le33, S34⟩ := hq28
  have X35 := X27.add (elL hw 16 (by decide)) S34.arv (Nat.le_trans X19.old.1 le33)
  have le_b30 : h.size ≤ b30 := Nat.le_trans (((Ext.refl h).trans E6).trans E20).1 le33
  have ne_a1_b30 : a1 ≠ b30 := Nat.ne_of_lt (Nat.lt_of_lt_of_le (A7.ext E20).lt le33)
  have ne_a15_b30 : a15 ≠ b30 := Nat.ne_of_lt (Nat.lt_of_lt_of_le A21.lt le33)
  have x36 : Ext h h29 := (ext_keep (((Ext.refl h).trans E6).trans E20) K32 (fun x hx => by simp only [List.mem_cons, List.not_mem_nil, or_false] at hx; rcases hx with rfl <;> first | exact le_a15))
  refine g_ldcS X35 (cs := [(67 : Int32), (97 : Int32), (110 : Int32), (110 : Int32), (111 : Int32), (116 : Int32), (32 : Int32), (103 : Int32), (105 : Int32), (118 : Int32), (101 : Int32), (32 : Int32), (98 : Int32), (101 : Int32), (97 : Int32), (110 : Int32), (32 : Int32), (34 : Int32)]) rfl (hw _ (List.mem_of_getElem? (i := 50) rfl)) hSA (by simp [EL, consts_1]) ⟨by decide, by decide⟩ (by decide) (by decide) d5_11 72 (by decide) (by decide) (ck := 5) rfl (cs' := 102) rfl (by decide) (by decide) 13 rfl ?_
  intro s37 T38 h39 X40 E41 S42
  obtain ⟨t43, kb44, e45, f46, f47, kc48, b49, l50, n51⟩ := id S42
  refine g_callVv X40 (hw _ (List.mem_of_getElem? (i := 51) rfl)) (hw _ (List.mem_of_getElem? (i := 52) rfl)) (hw _ (List.mem_of_getElem? (i := 54) rfl)) (hw _ (List.mem_of_getElem? (i := 53) rfl)) (hw _ (List.mem_of_getElem? (i := 34) rfl)) (hw _ (List.mem_of_getElem? (i := 55) rfl)) (nfSel (hw _ (List.mem_of_getElem? (i := 54) rfl))) (by decide) (S34.ext E41).1 (c_sbaG l Z a0 G a15 s37 t43 b30 kb44 kb31 16 ([] : List Int32) ([(67 : Int32), (97 : Int32), (110 : Int32), (110 : Int32), (111 : Int32), (116 : Int32), (32 : Int32), (103 : Int32), (105 : Int32), (118 : Int32), (101 : Int32), (32 : Int32), (98 : Int32), (101 : Int32), (97 : Int32), (110 : Int32), (32 : Int32), (34 : Int32)]) h39 (S34.ext E41) e45 f46 f47 kc48 b49 l50 (n51 a15 (by simp)).1 (n51 a15 (by simp)).2 (by decide) (by first | (simp; done) | exact Nat.le_of_ble_eq_true rfl) (by first | (simp; done) | exact Nat.le_of_ble_eq_true rfl) (by decide) (by decide)) (by simp) (argsL := [.ref s37]) (rest := [.ref a1, .ref a1]) pd_17 rfl rfl rfl rfl 2 (Nat.le_of_eq rfl) (by decide) (by decide) (ck := 6) rfl (cs := 172) rfl (by decide) (by decide) d5_13 16 rfl ?_
  intro w54 T52 h56 X53 hq55
  obtain ⟨rfl, b57, kb58, K59, le60, S61⟩ := hq55
  have X62 := X53.add (elL hw 34 (by decide)) S61.arv (Nat.le_trans X40.old.1 le60)
  have le_b57 : h.size ≤ b57 := Nat.le_trans (x36.trans E41).1 le60
  have ne_a1_b57 : a1 ≠ b57 := Nat.ne_of_lt (Nat.lt_of_lt_of_le (((A7.ext E20).keep K32).ext E41).lt le60)
  have ne_a15_b57 : a15 ≠ b57 := Nat.ne_of_lt (Nat.lt_of_lt_of_le (S34.ext E41).lt le60)
  have x63 : Ext h h56 := (ext_keep (x36.trans E41) K59 (fun x hx => by simp only [List.mem_cons, List.not_mem_nil, or_false] at hx; rcases hx with rfl <;> first | exact le_a15))
  refine g_aloadN X62 d5_16 rfl rfl 17 rfl ?_
  obtain ⟨t64, kb65, e66, f67, f68, kc69, b70, l71, n72⟩ := id (((((ST.grow E6 ea4).grow E20 ea18).growK K32 (by simp) le33).ext E41).growK K59 (by simp) le60)
  refine g_callVv X62 (hw _ (List.mem_of_getElem? (i := 51) rfl)) (hw _ (List.mem_of_getElem? (i := 52) rfl)) (hw _ (List.mem_of_getElem? (i := 54) rfl)) (hw _ (List.mem_of_getElem? (i := 53) rfl)) (hw _ (List.mem_of_getElem? (i := 34) rfl)) (hw _ (List.mem_of_getElem? (i := 55) rfl)) (nfSel (hw _ (List.mem_of_getElem? (i := 54) rfl))) (by decide) S61.1 (c_sba l Z a0 G a15 t t64 b57 kb65 kb58 34 (([] : List Int32) ++ [(67 : Int32), (97 : Int32), (110 : Int32), (110 : Int32), (111 : Int32), (116 : Int32), (32 : Int32), (103 : Int32), (105 : Int32), (118 : Int32), (101 : Int32), (32 : Int32), (98 : Int32), (101 : Int32), (97 : Int32), (110 : Int32), (32 : Int32), (34 : Int32)]) ([x0, x1]) h56 S61 e66 f67 f68 kc69 b70 l71 (by first | (simp; done) | exact Nat.le_of_ble_eq_true rfl)) (by simp) (argsL := [.ref t]) (rest := [.ref a1, .ref a1]) pd_17 rfl rfl rfl rfl 2 (Nat.le_of_eq rfl) (by decide) (by decide) (ck := 6) rfl (cs := 172) rfl (by decide) (by decide) d5_17 20 rfl ?_
  intro w75 T73 h77 X74 hq76
  obtain ⟨rfl, K78, S79⟩ := hq76
  have x80 : Ext h h77 := (ext_keep x63 K78 (fun x hx => by simp only [List.mem_cons, List.not_mem_nil, or_false] at hx; rcases hx with rfl | rfl <;> first | exact le_a15 | exact le_b57))
  refine g_ldcS X74 (cs := [(34 : Int32), (32 : Int32), (116 : Int32), (104 : Int32), (101 : Int32), (32 : Int32), (97 : Int32), (108 : Int32), (105 : Int32), (97 : Int32), (115 : Int32), (32 : Int32), (34 : Int32)]) rfl (hw _ (List.mem_of_getElem? (i := 122) rfl)) hSA (by simp [EL, consts_1]) ⟨by decide, by decide⟩ (by decide) (by decide) d5_20 52 (by decide) (by decide) (ck := 8) rfl (cs' := 228) rfl (by decide) (by decide) 22 rfl ?_
  intro s81 T82 h83 X84 E85 S86
  obtain ⟨t87, kb88, e89, f90, f91, kc92, b93, l94, n95⟩ := id S86
  refine g_callVv X84 (hw _ (List.mem_of_getElem? (i := 51) rfl)) (hw _ (List.mem_of_getElem? (i := 52) rfl)) (hw _ (List.mem_of_getElem? (i := 54) rfl)) (hw _ (List.mem_of_getElem? (i := 53) rfl)) (hw _ (List.mem_of_getElem? (i := 34) rfl)) (hw _ (List.mem_of_getElem? (i := 55) rfl)) (nfSel (hw _ (List.mem_of_getElem? (i := 54) rfl))) (by decide) (S79.ext E85).1 (c_sba l Z a0 G a15 s81 t87 b57 kb88 kb58 34 ((([] : List Int32) ++ [(67 : Int32), (97 : Int32), (110 : Int32), (110 : Int32), (111 : Int32), (116 : Int32), (32 : Int32), (103 : Int32), (105 : Int32), (118 : Int32), (101 : Int32), (32 : Int32), (98 : Int32), (101 : Int32), (97 : Int32), (110 : Int32), (32 : Int32), (34 : Int32)]) ++ [x0, x1]) ([(34 : Int32), (32 : Int32), (116 : Int32), (104 : Int32), (101 : Int32), (32 : Int32), (97 : Int32), (108 : Int32), (105 : Int32), (97 : Int32), (115 : Int32), (32 : Int32), (34 : Int32)]) h83 (S79.ext E85) e89 f90 f91 kc92 b93 l94 (by first | (simp; done) | exact Nat.le_of_ble_eq_true rfl)) (by simp) (argsL := [.ref s81]) (rest := [.ref a1, .ref a1]) pd_17 rfl rfl rfl rfl 2 (Nat.le_of_eq rfl) (by decide) (by decide) (ck := 8) rfl (cs := 228) rfl (by decide) (by decide) d5_22 25 rfl ?_
  intro w98 T96 h100 X97 hq99
  obtain ⟨rfl, K101, S102⟩ := hq99
  have x103 : Ext h h100 := (ext_keep (x80.trans E85) K101 (fun x hx => by simp only [List.mem_cons, List.not_mem_nil, or_false] at hx; rcases hx with rfl | rfl <;> first | exact le_a15 | exact le_b57))
  refine g_aloadN X97 d5_25 rfl rfl 26 rfl ?_
  obtain ⟨t104, kb105, e106, f107, f108, kc109, b110, l111, n112⟩ := id ((((((((SU.grow E6 ea4).grow E20 ea18).growK K32 (by simp) le33).ext E41).growK K59 (by simp) le60).keep K78 (by simp)).ext E85).keep K101 (by simp))
  refine g_callVv X97 (hw _ (List.mem_of_getElem? (i := 51) rfl)) (hw _ (List.mem_of_getElem? (i := 52) rfl)) (hw _ (List.mem_of_getElem? (i := 54) rfl)) (hw _ (List.mem_of_getElem? (i := 53) rfl)) (hw _ (List.mem_of_getElem? (i := 34) rfl)) (hw _ (List.mem_of_getElem? (i := 55) rfl)) (nfSel (hw _ (List.mem_of_getElem? (i := 54) rfl))) (by decide) S102.1 (c_sbaG l Z a0 G a15 u t104 b57 kb105 kb58 34 (((([] : List Int32) ++ [(67 : Int32), (97 : Int32), (110 : Int32), (110 : Int32), (111 : Int32), (116 : Int32), (32 : Int32), (103 : Int32), (105 : Int32), (118 : Int32), (101 : Int32), (32 : Int32), (98 : Int32), (101 : Int32), (97 : Int32), (110 : Int32), (32 : Int32), (34 : Int32)]) ++ [x0, x1]) ++ [(34 : Int32), (32 : Int32), (116 : Int32), (104 : Int32), (101 : Int32), (32 : Int32), (97 : Int32), (108 : Int32), (105 : Int32), (97 : Int32), (115 : Int32), (32 : Int32), (34 : Int32)]) ([y0, y1]) h100 S102 e106 f107 f108 kc109 b110 l111 (n112 a15 (by simp)).1 (n112 a15 (by simp)).2 (by decide) (by first | (simp; done) | exact Nat.le_of_ble_eq_true rfl) (by first | (simp; done) | exact Nat.le_of_ble_eq_true rfl) (by decide) (by decide)) (by simp) (argsL := [.ref u]) (rest := [.ref a1, .ref a1]) pd_17 rfl rfl rfl rfl 2 (Nat.le_of_eq rfl) (by decide) (by decide) (ck := 9) rfl (cs := 298) rfl (by decide) (by decide) d5_26 29 rfl ?_
  intro w115 T113 h117 X114 hq116
  obtain ⟨rfl, b118, kb119, K120, le121, S122⟩ := hq116
  have X123 := X114.add (elL hw 70 (by decide)) S122.arv (Nat.le_trans X97.old.1 le121)
  have le_b118 : h.size ≤ b118 := Nat.le_trans x103.1 le121
  have ne_a1_b118 : a1 ≠ b118 := Nat.ne_of_lt (Nat.lt_of_lt_of_le (((((((A7.ext E20).keep K32).ext E41).keep K59).keep K78).ext E85).keep K101).lt le121)
  have ne_a15_b118 : a15 ≠ b118 := Nat.ne_of_lt (Nat.lt_of_lt_of_le S102.lt le121)
  have x124 : Ext h h117 := (ext_keep x103 K120 (fun x hx => by simp only [List.mem_cons, List.not_mem_nil, or_false] at hx; rcases hx with rfl <;> first | exact le_a15))
  refine g_ldcS X123 (cs := [(34 : Int32), (58 : Int32), (32 : Int32), (116 : Int32), (104 : Int32), (97 : Int32), (116 : Int32), (32 : Int32), (110 : Int32), (97 : Int32), (109 : Int32), (101 : Int32), (32 : Int32), (105 : Int32), (115 : Int32), (32 : Int32), (97 : Int32), (108 : Int32), (114 : Int32), (101 : Int32), (97 : Int32), (100 : Int32), (121 : Int32), (32 : Int32), (105 : Int32), (110 : Int32), (32 : Int32), (117 : Int32), (115 : Int32), (101 : Int32)]) rfl (hw _ (List.mem_of_getElem? (i := 123) rfl)) hSA (by simp [EL, consts_1]) ⟨by decide, by decide⟩ (by decide) (by decide) d5_29 120 (by decide) (by decide) (ck := 11) rfl (cs' := 422) rfl (by decide) (by decide) 31 rfl ?_
  intro s125 T126 h127 X128 E129 S130
  obtain ⟨t131, kb132, e133, f134, f135, kc136, b137, l138, n139⟩ := id S130
  refine g_callVv X128 (hw _ (List.mem_of_getElem? (i := 51) rfl)) (hw _ (List.mem_of_getElem? (i := 52) rfl)) (hw _ (List.mem_of_getElem? (i := 54) rfl)) (hw _ (List.mem_of_getElem? (i := 53) rfl)) (hw _ (List.mem_of_getElem? (i := 34) rfl)) (hw _ (List.mem_of_getElem? (i := 55) rfl)) (nfSel (hw _ (List.mem_of_getElem? (i := 54) rfl))) (by decide) (S122.ext E129).1 (c_sba l Z a0 G a15 s125 t131 b118 kb132 kb119 70 ((((([] : List Int32) ++ [(67 : Int32), (97 : Int32), (110 : Int32), (110 : Int32), (111 : Int32), (116 : Int32), (32 : Int32), (103 : Int32), (105 : Int32), (118 : Int32), (101 : Int32), (32 : Int32), (98 : Int32), (101 : Int32), (97 : Int32), (110 : Int32), (32 : Int32), (34 : Int32)]) ++ [x0, x1]) ++ [(34 : Int32), (32 : Int32), (116 : Int32), (104 : Int32), (101 : Int32), (32 : Int32), (97 : Int32), (108 : Int32), (105 : Int32), (97 : Int32), (115 : Int32), (32 : Int32), (34 : Int32)]) ++ [y0, y1]) ([(34 : Int32), (58 : Int32), (32 : Int32), (116 : Int32), (104 : Int32), (97 : Int32), (116 : Int32), (32 : Int32), (110 : Int32), (97 : Int32), (109 : Int32), (101 : Int32), (32 : Int32), (105 : Int32), (115 : Int32), (32 : Int32), (97 : Int32), (108 : Int32), (114 : Int32), (101 : Int32), (97 : Int32), (100 : Int32), (121 : Int32), (32 : Int32), (105 : Int32), (110 : Int32), (32 : Int32), (117 : Int32), (115 : Int32), (101 : Int32)]) h127 (S122.ext E129) e133 f134 f135 kc136 b137 l138 (by first | (simp; done) | exact Nat.le_of_ble_eq_true rfl)) (by simp) (argsL := [.ref s125]) (rest := [.ref a1, .ref a1]) pd_17 rfl rfl rfl rfl 2 (Nat.le_of_eq rfl) (by decide) (by decide) (ck := 11) rfl (cs := 422) rfl (by decide) (by decide) d5_31 34 rfl ?_
  intro w142 T140 h144 X141 hq143
  obtain ⟨rfl, K145, S146⟩ := hq143
  have x147 : Ext h h144 := (ext_keep (x124.trans E129) K145 (fun x hx => by simp only [List.mem_cons, List.not_mem_nil, or_false] at hx; rcases hx with rfl | rfl <;> first | exact le_a15 | exact le_b118))
  refine g_callVv X141 (hw _ (List.mem_of_getElem? (i := 124) rfl)) (hw _ (List.mem_of_getElem? (i := 125) rfl)) (hw _ (List.mem_of_getElem? (i := 127) rfl)) (hw _ (List.mem_of_getElem? (i := 126) rfl)) (hw _ (List.mem_of_getElem? (i := 34) rfl)) (hw _ (List.mem_of_getElem? (i := 128) rfl)) (nfSel (hw _ (List.mem_of_getElem? (i := 127) rfl))) (by decide) S146.1 (c_sts l Z a0 G a15 b118 kb119 70 (((((([] : List Int32) ++ [(67 : Int32), (97 : Int32), (110 : Int32), (110 : Int32), (111 : Int32), (116 : Int32), (32 : Int32), (103 : Int32), (105 : Int32), (118 : Int32), (101 : Int32), (32 : Int32), (98 : Int32), (101 : Int32), (97 : Int32), (110 : Int32), (32 : Int32), (34 : Int32)]) ++ [x0, x1]) ++ [(34 : Int32), (32 : Int32), (116 : Int32), (104 : Int32), (101 : Int32), (32 : Int32), (97 : Int32), (108 : Int32), (105 : Int32), (97 : Int32), (115 : Int32), (32 : Int32), (34 : Int32)]) ++ [y0, y1]) ++ [(34 : Int32), (58 : Int32), (32 : Int32), (116 : Int32), (104 : Int32), (97 : Int32), (116 : Int32), (32 : Int32), (110 : Int32), (97 : Int32), (109 : Int32), (101 : Int32), (32 : Int32), (105 : Int32), (115 : Int32), (32 : Int32), (97 : Int32), (108 : Int32), (114 : Int32), (101 : Int32), (97 : Int32), (100 : Int32), (121 : Int32), (32 : Int32), (105 : Int32), (110 : Int32), (32 : Int32), (117 : Int32), (115 : Int32), (101 : Int32)]) h144 S146 (by first | (simp; done) | exact Nat.le_of_ble_eq_true rfl) (by first | (simp; done) | exact Nat.le_of_ble_eq_true rfl)) (by simp) (argsL := []) (rest := [.ref a1, .ref a1]) pd_21 rfl rfl rfl rfl 2 (Nat.le_of_eq rfl) (by decide) (by decide) (ck := 13) rfl (cs := 491) rfl (by decide) (by decide) d5_34 37 rfl ?_
  intro w150 T148 h152 X149 hq151
  obtain ⟨r153, rfl, E154, SN155⟩ := hq151
  have S156 : Str Z h152 (b118 :: b57 :: b30 :: a15 :: a1 :: us) r153 (((((([] : List Int32) ++ [(67 : Int32), (97 : Int32), (110 : Int32), (110 : Int32), (111 : Int32), (116 : Int32), (32 : Int32), (103 : Int32), (105 : Int32), (118 : Int32), (101 : Int32), (32 : Int32), (98 : Int32), (101 : Int32), (97 : Int32), (110 : Int32), (32 : Int32), (34 : Int32)]) ++ [x0, x1]) ++ [(34 : Int32), (32 : Int32), (116 : Int32), (104 : Int32), (101 : Int32), (32 : Int32), (97 : Int32), (108 : Int32), (105 : Int32), (97 : Int32), (115 : Int32), (32 : Int32), (34 : Int32)]) ++ [y0, y1]) ++ [(34 : Int32), (58 : Int32), (32 : Int32), (116 : Int32), (104 : Int32), (97 : Int32), (116 : Int32), (32 : Int32), (110 : Int32), (97 : Int32), (109 : Int32), (101 : Int32), (32 : Int32), (105 : Int32), (115 : Int32), (32 : Int32), (97 : Int32), (108 : Int32), (114 : Int32), (101 : Int32), (97 : Int32), (100 : Int32), (121 : Int32), (32 : Int32), (105 : Int32), (110 : Int32), (32 : Int32), (117 : Int32), (115 : Int32), (101 : Int32)]) := SN155.str X141.news
  have sn_r153 : StrN Z h h152 r153 (((((([] : List Int32) ++ [(67 : Int32), (97 : Int32), (110 : Int32), (110 : Int32), (111 : Int32), (116 : Int32), (32 : Int32), (103 : Int32), (105 : Int32), (118 : Int32), (101 : Int32), (32 : Int32), (98 : Int32), (101 : Int32), (97 : Int32), (110 : Int32), (32 : Int32), (34 : Int32)]) ++ [x0, x1]) ++ [(34 : Int32), (32 : Int32), (116 : Int32), (104 : Int32), (101 : Int32), (32 : Int32), (97 : Int32), (108 : Int32), (105 : Int32), (97 : Int32), (115 : Int32), (32 : Int32), (34 : Int32)]) ++ [y0, y1]) ++ [(34 : Int32), (58 : Int32), (32 : Int32), (116 : Int32), (104 : Int32), (97 : Int32), (116 : Int32), (32 : Int32), (110 : Int32), (97 : Int32), (109 : Int32), (101 : Int32), (32 : Int32), (105 : Int32), (115 : Int32), (32 : Int32), (97 : Int32), (108 : Int32), (114 : Int32), (101 : Int32), (97 : Int32), (100 : Int32), (121 : Int32), (32 : Int32), (105 : Int32), (110 : Int32), (32 : Int32), (117 : Int32), (115 : Int32), (101 : Int32)]) := SN155.mono x147.1
  refine g_callIK X149 hkn rfl (hw _ (List.mem_of_getElem? (i := 163) rfl)) (hw _ (List.mem_of_getElem? (i := 164) rfl)) (hw _ (List.mem_of_getElem? (i := 28) rfl)) (hw _ (List.mem_of_getElem? (i := 165) rfl)) (by decide) (c_bni l Z a0 G hst a1 r153 h152 (((((((((((A7.ext E20).keep K32).ext E41).keep K59).keep K78).ext E85).keep K101).keep K120).ext E129).keep K145).ext E154) (((((((((((U9.ext E20).keep K32 (ninS ne_a1_a15 nin0)).ext E41).keep K59 (ninS ne_a1_a15 nin0)).keep K78 (ninS ne_a1_a15 (ninS ne_a1_b57 nin0))).ext E85).keep K101 (ninS ne_a1_a15 (ninS ne_a1_b57 nin0))).keep K120 (ninS ne_a1_a15 nin0)).ext E129).keep K145 (ninS ne_a1_a15 (ninS ne_a1_b118 nin0))).ext E154) (((((((((((F10.ext E20).keep K32 (ninS ne_a1_a15 nin0)).ext E41).keep K59 (ninS ne_a1_a15 nin0)).keep K78 (ninS ne_a1_a15 (ninS ne_a1_b57 nin0))).ext E85).keep K101 (ninS ne_a1_a15 (ninS ne_a1_b57 nin0))).keep K120 (ninS ne_a1_a15 nin0)).ext E129).keep K145 (ninS ne_a1_a15 (ninS ne_a1_b118 nin0))).ext E154) (((((((((((F11.ext E20).keep K32 (ninS ne_a1_a15 nin0)).ext E41).keep K59 (ninS ne_a1_a15 nin0)).keep K78 (ninS ne_a1_a15 (ninS ne_a1_b57 nin0))).ext E85).keep K101 (ninS ne_a1_a15 (ninS ne_a1_b57 nin0))).keep K120 (ninS ne_a1_a15 nin0)).ext E129).keep K145 (ninS ne_a1_a15 (ninS ne_a1_b118 nin0))).ext E154) (((((((((((F12.ext E20).keep K32 (ninS ne_a1_a15 nin0)).ext E41).keep K59 (ninS ne_a1_a15 nin0)).keep K78 (ninS ne_a1_a15 (ninS ne_a1_b57 nin0))).ext E85).keep K101 (ninS ne_a1_a15 (ninS ne_a1_b57 nin0))).keep K120 (ninS ne_a1_a15 nin0)).ext E129).keep K145 (ninS ne_a1_a15 (ninS ne_a1_b118 nin0))).ext E154) (((((((((((F13.ext E20).keep K32 (ninS ne_a1_a15 nin0)).ext E41).keep K59 (ninS ne_a1_a15 nin0)).keep K78 (ninS ne_a1_a15 (ninS ne_a1_b57 nin0))).ext E85).keep K101 (ninS ne_a1_a15 (ninS ne_a1_b57 nin0))).keep K120 (ninS ne_a1_a15 nin0)).ext E129).keep K145 (ninS ne_a1_a15 (ninS ne_a1_b118 nin0))).ext E154) (((((((((((F14.ext E20).keep K32 (ninS ne_a1_a15 nin0)).ext E41).keep K59 (ninS ne_a1_a15 nin0)).keep K78 (ninS ne_a1_a15 (ninS ne_a1_b57 nin0))).ext E85).keep K101 (ninS ne_a1_a15 (ninS ne_a1_b57 nin0))).keep K120 (ninS ne_a1_a15 nin0)).ext E129).keep K145 (ninS ne_a1_a15 (ninS ne_a1_b118 nin0))).ext E154)) (by simp) (a := a1) (argsL := [.ref r153]) (rest := [.ref a1]) pd_2 rfl rfl rfl rfl 1 (Nat.le_of_eq rfl) (by decide) (by decide) (ck := 14) rfl (cs := 3243) rfl (by decide) (by decide) d5_37 40 rfl ?_
  intro T157 h158 X159 hq160
  obtain ⟨K161, E162, F163⟩ := hq160
  have x164 : Ext h h158 := (ext_keep (x147.trans E154) K161 (fun x hx => by simp only [List.mem_cons, List.not_mem_nil, or_false] at hx; rcases hx with rfl <;> first | exact le_a1))
  have X165 := X159.sub (us' := us) (by intro x hx; simp [hx])
  exact g_retA X165 rfl rfl rfl d5_40 (by decide) (by decide) ⟨_, rfl, ⟨a1, r153, rfl, x164, E162, F163, ((S156.keep K161 (by simp)).sub (us' := us) (by intro x hx; first | (simp [hx]; done) | (simp at hx ⊢; simp_all)))⟩⟩
set_option maxRecDepth 65536 in
set_option maxHeartbeats 40000000 in
theorem c_law00 (l : Launch) (Z : State) (a0 : Array Value) (G : Gl Z a0) (hst : l.stackTraces = true) (k0 k1 k2 k3 k4 : Int32) (h : Heap) (e5 : (k0 &&& (255 : Int32)) % (3 : Int32) = 0) (e6 : (XT.ushr k0 (8 : Int32) &&& (255 : Int32)) % (3 : Int32) = 0) :
    CtrK KnownL l Z EL nw x code maxLocals ret room_1 #[.int k0, .int k1, .int k2, .int k3, .int k4] h [] (fun v _ => v = some (.int 1)) := by
  obtain ⟨hw, hEL, hSA, ⟨zc, SC, hz⟩, ⟨fm, SF, hfm⟩, ⟨u0, SUn⟩, ⟨sp, SP, hsp⟩⟩ := id G
  refine CtrK.enter (K := KnownL) (own := "com/example/capsa/capsa/BeanNameInUseExceptionAliasPinLaw") (nm := "law") rfl rfl hEL (plainFor_of_name pn_7) #[.val (.int k0), .val (.int k1), .val (.int k2), .val (.int k3), .val (.int k4), .unset, .unset, .unset, .unset, .unset, .unset, .unset, .unset, .unset, .unset] (fun m => entry1 m _ _ (by simp [Value.category]) rfl) ?_
  intro p e s m below meth c T hfr hK hZs X
  obtain ⟨as0, hfr⟩ := hfr
  have hkn : KnownK below s := ⟨MethodsKnown_of_tablesKnown hK.2, FramesKnown_of_framesKnown hK.1 hfr⟩
  refine g_iloadN X at_0 rfl 1 rfl ?_
  refine g_sipush X (255 : Int32) at_1 (by decide) 4 rfl ?_
  refine g_iand X at_4 _ rfl 5 rfl ?_
  refine g_iconst X (3 : Int32) at_5 (by decide) 6 rfl ?_
  refine g_irem X at_6 (by decide) (0 : Int32) e5 7 rfl ?_
  refine g_istore X at_7 (Ls' := #[.val (.int k0), .val (.int k1), .val (.int k2), .val (.int k3), .val (.int k4), .val (.int (0 : Int32)), .unset, .unset, .unset, .unset, .unset, .unset, .unset, .unset, .unset]) rfl 9 rfl ?_
  refine g_iloadN X at_9 rfl 10 rfl ?_
  refine g_bipush X (8 : Int32) at_10 (by decide) 12 rfl ?_
  refine g_iushr X at_12 _ rfl 13 rfl ?_
  refine g_sipush X (255 : Int32) at_13 (by decide) 16 rfl ?_
  refine g_iand X at_16 _ rfl 17 rfl ?_
  refine g_iconst X (3 : Int32) at_17 (by decide) 18 rfl ?_
  refine g_irem X at_18 (by decide) (0 : Int32) e6 19 rfl ?_
  refine g_istore X at_19 (Ls' := #[.val (.int k0), .val (.int k1), .val (.int k2), .val (.int k3), .val (.int k4), .val (.int (0 : Int32)), .val (.int (0 : Int32)), .unset, .unset, .unset, .unset, .unset, .unset, .unset, .unset]) rfl 21 rfl ?_
  refine g_iloadN X at_21 rfl 22 rfl ?_
  refine g_sipush X (255 : Int32) at_22 (by decide) 25 rfl ?_
  refine g_iand X at_25 _ rfl 26 rfl ?_
  refine g_i2c X at_26 (k1 &&& (255 : Int32)) (i2c_mask _) 27 rfl ?_
  refine g_istore X at_27 (Ls' := #[.val (.int k0), .val (.int k1), .val (.int k2), .val (.int k3), .val (.int k4), .val (.int (0 : Int32)), .val (.int (0 : Int32)), .val (.int (k1 &&& (255 : Int32))), .unset, .unset, .unset, .unset, .unset, .unset, .unset]) rfl 29 rfl ?_
  refine g_iloadN X at_29 rfl 30 rfl ?_
  refine g_sipush X (255 : Int32) at_30 (by decide) 33 rfl ?_
  refine g_iand X at_33 _ rfl 34 rfl ?_
  refine g_i2c X at_34 (k2 &&& (255 : Int32)) (i2c_mask _) 35 rfl ?_
  refine g_istore X at_35 (Ls' := #[.val (.int k0), .val (.int k1), .val (.int k2), .val (.int k3), .val (.int k4), .val (.int (0 : Int32)), .val (.int (0 : Int32)), .val (.int (k1 &&& (255 : Int32))), .val (.int (k2 &&& (255 : Int32))), .unset, .unset, .unset, .unset, .unset, .unset]) rfl 37 rfl ?_
  refine g_iloadN X at_37 rfl 38 rfl ?_
  refine g_sipush X (255 : Int32) at_38 (by decide) 41 rfl ?_
  refine g_iand X at_41 _ rfl 42 rfl ?_
  refine g_i2c X at_42 (k3 &&& (255 : Int32)) (i2c_mask _) 43 rfl ?_
  refine g_istore X at_43 (Ls' := #[.val (.int k0), .val (.int k1), .val (.int k2), .val (.int k3), .val (.int k4), .val (.int (0 : Int32)), .val (.int (0 : Int32)), .val (.int (k1 &&& (255 : Int32))), .val (.int (k2 &&& (255 : Int32))), .val (.int (k3 &&& (255 : Int32))), .unset, .unset, .unset, .unset, .unset]) rfl 45 rfl ?_
  refine g_iload X at_45 rfl 47 rfl ?_
  refine g_sipush X (255 : Int32) at_47 (by decide) 50 rfl ?_
  refine g_iand X at_50 _ rfl 51 rfl ?_
  refine g_i2c X at_51 (k4 &&& (255 : Int32)) (i2c_mask _) 52 rfl ?_
  refine g_istore X at_52 (Ls' := #[.val (.int k0), .val (.int k1), .val (.int k2), .val (.int k3), .val (.int k4), .val (.int (0 : Int32)), .val (.int (0 : Int32)), .val (.int (k1 &&& (255 : Int32))), .val (.int (k2 &&& (255 : Int32))), .val (.int (k3 &&& (255 : Int32))), .val (.int (k4 &&& (255 : Int32))), .unset, .unset, .unset, .unset]) rfl 54 rfl ?_
  refine g_iload X at_54 rfl 56 rfl ?_
  refine g_iload X at_56 rfl 58 rfl ?_
  refine g_iload X at_58 rfl 60 rfl ?_
  refine g_callSv X (hw _ (List.mem_of_getElem? (i := 0) rfl)) (hw _ (List.mem_of_getElem? (i := 1) rfl)) (hw _ (List.mem_of_getElem? (i := 2) rfl)) (hw _ (List.mem_of_getElem? (i := 3) rfl)) (by decide) (c_str0 l Z a0 G k1 k2 ([]) h) (fun _ q => q) (argsL := [.int (0 : Int32), .int (k1 &&& (255 : Int32)), .int (k2 &&& (255 : Int32))]) (rest := []) pd_0 rfl rfl rfl rfl 0 (Nat.le_of_eq rfl) (by decide) (by decide) (ck := 4) rfl (cs := 8) rfl (by decide) (by decide) at_60 63 rfl ?_
  intro w3 T1 h5 X2 hq4
  obtain ⟨s6, rfl, E7, S8⟩ := hq4
  refine g_astore X2 at_63 rfl (Ls' := #[.val (.int k0), .val (.int k1), .val (.int k2), .val (.int k3), .val (.int k4), .val (.int (0 : Int32)), .val (.int (0 : Int32)), .val (.int (k1 &&& (255 : Int32))), .val (.int (k2 &&& (255 : Int32))), .val (.int (k3 &&& (255 : Int32))), .val (.int (k4 &&& (255 : Int32))), .val (.ref s6), .unset, .unset, .unset]) rfl 65 rfl ?_
  refine g_iload X2 at_65 rfl 67 rfl ?_
  refine g_iload X2 at_67 rfl 69 rfl ?_
  refine g_iload X2 at_69 rfl 71 rfl ?_
  refine g_callSv X2 (hw _ (List.mem_of_getElem? (i := 0) rfl)) (hw _ (List.mem_of_getElem? (i := 1) rfl)) (hw _ (List.mem_of_getElem? (i := 2) rfl)) (hw _ (List.mem_of_getElem? (i := 3) rfl)) (by decide) (c_str0 l Z a0 G k3 k4 ([]) h5) (fun _ q => q) (argsL := [.int (0 : Int32), .int (k3 &&& (255 : Int32)), .int (k4 &&& (255 : Int32))]) (rest := []) pd_0 rfl rfl rfl rfl 0 (Nat.le_of_eq rfl) (by decide) (by decide) (ck := 8) rfl (cs := 16) rfl (by decide) (by decide) at_71 74 rfl ?_
  intro w11 T9 h13 X10 hq12
  obtain ⟨s14, rfl, E15, S16⟩ := hq12
  refine g_astore X10 at_74 rfl (Ls' := #[.val (.int k0), .val (.int k1), .val (.int k2), .val (.int k3), .val (.int k4), .val (.int (0 : Int32)), .val (.int (0 : Int32)), .val (.int (k1 &&& (255 : Int32))), .val (.int (k2 &&& (255 : Int32))), .val (.int (k3 &&& (255 : Int32))), .val (.int (k4 &&& (255 : Int32))), .val (.ref s6), .val (.ref s14), .unset, .unset]) rfl 76 rfl ?_
  refine g_aload X10 at_76 rfl rfl 78 rfl ?_
  refine g_aload X10 at_78 rfl rfl 80 rfl ?_
  refine g_callSvK X10 hkn (hw _ (List.mem_of_getElem? (i := 26) rfl)) (hw _ (List.mem_of_getElem? (i := 27) rfl)) (hw _ (List.mem_of_getElem? (i := 28) rfl)) (hw _ (List.mem_of_getElem? (i := 29) rfl)) (by decide) (c_al00 l Z a0 G hst s6 s14 ([]) 0 0 0 0 h13 (S8.ext E15) S16) (fun _ q => q) (argsL := [.ref s6, .ref s14]) (rest := []) pd_1 rfl rfl rfl rfl 0 (Nat.le_of_eq rfl) (by decide) (by decide) (ck := 22) rfl (cs := 3259) rfl (by decide) (by decide) at_80 83 rfl ?_
  intro w17 T18 h19 X20 hq21
  obtain ⟨j22, r23, rfl, E24, A25, F26, S27⟩ := hq21
  refine g_callWp X20 (owner := "java/lang/Throwable") (hw _ (List.mem_of_getElem? (i := 225) rfl)) (hw _ (List.mem_of_getElem? (i := 226) rfl)) (hw _ (List.mem_of_getElem? (i := 227) rfl)) (hw _ (List.mem_of_getElem? (i := 229) rfl)) (hw _ (List.mem_of_getElem? (i := 228) rfl)) (hw _ (List.mem_of_getElem? (i := 186) rfl)) (hw _ (List.mem_of_getElem? (i := 230) rfl)) (by decide) A25 (c_gm l Z a0 G j22 r23 h19 F26) (by simp) (argsL := []) (rest := []) pd_21 rfl rfl rfl rfl 0 (Nat.le_of_eq rfl) (by decide) (by decide) (ck := 22) rfl (cs := 3259) rfl (by decide) (by decide) at_83 86 rfl ?_
  intro w28 T29 X30 hq31
  subst hq31
  refine g_astore X30 at_86 rfl (Ls' := #[.val (.int k0), .val (.int k1), .val (.int k2), .val (.int k3), .val (.int k4), .val (.int (0 : Int32)), .val (.int (0 : Int32)), .val (.int (k1 &&& (255 : Int32))), .val (.int (k2 &&& (255 : Int32))), .val (.int (k3 &&& (255 : Int32))), .val (.int (k4 &&& (255 : Int32))), .val (.ref s6), .val (.ref s14), .val (.ref r23), .unset]) rfl 88 rfl ?_
  refine g_aload X30 at_88 rfl rfl 90 rfl ?_
  refine g_ifnonnullYes X30 at_90 95 (by decide) (by decide) ?_
  refine g_aload X30 at_95 rfl rfl 97 rfl ?_
  obtain ⟨t32, kb33, e34, f35, f36, kc37, b38, l39, n40⟩ := id S27
  refine g_callVp X30 (hw _ (List.mem_of_getElem? (i := 231) rfl)) (hw _ (List.mem_of_getElem? (i := 62) rfl)) (hw _ (List.mem_of_getElem? (i := 64) rfl)) (hw _ (List.mem_of_getElem? (i := 63) rfl)) (hw _ (List.mem_of_getElem? (i := 6) rfl)) (hw _ (List.mem_of_getElem? (i := 65) rfl)) (nfSel (hw _ (List.mem_of_getElem? (i := 64) rfl))) (by decide) e34 (c_len l Z a0 G r23 t32 kb33 (msgL ([] : List Int32) ([] : List Int32)) h19 e34 f35 f36 kc37 b38 l39) (by simp) (argsL := []) (rest := []) pd_5 rfl rfl rfl rfl 0 (Nat.le_of_eq rfl) (by decide) (by decide) (ck := 22) rfl (cs := 3259) rfl (by decide) (by decide) at_97 100 rfl ?_
  intro w43 T41 X42 hq44
  subst hq44
  refine g_bipush X42 (61 : Int32) at_100 (by decide) 102 rfl ?_
  refine g_iload X42 at_102 rfl 104 rfl ?_
  refine g_iadd X42 at_104 (61 : Int32) (by decide) 105 rfl ?_
  refine g_iload X42 at_105 rfl 107 rfl ?_
  refine g_iadd X42 at_107 (61 : Int32) (by decide) 108 rfl ?_
  refine g_icmpYes X42 at_108 (XT.ii_eq_t rfl) 113 (by decide) (by decide) ?_
  refine g_iload X42 at_113 rfl 115 rfl ?_
  refine g_ifNo X42 at_115 (XT.ii_ne_f (by decide)) 118 rfl ?_
  refine g_iload X42 at_118 rfl 120 rfl ?_
  refine g_ifNo X42 at_120 (XT.ii_ne_f (by decide)) 123 rfl ?_
  refine g_aload X42 at_123 rfl rfl 125 rfl ?_
  refine g_ldcS X42 (cs := [(67 : Int32), (97 : Int32), (110 : Int32), (110 : Int32), (111 : Int32), (116 : Int32), (32 : Int32), (103 : Int32), (105 : Int32), (118 : Int32), (101 : Int32), (32 : Int32), (98 : Int32), (101 : Int32), (97 : Int32), (110 : Int32), (32 : Int32), (34 : Int32), (34 : Int32), (32 : Int32), (116 : Int32), (104 : Int32), (101 : Int32), (32 : Int32), (97 : Int32), (108 : Int32), (105 : Int32), (97 : Int32), (115 : Int32), (32 : Int32), (34 : Int32), (34 : Int32), (58 : Int32), (32 : Int32), (116 : Int32), (104 : Int32), (97 : Int32), (116 : Int32), (32 : Int32), (110 : Int32), (97 : Int32), (109 : Int32), (101 : Int32), (32 : Int32), (105 : Int32), (115 : Int32), (32 : Int32), (97 : Int32), (108 : Int32), (114 : Int32), (101 : Int32), (97 : Int32), (100 : Int32), (121 : Int32), (32 : Int32), (105 : Int32), (110 : Int32), (32 : Int32), (117 : Int32), (115 : Int32), (101 : Int32)]) rfl (hw _ (List.mem_of_getElem? (i := 232) rfl)) hSA (by simp [EL, consts_1]) ⟨by decide, by decide⟩ (by decide) (by decide) at_125 244 (by decide) (by decide) (ck := 24) rfl (cs' := 3507) rfl (by decide) (by decide) 127 rfl ?_
  intro s45 T46 h47 X48 E49 S50
  obtain ⟨t51, kb52, e53, f54, f55, kc56, b57, l58, n59⟩ := id S50
  refine g_callVp X48 (hw _ (List.mem_of_getElem? (i := 233) rfl)) (hw _ (List.mem_of_getElem? (i := 234) rfl)) (hw _ (List.mem_of_getElem? (i := 236) rfl)) (hw _ (List.mem_of_getElem? (i := 235) rfl)) (hw _ (List.mem_of_getElem? (i := 6) rfl)) (hw _ (List.mem_of_getElem? (i := 237) rfl)) (nfSel (hw _ (List.mem_of_getElem? (i := 236) rfl))) (by decide) (e34.ext E49) (c_seq l Z a0 G r23 s45 t32 t51 kb33 kb52 (msgL ([] : List Int32) ([] : List Int32)) ([(67 : Int32), (97 : Int32), (110 : Int32), (110 : Int32), (111 : Int32), (116 : Int32), (32 : Int32), (103 : Int32), (105 : Int32), (118 : Int32), (101 : Int32), (32 : Int32), (98 : Int32), (101 : Int32), (97 : Int32), (110 : Int32), (32 : Int32), (34 : Int32), (34 : Int32), (32 : Int32), (116 : Int32), (104 : Int32), (101 : Int32), (32 : Int32), (97 : Int32), (108 : Int32), (105 : Int32), (97 : Int32), (115 : Int32), (32 : Int32), (34 : Int32), (34 : Int32), (58 : Int32), (32 : Int32), (116 : Int32), (104 : Int32), (97 : Int32), (116 : Int32), (32 : Int32), (110 : Int32), (97 : Int32), (109 : Int32), (101 : Int32), (32 : Int32), (105 : Int32), (115 : Int32), (32 : Int32), (97 : Int32), (108 : Int32), (114 : Int32), (101 : Int32), (97 : Int32), (100 : Int32), (121 : Int32), (32 : Int32), (105 : Int32), (110 : Int32), (32 : Int32), (117 : Int32), (115 : Int32), (101 : Int32)]) (str_inj (S27.ext E49) S50) h47 (e34.ext E49) (f35.ext E49) (f36.ext E49) (kc37.ext E49) b38 l39 e53 f54 f55 kc56 b57 l58) (by simp) (argsL := [.ref s45]) (rest := []) pd_4 rfl rfl rfl rfl 0 (Nat.le_of_eq rfl) (by decide) (by decide) (ck := 24) rfl (cs := 3507) rfl (by decide) (by decide) at_127 130 rfl ?_
  intro w62 T60 X61 hq63
  obtain rfl : w62 = .int (1 : Int32) := by rw [hq63]; exact congrArg Value.int (if_pos rfl)
  refine g_ifYes X61 at_130 (XT.ii_ne_t (by decide)) 135 (by decide) (by decide) ?_
  refine g_aload X61 at_135 rfl rfl 137 rfl ?_
  refine g_iconst X61 (0 : Int32) at_137 (by decide) 138 rfl ?_
  refine g_bipush X61 (67 : Int32) at_138 (by decide) 140 rfl ?_
  refine g_callSp X61 (hw _ (List.mem_of_getElem? (i := 243) rfl)) (hw _ (List.mem_of_getElem? (i := 244) rfl)) (hw _ (List.mem_of_getElem? (i := 2) rfl)) (hw _ (List.mem_of_getElem? (i := 245) rfl)) (by decide) (c_at l Z a0 G r23 t32 kb33 (msgL ([] : List Int32) ([] : List Int32)) 0 (67 : Int32) h47 (e34.ext E49) (f35.ext E49) (f36.ext E49) (kc37.ext E49) b38 l39 (Nat.le_of_ble_eq_true rfl) rfl) (by simp) (argsL := [.ref r23, .int (0 : Int32), .int (67 : Int32)]) (rest := []) pd_3 rfl rfl rfl rfl 0 (Nat.le_of_eq rfl) (by decide) (by decide) (ck := 24) rfl (cs := 3507) rfl (by decide) (by decide) at_140 143 rfl ?_
  intro w66 T64 X65 hq67
  subst hq67
  refine g_ifNo X65 at_143 (XT.ii_eq_f (by decide)) 146 rfl ?_
  refine g_aload X65 at_146 rfl rfl 148 rfl ?_
  refine g_bipush X65 (16 : Int32) at_148 (by decide) 150 rfl ?_
  refine g_bipush X65 (32 : Int32) at_150 (by decide) 152 rfl ?_
  refine g_callSp X65 (hw _ (List.mem_of_getElem? (i := 243) rfl)) (hw _ (List.mem_of_getElem? (i := 244) rfl)) (hw _ (List.mem_of_getElem? (i := 2) rfl)) (hw _ (List.mem_of_getElem? (i := 245) rfl)) (by decide) (c_at l Z a0 G r23 t32 kb33 (msgL ([] : List Int32) ([] : List Int32)) 16 (32 : Int32) h47 (e34.ext E49) (f35.ext E49) (f36.ext E49) (kc37.ext E49) b38 l39 (Nat.le_of_ble_eq_true rfl) rfl) (by simp) (argsL := [.ref r23, .int (16 : Int32), .int (32 : Int32)]) (rest := []) pd_3 rfl rfl rfl rfl 0 (Nat.le_of_eq rfl) (by decide) (by decide) (ck := 24) rfl (cs := 3507) rfl (by decide) (by decide) at_152 155 rfl ?_
  intro w70 T68 X69 hq71
  subst hq71
  refine g_ifNo X69 at_155 (XT.ii_eq_f (by decide)) 158 rfl ?_
  refine g_aload X69 at_158 rfl rfl 160 rfl ?_
  refine g_bipush X69 (17 : Int32) at_160 (by decide) 162 rfl ?_
  refine g_bipush X69 (34 : Int32) at_162 (by decide) 164 rfl ?_
  refine g_callSp X69 (hw _ (List.mem_of_getElem? (i := 243) rfl)) (hw _ (List.mem_of_getElem? (i := 244) rfl)) (hw _ (List.mem_of_getElem? (i := 2) rfl)) (hw _ (List.mem_of_getElem? (i := 245) rfl)) (by decide) (c_at l Z a0 G r23 t32 kb33 (msgL ([] : List Int32) ([] : List Int32)) 17 (34 : Int32) h47 (e34.ext E49) (f35.ext E49) (f36.ext E49) (kc37.ext E49) b38 l39 (Nat.le_of_ble_eq_true rfl) rfl) (by simp) (argsL := [.ref r23, .int (17 : Int32), .int (34 : Int32)]) (rest := []) pd_3 rfl rfl rfl rfl 0 (Nat.le_of_eq rfl) (by decide) (by decide) (ck := 24) rfl (cs := 3507) rfl (by decide) (by decide) at_164 167 rfl ?_
  intro w74 T72 X73 hq75
  subst hq75
  refine g_ifNo X73 at_167 (XT.ii_eq_f (by decide)) 170 rfl ?_
  refine g_aload X73 at_170 rfl rfl 172 rfl ?_
  refine g_bipush X73 (18 : Int32) at_172 (by decide) 174 rfl ?_
  refine g_iload X73 at_174 rfl 176 rfl ?_
  refine g_iadd X73 at_176 (18 : Int32) (by decide) 177 rfl ?_
  refine g_bipush X73 (34 : Int32) at_177 (by decide) 179 rfl ?_
  refine g_callSp X73 (hw _ (List.mem_of_getElem? (i := 243) rfl)) (hw _ (List.mem_of_getElem? (i := 244) rfl)) (hw _ (List.mem_of_getElem? (i := 2) rfl)) (hw _ (List.mem_of_getElem? (i := 245) rfl)) (by decide) (c_at l Z a0 G r23 t32 kb33 (msgL ([] : List Int32) ([] : List Int32)) 18 (34 : Int32) h47 (e34.ext E49) (f35.ext E49) (f36.ext E49) (kc37.ext E49) b38 l39 (Nat.le_of_ble_eq_true rfl) rfl) (by simp) (argsL := [.ref r23, .int (18 : Int32), .int (34 : Int32)]) (rest := []) pd_3 rfl rfl rfl rfl 0 (Nat.le_of_eq rfl) (by decide) (by decide) (ck := 24) rfl (cs := 3507) rfl (by decide) (by decide) at_179 182 rfl ?_
  intro w78 T76 X77 hq79
  subst hq79
  refine g_ifNo X77 at_182 (XT.ii_eq_f (by decide)) 185 rfl ?_
  refine g_aload X77 at_185 rfl rfl 187 rfl ?_
  refine g_bipush X77 (19 : Int32) at_187 (by decide) 189 rfl ?_
  refine g_iload X77 at_189 rfl 191 rfl ?_
  refine g_iadd X77 at_191 (19 : Int32) (by decide) 192 rfl ?_
  refine g_bipush X77 (32 : Int32) at_192 (by decide) 194 rfl ?_
  refine g_callSp X77 (hw _ (List.mem_of_getElem? (i := 243) rfl)) (hw _ (List.mem_of_getElem? (i := 244) rfl)) (hw _ (List.mem_of_getElem? (i := 2) rfl)) (hw _ (List.mem_of_getElem? (i := 245) rfl)) (by decide) (c_at l Z a0 G r23 t32 kb33 (msgL ([] : List Int32) ([] : List Int32)) 19 (32 : Int32) h47 (e34.ext E49) (f35.ext E49) (f36.ext E49) (kc37.ext E49) b38 l39 (Nat.le_of_ble_eq_true rfl) rfl) (by simp) (argsL := [.ref r23, .int (19 : Int32), .int (32 : Int32)]) (rest := []) pd_3 rfl rfl rfl rfl 0 (Nat.le_of_eq rfl) (by decide) (by decide) (ck := 24) rfl (cs := 3507) rfl (by decide) (by decide) at_194 197 rfl ?_
  intro w82 T80 X81 hq83
  subst hq83
  refine g_ifNo X81 at_197 (XT.ii_eq_f (by decide)) 200 rfl ?_
  refine g_aload X81 at_200 rfl rfl 202 rfl ?_
  refine g_bipush X81 (29 : Int32) at_202 (by decide) 204 rfl ?_
  refine g_iload X81 at_204 rfl 206 rfl ?_
  refine g_iadd X81 at_206 (29 : Int32) (by decide) 207 rfl ?_
  refine g_bipush X81 (32 : Int32) at_207 (by decide) 209 rfl ?_
  refine g_callSp X81 (hw _ (List.mem_of_getElem? (i := 243) rfl)) (hw _ (List.mem_of_getElem? (i := 244) rfl)) (hw _ (List.mem_of_getElem? (i := 2) rfl)) (hw _ (List.mem_of_getElem? (i := 245) rfl)) (by decide) (c_at l Z a0 G r23 t32 kb33 (msgL ([] : List Int32) ([] : List Int32)) 29 (32 : Int32) h47 (e34.ext E49) (f35.ext E49) (f36.ext E49) (kc37.ext E49) b38 l39 (Nat.le_of_ble_eq_true rfl) rfl) (by simp) (argsL := [.ref r23, .int (29 : Int32), .int (32 : Int32)]) (rest := []) pd_3 rfl rfl rfl rfl 0 (Nat.le_of_eq rfl) (by decide) (by decide) (ck := 24) rfl (cs := 3507) rfl (by decide) (by decide) at_209 212 rfl ?_
  intro w86 T84 X85 hq87
  subst hq87
  refine g_ifNo X85 at_212 (XT.ii_eq_f (by decide)) 215 rfl ?_
  refine g_aload X85 at_215 rfl rfl 217 rfl ?_
  refine g_bipush X85 (30 : Int32) at_217 (by decide) 219 rfl ?_
  refine g_iload X85 at_219 rfl 221 rfl ?_
  refine g_iadd X85 at_221 (30 : Int32) (by decide) 222 rfl ?_
  refine g_bipush X85 (34 : Int32) at_222 (by decide) 224 rfl ?_
  refine g_callSp X85 (hw _ (List.mem_of_getElem? (i := 243) rfl)) (hw _ (List.mem_of_getElem? (i := 244) rfl)) (hw _ (List.mem_of_getElem? (i := 2) rfl)) (hw _ (List.mem_of_getElem? (i := 245) rfl)) (by decide) (c_at l Z a0 G r23 t32 kb33 (msgL ([] : List Int32) ([] : List Int32)) 30 (34 : Int32) h47 (e34.ext E49) (f35.ext E49) (f36.ext E49) (kc37.ext E49) b38 l39 (Nat.le_of_ble_eq_true rfl) rfl) (by simp) (argsL := [.ref r23, .int (30 : Int32), .int (34 : Int32)]) (rest := []) pd_3 rfl rfl rfl rfl 0 (Nat.le_of_eq rfl) (by decide) (by decide) (ck := 24) rfl (cs := 3507) rfl (by decide) (by decide) at_224 227 rfl ?_
  intro w90 T88 X89 hq91
  subst hq91
  refine g_ifNo X89 at_227 (XT.ii_eq_f (by decide)) 230 rfl ?_
  refine g_aload X89 at_230 rfl rfl 232 rfl ?_
  refine g_bipush X89 (31 : Int32) at_232 (by decide) 234 rfl ?_
  refine g_iload X89 at_234 rfl 236 rfl ?_
  refine g_iadd X89 at_236 (31 : Int32) (by decide) 237 rfl ?_
  refine g_iload X89 at_237 rfl 239 rfl ?_
  refine g_iadd X89 at_239 (31 : Int32) (by decide) 240 rfl ?_
  refine g_bipush X89 (34 : Int32) at_240 (by decide) 242 rfl ?_
  refine g_callSp X89 (hw _ (List.mem_of_getElem? (i := 243) rfl)) (hw _ (List.mem_of_getElem? (i := 244) rfl)) (hw _ (List.mem_of_getElem? (i := 2) rfl)) (hw _ (List.mem_of_getElem? (i := 245) rfl)) (by decide) (c_at l Z a0 G r23 t32 kb33 (msgL ([] : List Int32) ([] : List Int32)) 31 (34 : Int32) h47 (e34.ext E49) (f35.ext E49) (f36.ext E49) (kc37.ext E49) b38 l39 (Nat.le_of_ble_eq_true rfl) rfl) (by simp) (argsL := [.ref r23, .int (31 : Int32), .int (34 : Int32)]) (rest := []) pd_3 rfl rfl rfl rfl 0 (Nat.le_of_eq rfl) (by decide) (by decide) (ck := 24) rfl (cs := 3507) rfl (by decide) (by decide) at_242 245 rfl ?_
  intro w94 T92 X93 hq95
  subst hq95
  refine g_ifNo X93 at_245 (XT.ii_eq_f (by decide)) 248 rfl ?_
  refine g_aload X93 at_248 rfl rfl 250 rfl ?_
  refine g_bipush X93 (32 : Int32) at_250 (by decide) 252 rfl ?_
  refine g_iload X93 at_252 rfl 254 rfl ?_
  refine g_iadd X93 at_254 (32 : Int32) (by decide) 255 rfl ?_
  refine g_iload X93 at_255 rfl 257 rfl ?_
  refine g_iadd X93 at_257 (32 : Int32) (by decide) 258 rfl ?_
  refine g_bipush X93 (58 : Int32) at_258 (by decide) 260 rfl ?_
  refine g_callSp X93 (hw _ (List.mem_of_getElem? (i := 243) rfl)) (hw _ (List.mem_of_getElem? (i := 244) rfl)) (hw _ (List.mem_of_getElem? (i := 2) rfl)) (hw _ (List.mem_of_getElem? (i := 245) rfl)) (by decide) (c_at l Z a0 G r23 t32 kb33 (msgL ([] : List Int32) ([] : List Int32)) 32 (58 : Int32) h47 (e34.ext E49) (f35.ext E49) (f36.ext E49) (kc37.ext E49) b38 l39 (Nat.le_of_ble_eq_true rfl) rfl) (by simp) (argsL := [.ref r23, .int (32 : Int32), .int (58 : Int32)]) (rest := []) pd_3 rfl rfl rfl rfl 0 (Nat.le_of_eq rfl) (by decide) (by decide) (ck := 24) rfl (cs := 3507) rfl (by decide) (by decide) at_260 263 rfl ?_
  intro w98 T96 X97 hq99
  subst hq99
  refine g_ifNo X97 at_263 (XT.ii_eq_f (by decide)) 266 rfl ?_
  refine g_aload X97 at_266 rfl rfl 268 rfl ?_
  refine g_bipush X97 (33 : Int32) at_268 (by decide) 270 rfl ?_
  refine g_iload X97 at_270 rfl 272 rfl ?_
  refine g_iadd X97 at_272 (33 : Int32) (by decide) 273 rfl ?_
  refine g_iload X97 at_273 rfl 275 rfl ?_
  refine g_iadd X97 at_275 (33 : Int32) (by decide) 276 rfl ?_
  refine g_bipush X97 (32 : Int32) at_276 (by decide) 278 rfl ?_
  refine g_callSp X97 (hw _ (List.mem_of_getElem? (i := 243) rfl)) (hw _ (List.mem_of_getElem? (i := 244) rfl)) (hw _ (List.mem_of_getElem? (i := 2) rfl)) (hw _ (List.mem_of_getElem? (i := 245) rfl)) (by decide) (c_at l Z a0 G r23 t32 kb33 (msgL ([] : List Int32) ([] : List Int32)) 33 (32 : Int32) h47 (e34.ext E49) (f35.ext E49) (f36.ext E49) (kc37.ext E49) b38 l39 (Nat.le_of_ble_eq_true rfl) rfl) (by simp) (argsL := [.ref r23, .int (33 : Int32), .int (32 : Int32)]) (rest := []) pd_3 rfl rfl rfl rfl 0 (Nat.le_of_eq rfl) (by decide) (by decide) (ck := 24) rfl (cs := 3507) rfl (by decide) (by decide) at_278 281 rfl ?_
  intro w102 T100 X101 hq103
  subst hq103
  refine g_ifNo X101 at_281 (XT.ii_eq_f (by decide)) 284 rfl ?_
  refine g_aload X101 at_284 rfl rfl 286 rfl ?_
  refine g_bipush X101 (60 : Int32) at_286 (by decide) 288 rfl ?_
  refine g_iload X101 at_288 rfl 290 rfl ?_
  refine g_iadd X101 at_290 (60 : Int32) (by decide) 291 rfl ?_
  refine g_iload X101 at_291 rfl 293 rfl ?_
  refine g_iadd X101 at_293 (60 : Int32) (by decide) 294 rfl ?_
  refine g_bipush X101 (101 : Int32) at_294 (by decide) 296 rfl ?_
  refine g_callSp X101 (hw _ (List.mem_of_getElem? (i := 243) rfl)) (hw _ (List.mem_of_getElem? (i := 244) rfl)) (hw _ (List.mem_of_getElem? (i := 2) rfl)) (hw _ (List.mem_of_getElem? (i := 245) rfl)) (by decide) (c_at l Z a0 G r23 t32 kb33 (msgL ([] : List Int32) ([] : List Int32)) 60 (101 : Int32) h47 (e34.ext E49) (f35.ext E49) (f36.ext E49) (kc37.ext E49) b38 l39 (Nat.le_of_ble_eq_true rfl) rfl) (by simp) (argsL := [.ref r23, .int (60 : Int32), .int (101 : Int32)]) (rest := []) pd_3 rfl rfl rfl rfl 0 (Nat.le_of_eq rfl) (by decide) (by decide) (ck := 24) rfl (cs := 3507) rfl (by decide) (by decide) at_296 299 rfl ?_
  intro w106 T104 X105 hq107
  subst hq107
  refine g_ifNo X105 at_299 (XT.ii_eq_f (by decide)) 302 rfl ?_
  refine g_iconst X105 (1 : Int32) at_302 (by decide) 303 rfl ?_
  refine g_goto X105 at_303 307 (by decide) (by decide) ?_
  refine g_istore X105 at_307 (Ls' := #[.val (.int k0), .val (.int k1), .val (.int k2), .val (.int k3), .val (.int k4), .val (.int (0 : Int32)), .val (.int (0 : Int32)), .val (.int (k1 &&& (255 : Int32))), .val (.int (k2 &&& (255 : Int32))), .val (.int (k3 &&& (255 : Int32))), .val (.int (k4 &&& (255 : Int32))), .val (.ref s6), .val (.ref s14), .val (.ref r23), .val (.int (1 : Int32))]) rfl 309 rfl ?_
  refine g_iload X105 at_309 rfl 311 rfl ?_
  refine g_iconst X105 (1 : Int32) at_311 (by decide) 312 rfl ?_
  refine g_icmpYes X105 at_312 (XT.ii_lt_t (by decide)) 339 (by decide) (by decide) ?_
  refine g_iload X105 at_339 rfl 341 rfl ?_
  refine g_iconst X105 (2 : Int32) at_341 (by decide) 342 rfl ?_
  refine g_icmpYes X105 at_342 (XT.ii_ne_t (by decide)) 369 (by decide) (by decide) ?_
  refine g_iload X105 at_369 rfl 371 rfl ?_
  refine g_iconst X105 (1 : Int32) at_371 (by decide) 372 rfl ?_
  refine g_icmpYes X105 at_372 (XT.ii_lt_t (by decide)) 402 (by decide) (by decide) ?_
  refine g_iload X105 at_402 rfl 404 rfl ?_
  refine g_iconst X105 (2 : Int32) at_404 (by decide) 405 rfl ?_
  refine g_icmpYes X105 at_405 (XT.ii_ne_t (by decide)) 435 (by decide) (by decide) ?_
  refine g_iload X105 at_435 rfl 437 rfl ?_
  exact g_retN X105 (t := .boolean) rfl (by simp) at_437 _ rfl (by decide) (by decide) rfl
set_option maxRecDepth 65536 in
set_option maxHeartbeats 40000000 in
theorem c_law01 (l : Launch) (Z : State) (a0 : Array Value) (G : Gl Z a0) (hst : l.stackTraces = true) (k0 k1 k2 k3 k4 : Int32) (h : Heap) (e5 : (k0 &&& (255 : Int32)) % (3 : Int32) = 0) (e6 : (XT.ushr k0 (8 : Int32) &&& (255 : Int32)) % (3 : Int32) = 1) :
    CtrK KnownL l Z EL nw x code maxLocals ret room_1 #[.int k0, .int k1, .int k2, .int k3, .int k4] h [] (fun v _ => v = some (.int 1)) := by
  obtain ⟨hw, hEL, hSA, ⟨zc, SC, hz⟩, ⟨fm, SF, hfm⟩, ⟨u0, SUn⟩, ⟨sp, SP, hsp⟩⟩ := id G
  refine CtrK.enter (K := KnownL) (own := "com/example/capsa/capsa/BeanNameInUseExceptionAliasPinLaw") (nm := "law") rfl rfl hEL (plainFor_of_name pn_7) #[.val (.int k0), .val (.int k1), .val (.int k2), .val (.int k3), .val (.int k4), .unset, .unset, .unset, .unset, .unset, .unset, .unset, .unset, .unset, .unset] (fun m => entry1 m _ _ (by simp [Value.category]) rfl) ?_
  intro p e s m below meth c T hfr hK hZs X
  obtain ⟨as0, hfr⟩ := hfr
  have hkn : KnownK below s := ⟨MethodsKnown_of_tablesKnown hK.2, FramesKnown_of_framesKnown hK.1 hfr⟩
  refine g_iloadN X at_0 rfl 1 rfl ?_
  refine g_sipush X (255 : Int32) at_1 (by decide) 4 rfl ?_
  refine g_iand X at_4 _ rfl 5 rfl ?_
  refine g_iconst X (3 : Int32) at_5 (by decide) 6 rfl ?_
  refine g_irem X at_6 (by decide) (0 : Int32) e5 7 rfl ?_
  refine g_istore X at_7 (Ls' := #[.val (.int k0), .val (.int k1), .val (.int k2), .val (.int k3), .val (.int k4), .val (.int (0 : Int32)), .unset, .unset, .unset, .unset, .unset, .unset, .unset, .unset, .unset]) rfl 9 rfl ?_
  refine g_iloadN X at_9 rfl 10 rfl ?_
  refine g_bipush X (8 : Int32) at_10 (by decide) 12 rfl ?_
  refine g_iushr X at_12 _ rfl 13 rfl ?_
  refine g_sipush X (255 : Int32) at_13 (by decide) 16 rfl ?_
  refine g_iand X at_16 _ rfl 17 rfl ?_
  refine g_iconst X (3 : Int32) at_17 (by decide) 18 rfl ?_
  refine g_irem X at_18 (by decide) (1 : Int32) e6 19 rfl ?_
  refine g_istore X at_19 (Ls' := #[.val (.int k0), .val (.int k1), .val (.int k2), .val (.int k3), .val (.int k4), .val (.int (0 : Int32)), .val (.int (1 : Int32)), .unset, .unset, .unset, .unset, .unset, .unset, .unset, .unset]) rfl 21 rfl ?_
  refine g_iloadN X at_21 rfl 22 rfl ?_
  refine g_sipush X (255 : Int32) at_22 (by decide) 25 rfl ?_
  refine g_iand X at_25 _ rfl 26 rfl ?_
  refine g_i2c X at_26 (k1 &&& (255 : Int32)) (i2c_mask _) 27 rfl ?_
  refine g_istore X at_27 (Ls' := #[.val (.int k0), .val (.int k1), .val (.int k2), .val (.int k3), .val (.int k4), .val (.int (0 : Int32)), .val (.int (1 : Int32)), .val (.int (k1 &&& (255 : Int32))), .unset, .unset, .unset, .unset, .unset, .unset, .unset]) rfl 29 rfl ?_
  refine g_iloadN X at_29 rfl 30 rfl ?_
  refine g_sipush X (255 : Int32) at_30 (by decide) 33 rfl ?_
  refine g_iand X at_33 _ rfl 34 rfl ?_
  refine g_i2c X at_34 (k2 &&& (255 : Int32)) (i2c_mask _) 35 rfl ?_
  refine g_istore X at_35 (Ls' := #[.val (.int k0), .val (.int k1), .val (.int k2), .val (.int k3), .val (.int k4), .val (.int (0 : Int32)), .val (.int (1 : Int32)), .val (.int (k1 &&& (255 : Int32))), .val (.int (k2 &&& (255 : Int32))), .unset, .unset, .unset, .unset, .unset, .unset]) rfl 37 rfl ?_
  refine g_iloadN X at_37 rfl 38 rfl ?_
  refine g_sipush X (255 : Int32) at_38 (by decide) 41 rfl ?_
  refine g_iand X at_41 _ rfl 42 rfl ?_
  refine g_i2c X at_42 (k3 &&& (255 : Int32)) (i2c_mask _) 43 rfl ?_
  refine g_istore X at_43 (Ls' := #[.val (.int k0), .val (.int k1), .val (.int k2), .val (.int k3), .val (.int k4), .val (.int (0 : Int32)), .val (.int (1 : Int32)), .val (.int (k1 &&& (255 : Int32))), .val (.int (k2 &&& (255 : Int32))), .val (.int (k3 &&& (255 : Int32))), .unset, .unset, .unset, .unset, .unset]) rfl 45 rfl ?_
  refine g_iload X at_45 rfl 47 rfl ?_
  refine g_sipush X (255 : Int32) at_47 (by decide) 50 rfl ?_
  refine g_iand X at_50 _ rfl 51 rfl ?_
  refine g_i2c X at_51 (k4 &&& (255 : Int32)) (i2c_mask _) 52 rfl ?_
  refine g_istore X at_52 (Ls' := #[.val (.int k0), .val (.int k1), .val (.int k2), .val (.int k3), .val (.int k4), .val (.int (0 : Int32)), .val (.int (1 : Int32)), .val (.int (k1 &&& (255 : Int32))), .val (.int (k2 &&& (255 : Int32))), .val (.int (k3 &&& (255 : Int32))), .val (.int (k4 &&& (255 : Int32))), .unset, .unset, .unset, .unset]) rfl 54 rfl ?_
  refine g_iload X at_54 rfl 56 rfl ?_
  refine g_iload X at_56 rfl 58 rfl ?_
  refine g_iload X at_58 rfl 60 rfl ?_
  refine g_callSv X (hw _ (List.mem_of_getElem? (i := 0) rfl)) (hw _ (List.mem_of_getElem? (i := 1) rfl)) (hw _ (List.mem_of_getElem? (i := 2) rfl)) (hw _ (List.mem_of_getElem? (i := 3) rfl)) (by decide) (c_str0 l Z a0 G k1 k2 ([]) h) (fun _ q => q) (argsL := [.int (0 : Int32), .int (k1 &&& (255 : Int32)), .int (k2 &&& (255 : Int32))]) (rest := []) pd_0 rfl rfl rfl rfl 0 (Nat.le_of_eq rfl) (by decide) (by decide) (ck := 4) rfl (cs := 8) rfl (by decide) (by decide) at_60 63 rfl ?_
  intro w3 T1 h5 X2 hq4
  obtain ⟨s6, rfl, E7, S8⟩ := hq4
  refine g_astore X2 at_63 rfl (Ls' := #[.val (.int k0), .val (.int k1), .val (.int k2), .val (.int k3), .val (.int k4), .val (.int (0 : Int32)), .val (.int (1 : Int32)), .val (.int (k1 &&& (255 : Int32))), .val (.int (k2 &&& (255 : Int32))), .val (.int (k3 &&& (255 : Int32))), .val (.int (k4 &&& (255 : Int32))), .val (.ref s6), .unset, .unset, .unset]) rfl 65 rfl ?_
  refine g_iload X2 at_65 rfl 67 rfl ?_
  refine g_iload X2 at_67 rfl 69 rfl ?_
  refine g_iload X2 at_69 rfl 71 rfl ?_
  refine g_callSv X2 (hw _ (List.mem_of_getElem? (i := 0) rfl)) (hw _ (List.mem_of_getElem? (i := 1) rfl)) (hw _ (List.mem_of_getElem? (i := 2) rfl)) (hw _ (List.mem_of_getElem? (i := 3) rfl)) (by decide) (c_str1 l Z a0 G k3 k4 ([]) h5) (fun _ q => q) (argsL := [.int (1 : Int32), .int (k3 &&& (255 : Int32)), .int (k4 &&& (255 : Int32))]) (rest := []) pd_0 rfl rfl rfl rfl 0 (Nat.le_of_eq rfl) (by decide) (by decide) (ck := 7) rfl (cs := 14) rfl (by decide) (by decide) at_71 74 rfl ?_
  intro w11 T9 h13 X10 hq12
  obtain ⟨s14, rfl, E15, S16⟩ := hq12
  refine g_astore X10 at_74 rfl (Ls' := #[.val (.int k0), .val (.int k1), .val (.int k2), .val (.int k3), .val (.int k4), .val (.int (0 : Int32)), .val (.int (1 : Int32)), .val (.int (k1 &&& (255 : Int32))), .val (.int (k2 &&& (255 : Int32))), .val (.int (k3 &&& (255 : Int32))), .val (.int (k4 &&& (255 : Int32))), .val (.ref s6), .val (.ref s14), .unset, .unset]) rfl 76 rfl ?_
  refine g_aload X10 at_76 rfl rfl 78 rfl ?_
  refine g_aload X10 at_78 rfl rfl 80 rfl ?_
  refine g_callSvK X10 hkn (hw _ (List.mem_of_getElem? (i := 26) rfl)) (hw _ (List.mem_of_getElem? (i := 27) rfl)) (hw _ (List.mem_of_getElem? (i := 28) rfl)) (hw _ (List.mem_of_getElem? (i := 29) rfl)) (by decide) (c_al01 l Z a0 G hst s6 s14 ([]) 0 0 (k3 &&& (255 : Int32)) 0 h13 (S8.ext E15) S16) (fun _ q => q) (argsL := [.ref s6, .ref s14]) (rest := []) pd_1 rfl rfl rfl rfl 0 (Nat.le_of_eq rfl) (by decide) (by decide) (ck := 21) rfl (cs := 3257) rfl (by decide) (by decide) at_80 83 rfl ?_
  intro w17 T18 h19 X20 hq21
  obtain ⟨j22, r23, rfl, E24, A25, F26, S27⟩ := hq21
  refine g_callWp X20 (owner := "java/lang/Throwable") (hw _ (List.mem_of_getElem? (i := 225) rfl)) (hw _ (List.mem_of_getElem? (i := 226) rfl)) (hw _ (List.mem_of_getElem? (i := 227) rfl)) (hw _ (List.mem_of_getElem? (i := 229) rfl)) (hw _ (List.mem_of_getElem? (i := 228) rfl)) (hw _ (List.mem_of_getElem? (i := 186) rfl)) (hw _ (List.mem_of_getElem? (i := 230) rfl)) (by decide) A25 (c_gm l Z a0 G j22 r23 h19 F26) (by simp) (argsL := []) (rest := []) pd_21 rfl rfl rfl rfl 0 (Nat.le_of_eq rfl) (by decide) (by decide) (ck := 21) rfl (cs := 3257) rfl (by decide) (by decide) at_83 86 rfl ?_
  intro w28 T29 X30 hq31
  subst hq31
  refine g_astore X30 at_86 rfl (Ls' := #[.val (.int k0), .val (.int k1), .val (.int k2), .val (.int k3), .val (.int k4), .val (.int (0 : Int32)), .val (.int (1 : Int32)), .val (.int (k1 &&& (255 : Int32))), .val (.int (k2 &&& (255 : Int32))), .val (.int (k3 &&& (255 : Int32))), .val (.int (k4 &&& (255 : Int32))), .val (.ref s6), .val (.ref s14), .val (.ref r23), .unset]) rfl 88 rfl ?_
  refine g_aload X30 at_88 rfl rfl 90 rfl ?_
  refine g_ifnonnullYes X30 at_90 95 (by decide) (by decide) ?_
  refine g_aload X30 at_95 rfl rfl 97 rfl ?_
  obtain ⟨t32, kb33, e34, f35, f36, kc37, b38, l39, n40⟩ := id S27
  refine g_callVp X30 (hw _ (List.mem_of_getElem? (i := 231) rfl)) (hw _ (List.mem_of_getElem? (i := 62) rfl)) (hw _ (List.mem_of_getElem? (i := 64) rfl)) (hw _ (List.mem_of_getElem? (i := 63) rfl)) (hw _ (List.mem_of_getElem? (i := 6) rfl)) (hw _ (List.mem_of_getElem? (i := 65) rfl)) (nfSel (hw _ (List.mem_of_getElem? (i := 64) rfl))) (by decide) e34 (c_len l Z a0 G r23 t32 kb33 (msgL ([] : List Int32) [k3 &&& (255 : Int32)]) h19 e34 f35 f36 kc37 b38 l39) (by simp) (argsL := []) (rest := []) pd_5 rfl rfl rfl rfl 0 (Nat.le_of_eq rfl) (by decide) (by decide) (ck := 21) rfl (cs := 3257) rfl (by decide) (by decide) at_97 100 rfl ?_
  intro w43 T41 X42 hq44
  subst hq44
  refine g_bipush X42 (61 : Int32) at_100 (by decide) 102 rfl ?_
  refine g_iload X42 at_102 rfl 104 rfl ?_
  refine g_iadd X42 at_104 (61 : Int32) (by decide) 105 rfl ?_
  refine g_iload X42 at_105 rfl 107 rfl ?_
  refine g_iadd X42 at_107 (62 : Int32) (by decide) 108 rfl ?_
  refine g_icmpYes X42 at_108 (XT.ii_eq_t rfl) 113 (by decide) (by decide) ?_
  refine g_iload X42 at_113 rfl 115 rfl ?_
  refine g_ifNo X42 at_115 (XT.ii_ne_f (by decide)) 118 rfl ?_
  refine g_iload X42 at_118 rfl 120 rfl ?_
  refine g_ifYes X42 at_120 (XT.ii_ne_t (by decide)) 135 (by decide) (by decide) ?_
  refine g_aload X42 at_135 rfl rfl 137 rfl ?_
  refine g_iconst X42 (0 : Int32) at_137 (by decide) 138 rfl ?_
  refine g_bipush X42 (67 : Int32) at_138 (by decide) 140 rfl ?_
  refine g_callSp X42 (hw _ (List.mem_of_getElem? (i := 243) rfl)) (hw _ (List.mem_of_getElem? (i := 244) rfl)) (hw _ (List.mem_of_getElem? (i := 2) rfl)) (hw _ (List.mem_of_getElem? (i := 245) rfl)) (by decide) (c_at l Z a0 G r23 t32 kb33 (msgL ([] : List Int32) [k3 &&& (255 : Int32)]) 0 (67 : Int32) h19 e34 f35 f36 kc37 b38 l39 (Nat.le_of_ble_eq_true rfl) rfl) (by simp) (argsL := [.ref r23, .int (0 : Int32), .int (67 : Int32)]) (rest := []) pd_3 rfl rfl rfl rfl 0 (Nat.le_of_eq rfl) (by decide) (by decide) (ck := 21) rfl (cs := 3257) rfl (by decide) (by decide) at_140 143 rfl ?_
  intro w47 T45 X46 hq48
  subst hq48
  refine g_ifNo X46 at_143 (XT.ii_eq_f (by decide)) 146 rfl ?_
  refine g_aload X46 at_146 rfl rfl 148 rfl ?_
  refine g_bipush X46 (16 : Int32) at_148 (by decide) 150 rfl ?_
  refine g_bipush X46 (32 : Int32) at_150 (by decide) 152 rfl ?_
  refine g_callSp X46 (hw _ (List.mem_of_getElem? (i := 243) rfl)) (hw _ (List.mem_of_getElem? (i := 244) rfl)) (hw _ (List.mem_of_getElem? (i := 2) rfl)) (hw _ (List.mem_of_getElem? (i := 245) rfl)) (by decide) (c_at l Z a0 G r23 t32 kb33 (msgL ([] : List Int32) [k3 &&& (255 : Int32)]) 16 (32 : Int32) h19 e34 f35 f36 kc37 b38 l39 (Nat.le_of_ble_eq_true rfl) rfl) (by simp) (argsL := [.ref r23, .int (16 : Int32), .int (32 : Int32)]) (rest := []) pd_3 rfl rfl rfl rfl 0 (Nat.le_of_eq rfl) (by decide) (by decide) (ck := 21) rfl (cs := 3257) rfl (by decide) (by decide) at_152 155 rfl ?_
  intro w51 T49 X50 hq52
  subst hq52
  refine g_ifNo X50 at_155 (XT.ii_eq_f (by decide)) 158 rfl ?_
  refine g_aload X50 at_158 rfl rfl 160 rfl ?_
  refine g_bipush X50 (17 : Int32) at_160 (by decide) 162 rfl ?_
  refine g_bipush X50 (34 : Int32) at_162 (by decide) 164 rfl ?_
  refine g_callSp X50 (hw _ (List.mem_of_getElem? (i := 243) rfl)) (hw _ (List.mem_of_getElem? (i := 244) rfl)) (hw _ (List.mem_of_getElem? (i := 2) rfl)) (hw _ (List.mem_of_getElem? (i := 245) rfl)) (by decide) (c_at l Z a0 G r23 t32 kb33 (msgL ([] : List Int32) [k3 &&& (255 : Int32)]) 17 (34 : Int32) h19 e34 f35 f36 kc37 b38 l39 (Nat.le_of_ble_eq_true rfl) rfl) (by simp) (argsL := [.ref r23, .int (17 : Int32), .int (34 : Int32)]) (rest := []) pd_3 rfl rfl rfl rfl 0 (Nat.le_of_eq rfl) (by decide) (by decide) (ck := 21) rfl (cs := 3257) rfl (by decide) (by decide) at_164 167 rfl ?_
  intro w55 T53 X54 hq56
  subst hq56
  refine g_ifNo X54 at_167 (XT.ii_eq_f (by decide)) 170 rfl ?_
  refine g_aload X54 at_170 rfl rfl 172 rfl ?_
  refine g_bipush X54 (18 : Int32) at_172 (by decide) 174 rfl ?_
  refine g_iload X54 at_174 rfl 176 rfl ?_
  refine g_iadd X54 at_176 (18 : Int32) (by decide) 177 rfl ?_
  refine g_bipush X54 (34 : Int32) at_177 (by decide) 179 rfl ?_
  refine g_callSp X54 (hw _ (List.mem_of_getElem? (i := 243) rfl)) (hw _ (List.mem_of_getElem? (i := 244) rfl)) (hw _ (List.mem_of_getElem? (i := 2) rfl)) (hw _ (List.mem_of_getElem? (i := 245) rfl)) (by decide) (c_at l Z a0 G r23 t32 kb33 (msgL ([] : List Int32) [k3 &&& (255 : Int32)]) 18 (34 : Int32) h19 e34 f35 f36 kc37 b38 l39 (Nat.le_of_ble_eq_true rfl) rfl) (by simp) (argsL := [.ref r23, .int (18 : Int32), .int (34 : Int32)]) (rest := []) pd_3 rfl rfl rfl rfl 0 (Nat.le_of_eq rfl) (by decide) (by decide) (ck := 21) rfl (cs := 3257) rfl (by decide) (by decide) at_179 182 rfl ?_
  intro w59 T57 X58 hq60
  subst hq60
  refine g_ifNo X58 at_182 (XT.ii_eq_f (by decide)) 185 rfl ?_
  refine g_aload X58 at_185 rfl rfl 187 rfl ?_
  refine g_bipush X58 (19 : Int32) at_187 (by decide) 189 rfl ?_
  refine g_iload X58 at_189 rfl 191 rfl ?_
  refine g_iadd X58 at_191 (19 : Int32) (by decide) 192 rfl ?_
  refine g_bipush X58 (32 : Int32) at_192 (by decide) 194 rfl ?_
  refine g_callSp X58 (hw _ (List.mem_of_getElem? (i := 243) rfl)) (hw _ (List.mem_of_getElem? (i := 244) rfl)) (hw _ (List.mem_of_getElem? (i := 2) rfl)) (hw _ (List.mem_of_getElem? (i := 245) rfl)) (by decide) (c_at l Z a0 G r23 t32 kb33 (msgL ([] : List Int32) [k3 &&& (255 : Int32)]) 19 (32 : Int32) h19 e34 f35 f36 kc37 b38 l39 (Nat.le_of_ble_eq_true rfl) rfl) (by simp) (argsL := [.ref r23, .int (19 : Int32), .int (32 : Int32)]) (rest := []) pd_3 rfl rfl rfl rfl 0 (Nat.le_of_eq rfl) (by decide) (by decide) (ck := 21) rfl (cs := 3257) rfl (by decide) (by decide) at_194 197 rfl ?_
  intro w63 T61 X62 hq64
  subst hq64
  refine g_ifNo X62 at_197 (XT.ii_eq_f (by decide)) 200 rfl ?_
  refine g_aload X62 at_200 rfl rfl 202 rfl ?_
  refine g_bipush X62 (29 : Int32) at_202 (by decide) 204 rfl ?_
  refine g_iload X62 at_204 rfl 206 rfl ?_
  refine g_iadd X62 at_206 (29 : Int32) (by decide) 207 rfl ?_
  refine g_bipush X62 (32 : Int32) at_207 (by decide) 209 rfl ?_
  refine g_callSp X62 (hw _ (List.mem_of_getElem? (i := 243) rfl)) (hw _ (List.mem_of_getElem? (i := 244) rfl)) (hw _ (List.mem_of_getElem? (i := 2) rfl)) (hw _ (List.mem_of_getElem? (i := 245) rfl)) (by decide) (c_at l Z a0 G r23 t32 kb33 (msgL ([] : List Int32) [k3 &&& (255 : Int32)]) 29 (32 : Int32) h19 e34 f35 f36 kc37 b38 l39 (Nat.le_of_ble_eq_true rfl) rfl) (by simp) (argsL := [.ref r23, .int (29 : Int32), .int (32 : Int32)]) (rest := []) pd_3 rfl rfl rfl rfl 0 (Nat.le_of_eq rfl) (by decide) (by decide) (ck := 21) rfl (cs := 3257) rfl (by decide) (by decide) at_209 212 rfl ?_
  intro w67 T65 X66 hq68
  subst hq68
  refine g_ifNo X66 at_212 (XT.ii_eq_f (by decide)) 215 rfl ?_
  refine g_aload X66 at_215 rfl rfl 217 rfl ?_
  refine g_bipush X66 (30 : Int32) at_217 (by decide) 219 rfl ?_
  refine g_iload X66 at_219 rfl 221 rfl ?_
  refine g_iadd X66 at_221 (30 : Int32) (by decide) 222 rfl ?_
  refine g_bipush X66 (34 : Int32) at_222 (by decide) 224 rfl ?_
  refine g_callSp X66 (hw _ (List.mem_of_getElem? (i := 243) rfl)) (hw _ (List.mem_of_getElem? (i := 244) rfl)) (hw _ (List.mem_of_getElem? (i := 2) rfl)) (hw _ (List.mem_of_getElem? (i := 245) rfl)) (by decide) (c_at l Z a0 G r23 t32 kb33 (msgL ([] : List Int32) [k3 &&& (255 : Int32)]) 30 (34 : Int32) h19 e34 f35 f36 kc37 b38 l39 (Nat.le_of_ble_eq_true rfl) rfl) (by simp) (argsL := [.ref r23, .int (30 : Int32), .int (34 : Int32)]) (rest := []) pd_3 rfl rfl rfl rfl 0 (Nat.le_of_eq rfl) (by decide) (by decide) (ck := 21) rfl (cs := 3257) rfl (by decide) (by decide) at_224 227 rfl ?_
  intro w71 T69 X70 hq72
  subst hq72
  refine g_ifNo X70 at_227 (XT.ii_eq_f (by decide)) 230 rfl ?_
  refine g_aload X70 at_230 rfl rfl 232 rfl ?_
  refine g_bipush X70 (31 : Int32) at_232 (by decide) 234 rfl ?_
  refine g_iload X70 at_234 rfl 236 rfl ?_
  refine g_iadd X70 at_236 (31 : Int32) (by decide) 237 rfl ?_
  refine g_iload X70 at_237 rfl 239 rfl ?_
  refine g_iadd X70 at_239 (32 : Int32) (by decide) 240 rfl ?_
  refine g_bipush X70 (34 : Int32) at_240 (by decide) 242 rfl ?_
  refine g_callSp X70 (hw _ (List.mem_of_getElem? (i := 243) rfl)) (hw _ (List.mem_of_getElem? (i := 244) rfl)) (hw _ (List.mem_of_getElem? (i := 2) rfl)) (hw _ (List.mem_of_getElem? (i := 245) rfl)) (by decide) (c_at l Z a0 G r23 t32 kb33 (msgL ([] : List Int32) [k3 &&& (255 : Int32)]) 32 (34 : Int32) h19 e34 f35 f36 kc37 b38 l39 (Nat.le_of_ble_eq_true rfl) rfl) (by simp) (argsL := [.ref r23, .int (32 : Int32), .int (34 : Int32)]) (rest := []) pd_3 rfl rfl rfl rfl 0 (Nat.le_of_eq rfl) (by decide) (by decide) (ck := 21) rfl (cs := 3257) rfl (by decide) (by decide) at_242 245 rfl ?_
  intro w75 T73 X74 hq76
  subst hq76
  refine g_ifNo X74 at_245 (XT.ii_eq_f (by decide)) 248 rfl ?_
  refine g_aload X74 at_248 rfl rfl 250 rfl ?_
  refine g_bipush X74 (32 : Int32) at_250 (by decide) 252 rfl ?_
  refine g_iload X74 at_252 rfl 254 rfl ?_
  refine g_iadd X74 at_254 (32 : Int32) (by decide) 255 rfl ?_
  refine g_iload X74 at_255 rfl 257 rfl ?_
  refine g_iadd X74 at_257 (33 : Int32) (by decide) 258 rfl ?_
  refine g_bipush X74 (58 : Int32) at_258 (by decide) 260 rfl ?_
  refine g_callSp X74 (hw _ (List.mem_of_getElem? (i := 243) rfl)) (hw _ (List.mem_of_getElem? (i := 244) rfl)) (hw _ (List.mem_of_getElem? (i := 2) rfl)) (hw _ (List.mem_of_getElem? (i := 245) rfl)) (by decide) (c_at l Z a0 G r23 t32 kb33 (msgL ([] : List Int32) [k3 &&& (255 : Int32)]) 33 (58 : Int32) h19 e34 f35 f36 kc37 b38 l39 (Nat.le_of_ble_eq_true rfl) rfl) (by simp) (argsL := [.ref r23, .int (33 : Int32), .int (58 : Int32)]) (rest := []) pd_3 rfl rfl rfl rfl 0 (Nat.le_of_eq rfl) (by decide) (by decide) (ck := 21) rfl (cs := 3257) rfl (by decide) (by decide) at_260 263 rfl ?_
  intro w79 T77 X78 hq80
  subst hq80
  refine g_ifNo X78 at_263 (XT.ii_eq_f (by decide)) 266 rfl ?_
  refine g_aload X78 at_266 rfl rfl 268 rfl ?_
  refine g_bipush X78 (33 : Int32) at_268 (by decide) 270 rfl ?_
  refine g_iload X78 at_270 rfl 272 rfl ?_
  refine g_iadd X78 at_272 (33 : Int32) (by decide) 273 rfl ?_
  refine g_iload X78 at_273 rfl 275 rfl ?_
  refine g_iadd X78 at_275 (34 : Int32) (by decide) 276 rfl ?_
  refine g_bipush X78 (32 : Int32) at_276 (by decide) 278 rfl ?_
  refine g_callSp X78 (hw _ (List.mem_of_getElem? (i := 243) rfl)) (hw _ (List.mem_of_getElem? (i := 244) rfl)) (hw _ (List.mem_of_getElem? (i := 2) rfl)) (hw _ (List.mem_of_getElem? (i := 245) rfl)) (by decide) (c_at l Z a0 G r23 t32 kb33 (msgL ([] : List Int32) [k3 &&& (255 : Int32)]) 34 (32 : Int32) h19 e34 f35 f36 kc37 b38 l39 (Nat.le_of_ble_eq_true rfl) rfl) (by simp) (argsL := [.ref r23, .int (34 : Int32), .int (32 : Int32)]) (rest := []) pd_3 rfl rfl rfl rfl 0 (Nat.le_of_eq rfl) (by decide) (by decide) (ck := 21) rfl (cs := 3257) rfl (by decide) (by decide) at_278 281 rfl ?_
  intro w83 T81 X82 hq84
  subst hq84
  refine g_ifNo X82 at_281 (XT.ii_eq_f (by decide)) 284 rfl ?_
  refine g_aload X82 at_284 rfl rfl 286 rfl ?_
  refine g_bipush X82 (60 : Int32) at_286 (by decide) 288 rfl ?_
  refine g_iload X82 at_288 rfl 290 rfl ?_
  refine g_iadd X82 at_290 (60 : Int32) (by decide) 291 rfl ?_
  refine g_iload X82 at_291 rfl 293 rfl ?_
  refine g_iadd X82 at_293 (61 : Int32) (by decide) 294 rfl ?_
  refine g_bipush X82 (101 : Int32) at_294 (by decide) 296 rfl ?_
  refine g_callSp X82 (hw _ (List.mem_of_getElem? (i := 243) rfl)) (hw _ (List.mem_of_getElem? (i := 244) rfl)) (hw _ (List.mem_of_getElem? (i := 2) rfl)) (hw _ (List.mem_of_getElem? (i := 245) rfl)) (by decide) (c_at l Z a0 G r23 t32 kb33 (msgL ([] : List Int32) [k3 &&& (255 : Int32)]) 61 (101 : Int32) h19 e34 f35 f36 kc37 b38 l39 (Nat.le_of_ble_eq_true rfl) rfl) (by simp) (argsL := [.ref r23, .int (61 : Int32), .int (101 : Int32)]) (rest := []) pd_3 rfl rfl rfl rfl 0 (Nat.le_of_eq rfl) (by decide) (by decide) (ck := 21) rfl (cs := 3257) rfl (by decide) (by decide) at_296 299 rfl ?_
  intro w87 T85 X86 hq88
  subst hq88
  refine g_ifNo X86 at_299 (XT.ii_eq_f (by decide)) 302 rfl ?_
  refine g_iconst X86 (1 : Int32) at_302 (by decide) 303 rfl ?_
  refine g_goto X86 at_303 307 (by decide) (by decide) ?_
  refine g_istore X86 at_307 (Ls' := #[.val (.int k0), .val (.int k1), .val (.int k2), .val (.int k3), .val (.int k4), .val (.int (0 : Int32)), .val (.int (1 : Int32)), .val (.int (k1 &&& (255 : Int32))), .val (.int (k2 &&& (255 : Int32))), .val (.int (k3 &&& (255 : Int32))), .val (.int (k4 &&& (255 : Int32))), .val (.ref s6), .val (.ref s14), .val (.ref r23), .val (.int (1 : Int32))]) rfl 309 rfl ?_
  refine g_iload X86 at_309 rfl 311 rfl ?_
  refine g_iconst X86 (1 : Int32) at_311 (by decide) 312 rfl ?_
  refine g_icmpYes X86 at_312 (XT.ii_lt_t (by decide)) 339 (by decide) (by decide) ?_
  refine g_iload X86 at_339 rfl 341 rfl ?_
  refine g_iconst X86 (2 : Int32) at_341 (by decide) 342 rfl ?_
  refine g_icmpYes X86 at_342 (XT.ii_ne_t (by decide)) 369 (by decide) (by decide) ?_
  refine g_iload X86 at_369 rfl 371 rfl ?_
  refine g_iconst X86 (1 : Int32) at_371 (by decide) 372 rfl ?_
  refine g_icmpNo X86 at_372 (XT.ii_lt_f (by decide)) 375 rfl ?_
  refine g_iload X86 at_375 rfl 377 rfl ?_
  refine g_ifNo X86 at_377 (XT.ii_eq_f (by decide)) 380 rfl ?_
  refine g_aload X86 at_380 rfl rfl 382 rfl ?_
  refine g_bipush X86 (31 : Int32) at_382 (by decide) 384 rfl ?_
  refine g_iload X86 at_384 rfl 386 rfl ?_
  refine g_iadd X86 at_386 (31 : Int32) (by decide) 387 rfl ?_
  refine g_iload X86 at_387 rfl 389 rfl ?_
  refine g_callSp X86 (hw _ (List.mem_of_getElem? (i := 243) rfl)) (hw _ (List.mem_of_getElem? (i := 244) rfl)) (hw _ (List.mem_of_getElem? (i := 2) rfl)) (hw _ (List.mem_of_getElem? (i := 245) rfl)) (by decide) (c_at l Z a0 G r23 t32 kb33 (msgL ([] : List Int32) [k3 &&& (255 : Int32)]) 31 (k3 &&& (255 : Int32)) h19 e34 f35 f36 kc37 b38 l39 (Nat.le_of_ble_eq_true rfl) rfl) (by simp) (argsL := [.ref r23, .int (31 : Int32), .int (k3 &&& (255 : Int32))]) (rest := []) pd_3 rfl rfl rfl rfl 0 (Nat.le_of_eq rfl) (by decide) (by decide) (ck := 21) rfl (cs := 3257) rfl (by decide) (by decide) at_389 392 rfl ?_
  intro w91 T89 X90 hq92
  subst hq92
  refine g_ifNo X90 at_392 (XT.ii_eq_f (by decide)) 395 rfl ?_
  refine g_iconst X90 (1 : Int32) at_395 (by decide) 396 rfl ?_
  refine g_goto X90 at_396 400 (by decide) (by decide) ?_
  refine g_istore X90 at_400 (Ls' := #[.val (.int k0), .val (.int k1), .val (.int k2), .val (.int k3), .val (.int k4), .val (.int (0 : Int32)), .val (.int (1 : Int32)), .val (.int (k1 &&& (255 : Int32))), .val (.int (k2 &&& (255 : Int32))), .val (.int (k3 &&& (255 : Int32))), .val (.int (k4 &&& (255 : Int32))), .val (.ref s6), .val (.ref s14), .val (.ref r23), .val (.int (1 : Int32))]) rfl 402 rfl ?_
  refine g_iload X90 at_402 rfl 404 rfl ?_
  refine g_iconst X90 (2 : Int32) at_404 (by decide) 405 rfl ?_
  refine g_icmpYes X90 at_405 (XT.ii_ne_t (by decide)) 435 (by decide) (by decide) ?_
  refine g_iload X90 at_435 rfl 437 rfl ?_
  exact g_retN X90 (t := .boolean) rfl (by simp) at_437 _ rfl (by decide) (by decide) rfl
set_option maxRecDepth 65536 in
set_option maxHeartbeats 40000000 in
theorem c_law02 (l : Launch) (Z : State) (a0 : Array Value) (G : Gl Z a0) (hst : l.stackTraces = true) (k0 k1 k2 k3 k4 : Int32) (h : Heap) (e5 : (k0 &&& (255 : Int32)) % (3 : Int32) = 0) (e6 : (XT.ushr k0 (8 : Int32) &&& (255 : Int32)) % (3 : Int32) = 2) :
    CtrK KnownL l Z EL nw x code maxLocals ret room_1 #[.int k0, .int k1, .int k2, .int k3, .int k4] h [] (fun v _ => v = some (.int 1)) := by
  obtain ⟨hw, hEL, hSA, ⟨zc, SC, hz⟩, ⟨fm, SF, hfm⟩, ⟨u0, SUn⟩, ⟨sp, SP, hsp⟩⟩ := id G
  refine CtrK.enter (K := KnownL) (own := "com/example/capsa/capsa/BeanNameInUseExceptionAliasPinLaw") (nm := "law") rfl rfl hEL (plainFor_of_name pn_7) #[.val (.int k0), .val (.int k1), .val (.int k2), .val (.int k3), .val (.int k4), .unset, .unset, .unset, .unset, .unset, .unset, .unset, .unset, .unset, .unset] (fun m => entry1 m _ _ (by simp [Value.category]) rfl) ?_
  intro p e s m below meth c T hfr hK hZs X
  obtain ⟨as0, hfr⟩ := hfr
  have hkn : KnownK below s := ⟨MethodsKnown_of_tablesKnown hK.2, FramesKnown_of_framesKnown hK.1 hfr⟩
  refine g_iloadN X at_0 rfl 1 rfl ?_
  refine g_sipush X (255 : Int32) at_1 (by decide) 4 rfl ?_
  refine g_iand X at_4 _ rfl 5 rfl ?_
  refine g_iconst X (3 : Int32) at_5 (by decide) 6 rfl ?_
  refine g_irem X at_6 (by decide) (0 : Int32) e5 7 rfl ?_
  refine g_istore X at_7 (Ls' := #[.val (.int k0), .val (.int k1), .val (.int k2), .val (.int k3), .val (.int k4), .val (.int (0 : Int32)), .unset, .unset, .unset, .unset, .unset, .unset, .unset, .unset, .unset]) rfl 9 rfl ?_
  refine g_iloadN X at_9 rfl 10 rfl ?_
  refine g_bipush X (8 : Int32) at_10 (by decide) 12 rfl ?_
  refine g_iushr X at_12 _ rfl 13 rfl ?_
  refine g_sipush X (255 : Int32) at_13 (by decide) 16 rfl ?_
  refine g_iand X at_16 _ rfl 17 rfl ?_
  refine g_iconst X (3 : Int32) at_17 (by decide) 18 rfl ?_
  refine g_irem X at_18 (by decide) (2 : Int32) e6 19 rfl ?_
  refine g_istore X at_19 (Ls' := #[.val (.int k0), .val (.int k1), .val (.int k2), .val (.int k3), .val (.int k4), .val (.int (0 : Int32)), .val (.int (2 : Int32)), .unset, .unset, .unset, .unset, .unset, .unset, .unset, .unset]) rfl 21 rfl ?_
  refine g_iloadN X at_21 rfl 22 rfl ?_
  refine g_sipush X (255 : Int32) at_22 (by decide) 25 rfl ?_
  refine g_iand X at_25 _ rfl 26 rfl ?_
  refine g_i2c X at_26 (k1 &&& (255 : Int32)) (i2c_mask _) 27 rfl ?_
  refine g_istore X at_27 (Ls' := #[.val (.int k0), .val (.int k1), .val (.int k2), .val (.int k3), .val (.int k4), .val (.int (0 : Int32)), .val (.int (2 : Int32)), .val (.int (k1 &&& (255 : Int32))), .unset, .unset, .unset, .unset, .unset, .unset, .unset]) rfl 29 rfl ?_
  refine g_iloadN X at_29 rfl 30 rfl ?_
  refine g_sipush X (255 : Int32) at_30 (by decide) 33 rfl ?_
  refine g_iand X at_33 _ rfl 34 rfl ?_
  refine g_i2c X at_34 (k2 &&& (255 : Int32)) (i2c_mask _) 35 rfl ?_
  refine g_istore X at_35 (Ls' := #[.val (.int k0), .val (.int k1), .val (.int k2), .val (.int k3), .val (.int k4), .val (.int (0 : Int32)), .val (.int (2 : Int32)), .val (.int (k1 &&& (255 : Int32))), .val (.int (k2 &&& (255 : Int32))), .unset, .unset, .unset, .unset, .unset, .unset]) rfl 37 rfl ?_
  refine g_iloadN X at_37 rfl 38 rfl ?_
  refine g_sipush X (255 : Int32) at_38 (by decide) 41 rfl ?_
  refine g_iand X at_41 _ rfl 42 rfl ?_
  refine g_i2c X at_42 (k3 &&& (255 : Int32)) (i2c_mask _) 43 rfl ?_
  refine g_istore X at_43 (Ls' := #[.val (.int k0), .val (.int k1), .val (.int k2), .val (.int k3), .val (.int k4), .val (.int (0 : Int32)), .val (.int (2 : Int32)), .val (.int (k1 &&& (255 : Int32))), .val (.int (k2 &&& (255 : Int32))), .val (.int (k3 &&& (255 : Int32))), .unset, .unset, .unset, .unset, .unset]) rfl 45 rfl ?_
  refine g_iload X at_45 rfl 47 rfl ?_
  refine g_sipush X (255 : Int32) at_47 (by decide) 50 rfl ?_
  refine g_iand X at_50 _ rfl 51 rfl ?_
  refine g_i2c X at_51 (k4 &&& (255 : Int32)) (i2c_mask _) 52 rfl ?_
  refine g_istore X at_52 (Ls' := #[.val (.int k0), .val (.int k1), .val (.int k2), .val (.int k3), .val (.int k4), .val (.int (0 : Int32)), .val (.int (2 : Int32)), .val (.int (k1 &&& (255 : Int32))), .val (.int (k2 &&& (255 : Int32))), .val (.int (k3 &&& (255 : Int32))), .val (.int (k4 &&& (255 : Int32))), .unset, .unset, .unset, .unset]) rfl 54 rfl ?_
  refine g_iload X at_54 rfl 56 rfl ?_
  refine g_iload X at_56 rfl 58 rfl ?_
  refine g_iload X at_58 rfl 60 rfl ?_
  refine g_callSv X (hw _ (List.mem_of_getElem? (i := 0) rfl)) (hw _ (List.mem_of_getElem? (i := 1) rfl)) (hw _ (List.mem_of_getElem? (i := 2) rfl)) (hw _ (List.mem_of_getElem? (i := 3) rfl)) (by decide) (c_str0 l Z a0 G k1 k2 ([]) h) (fun _ q => q) (argsL := [.int (0 : Int32), .int (k1 &&& (255 : Int32)), .int (k2 &&& (255 : Int32))]) (rest := []) pd_0 rfl rfl rfl rfl 0 (Nat.le_of_eq rfl) (by decide) (by decide) (ck := 4) rfl (cs := 8) rfl (by decide) (by decide) at_60 63 rfl ?_
  intro w3 T1 h5 X2 hq4
  obtain ⟨s6, rfl, E7, S8⟩ := hq4
  refine g_astore X2 at_63 rfl (Ls' := #[.val (.int k0), .val (.int k1), .val (.int k2), .val (.int k3), .val (.int k4), .val (.int (0 : Int32)), .val (.int (2 : Int32)), .val (.int (k1 &&& (255 : Int32))), .val (.int (k2 &&& (255 : Int32))), .val (.int (k3 &&& (255 : Int32))), .val (.int (k4 &&& (255 : Int32))), .val (.ref s6), .unset, .unset, .unset]) rfl 65 rfl ?_
  refine g_iload X2 at_65 rfl 67 rfl ?_
  refine g_iload X2 at_67 rfl 69 rfl ?_
  refine g_iload X2 at_69 rfl 71 rfl ?_
  refine g_callSv X2 (hw _ (List.mem_of_getElem? (i := 0) rfl)) (hw _ (List.mem_of_getElem? (i := 1) rfl)) (hw _ (List.mem_of_getElem? (i := 2) rfl)) (hw _ (List.mem_of_getElem? (i := 3) rfl)) (by decide) (c_str2 l Z a0 G k3 k4 ([]) h5) (fun _ q => q) (argsL := [.int (2 : Int32), .int (k3 &&& (255 : Int32)), .int (k4 &&& (255 : Int32))]) (rest := []) pd_0 rfl rfl rfl rfl 0 (Nat.le_of_eq rfl) (by decide) (by decide) (ck := 7) rfl (cs := 16) rfl (by decide) (by decide) at_71 74 rfl ?_
  intro w11 T9 h13 X10 hq12
  obtain ⟨s14, rfl, E15, S16⟩ := hq12
  refine g_astore X10 at_74 rfl (Ls' := #[.val (.int k0), .val (.int k1), .val (.int k2), .val (.int k3), .val (.int k4), .val (.int (0 : Int32)), .val (.int (2 : Int32)), .val (.int (k1 &&& (255 : Int32))), .val (.int (k2 &&& (255 : Int32))), .val (.int (k3 &&& (255 : Int32))), .val (.int (k4 &&& (255 : Int32))), .val (.ref s6), .val (.ref s14), .unset, .unset]) rfl 76 rfl ?_
  refine g_aload X10 at_76 rfl rfl 78 rfl ?_
  refine g_aload X10 at_78 rfl rfl 80 rfl ?_
  refine g_callSvK X10 hkn (hw _ (List.mem_of_getElem? (i := 26) rfl)) (hw _ (List.mem_of_getElem? (i := 27) rfl)) (hw _ (List.mem_of_getElem? (i := 28) rfl)) (hw _ (List.mem_of_getElem? (i := 29) rfl)) (by decide) (c_al02 l Z a0 G hst s6 s14 ([]) 0 0 (k3 &&& (255 : Int32)) (k4 &&& (255 : Int32)) h13 (S8.ext E15) S16) (fun _ q => q) (argsL := [.ref s6, .ref s14]) (rest := []) pd_1 rfl rfl rfl rfl 0 (Nat.le_of_eq rfl) (by decide) (by decide) (ck := 21) rfl (cs := 3259) rfl (by decide) (by decide) at_80 83 rfl ?_
  intro w17 T18 h19 X20 hq21
  obtain ⟨j22, r23, rfl, E24, A25, F26, S27⟩ := hq21
  refine g_callWp X20 (owner := "java/lang/Throwable") (hw _ (List.mem_of_getElem? (i := 225) rfl)) (hw _ (List.mem_of_getElem? (i := 226) rfl)) (hw _ (List.mem_of_getElem? (i := 227) rfl)) (hw _ (List.mem_of_getElem? (i := 229) rfl)) (hw _ (List.mem_of_getElem? (i := 228) rfl)) (hw _ (List.mem_of_getElem? (i := 186) rfl)) (hw _ (List.mem_of_getElem? (i := 230) rfl)) (by decide) A25 (c_gm l Z a0 G j22 r23 h19 F26) (by simp) (argsL := []) (rest := []) pd_21 rfl rfl rfl rfl 0 (Nat.le_of_eq rfl) (by decide) (by decide) (ck := 21) rfl (cs := 3259) rfl (by decide) (by decide) at_83 86 rfl ?_
  intro w28 T29 X30 hq31
  subst hq31
  refine g_astore X30 at_86 rfl (Ls' := #[.val (.int k0), .val (.int k1), .val (.int k2), .val (.int k3), .val (.int k4), .val (.int (0 : Int32)), .val (.int (2 : Int32)), .val (.int (k1 &&& (255 : Int32))), .val (.int (k2 &&& (255 : Int32))), .val (.int (k3 &&& (255 : Int32))), .val (.int (k4 &&& (255 : Int32))), .val (.ref s6), .val (.ref s14), .val (.ref r23), .unset]) rfl 88 rfl ?_
  refine g_aload X30 at_88 rfl rfl 90 rfl ?_
  refine g_ifnonnullYes X30 at_90 95 (by decide) (by decide) ?_
  refine g_aload X30 at_95 rfl rfl 97 rfl ?_
  obtain ⟨t32, kb33, e34, f35, f36, kc37, b38, l39, n40⟩ := id S27
  refine g_callVp X30 (hw _ (List.mem_of_getElem? (i := 231) rfl)) (hw _ (List.mem_of_getElem? (i := 62) rfl)) (hw _ (List.mem_of_getElem? (i := 64) rfl)) (hw _ (List.mem_of_getElem? (i := 63) rfl)) (hw _ (List.mem_of_getElem? (i := 6) rfl)) (hw _ (List.mem_of_getElem? (i := 65) rfl)) (nfSel (hw _ (List.mem_of_getElem? (i := 64) rfl))) (by decide) e34 (c_len l Z a0 G r23 t32 kb33 (msgL ([] : List Int32) [k3 &&& (255 : Int32), k4 &&& (255 : Int32)]) h19 e34 f35 f36 kc37 b38 l39) (by simp) (argsL := []) (rest := []) pd_5 rfl rfl rfl rfl 0 (Nat.le_of_eq rfl) (by decide) (by decide) (ck := 21) rfl (cs := 3259) rfl (by decide) (by decide) at_97 100 rfl ?_
  intro w43 T41 X42 hq44
  subst hq44
  refine g_bipush X42 (61 : Int32) at_100 (by decide) 102 rfl ?_
  refine g_iload X42 at_102 rfl 104 rfl ?_
  refine g_iadd X42 at_104 (61 : Int32) (by decide) 105 rfl ?_
  refine g_iload X42 at_105 rfl 107 rfl ?_
  refine g_iadd X42 at_107 (63 : Int32) (by decide) 108 rfl ?_
  refine g_icmpYes X42 at_108 (XT.ii_eq_t rfl) 113 (by decide) (by decide) ?_
  refine g_iload X42 at_113 rfl 115 rfl ?_
  refine g_ifNo X42 at_115 (XT.ii_ne_f (by decide)) 118 rfl ?_
  refine g_iload X42 at_118 rfl 120 rfl ?_
  refine g_ifYes X42 at_120 (XT.ii_ne_t (by decide)) 135 (by decide) (by decide) ?_
  refine g_aload X42 at_135 rfl rfl 137 rfl ?_
  refine g_iconst X42 (0 : Int32) at_137 (by decide) 138 rfl ?_
  refine g_bipush X42 (67 : Int32) at_138 (by decide) 140 rfl ?_
  refine g_callSp X42 (hw _ (List.mem_of_getElem? (i := 243) rfl)) (hw _ (List.mem_of_getElem? (i := 244) rfl)) (hw _ (List.mem_of_getElem? (i := 2) rfl)) (hw _ (List.mem_of_getElem? (i := 245) rfl)) (by decide) (c_at l Z a0 G r23 t32 kb33 (msgL ([] : List Int32) [k3 &&& (255 : Int32), k4 &&& (255 : Int32)]) 0 (67 : Int32) h19 e34 f35 f36 kc37 b38 l39 (Nat.le_of_ble_eq_true rfl) rfl) (by simp) (argsL := [.ref r23, .int (0 : Int32), .int (67 : Int32)]) (rest := []) pd_3 rfl rfl rfl rfl 0 (Nat.le_of_eq rfl) (by decide) (by decide) (ck := 21) rfl (cs := 3259) rfl (by decide) (by decide) at_140 143 rfl ?_
  intro w47 T45 X46 hq48
  subst hq48
  refine g_ifNo X46 at_143 (XT.ii_eq_f (by decide)) 146 rfl ?_
  refine g_aload X46 at_146 rfl rfl 148 rfl ?_
  refine g_bipush X46 (16 : Int32) at_148 (by decide) 150 rfl ?_
  refine g_bipush X46 (32 : Int32) at_150 (by decide) 152 rfl ?_
  refine g_callSp X46 (hw _ (List.mem_of_getElem? (i := 243) rfl)) (hw _ (List.mem_of_getElem? (i := 244) rfl)) (hw _ (List.mem_of_getElem? (i := 2) rfl)) (hw _ (List.mem_of_getElem? (i := 245) rfl)) (by decide) (c_at l Z a0 G r23 t32 kb33 (msgL ([] : List Int32) [k3 &&& (255 : Int32), k4 &&& (255 : Int32)]) 16 (32 : Int32) h19 e34 f35 f36 kc37 b38 l39 (Nat.le_of_ble_eq_true rfl) rfl) (by simp) (argsL := [.ref r23, .int (16 : Int32), .int (32 : Int32)]) (rest := []) pd_3 rfl rfl rfl rfl 0 (Nat.le_of_eq rfl) (by decide) (by decide) (ck := 21) rfl (cs := 3259) rfl (by decide) (by decide) at_152 155 rfl ?_
  intro w51 T49 X50 hq52
  subst hq52
  refine g_ifNo X50 at_155 (XT.ii_eq_f (by decide)) 158 rfl ?_
  refine g_aload X50 at_158 rfl rfl 160 rfl ?_
  refine g_bipush X50 (17 : Int32) at_160 (by decide) 162 rfl ?_
  refine g_bipush X50 (34 : Int32) at_162 (by decide) 164 rfl ?_
  refine g_callSp X50 (hw _ (List.mem_of_getElem? (i := 243) rfl)) (hw _ (List.mem_of_getElem? (i := 244) rfl)) (hw _ (List.mem_of_getElem? (i := 2) rfl)) (hw _ (List.mem_of_getElem? (i := 245) rfl)) (by decide) (c_at l Z a0 G r23 t32 kb33 (msgL ([] : List Int32) [k3 &&& (255 : Int32), k4 &&& (255 : Int32)]) 17 (34 : Int32) h19 e34 f35 f36 kc37 b38 l39 (Nat.le_of_ble_eq_true rfl) rfl) (by simp) (argsL := [.ref r23, .int (17 : Int32), .int (34 : Int32)]) (rest := []) pd_3 rfl rfl rfl rfl 0 (Nat.le_of_eq rfl) (by decide) (by decide) (ck := 21) rfl (cs := 3259) rfl (by decide) (by decide) at_164 167 rfl ?_
  intro w55 T53 X54 hq56
  subst hq56
  refine g_ifNo X54 at_167 (XT.ii_eq_f (by decide)) 170 rfl ?_
  refine g_aload X54 at_170 rfl rfl 172 rfl ?_
  refine g_bipush X54 (18 : Int32) at_172 (by decide) 174 rfl ?_
  refine g_iload X54 at_174 rfl 176 rfl ?_
  refine g_iadd X54 at_176 (18 : Int32) (by decide) 177 rfl ?_
  refine g_bipush X54 (34 : Int32) at_177 (by decide) 179 rfl ?_
  refine g_callSp X54 (hw _ (List.mem_of_getElem? (i := 243) rfl)) (hw _ (List.mem_of_getElem? (i := 244) rfl)) (hw _ (List.mem_of_getElem? (i := 2) rfl)) (hw _ (List.mem_of_getElem? (i := 245) rfl)) (by decide) (c_at l Z a0 G r23 t32 kb33 (msgL ([] : List Int32) [k3 &&& (255 : Int32), k4 &&& (255 : Int32)]) 18 (34 : Int32) h19 e34 f35 f36 kc37 b38 l39 (Nat.le_of_ble_eq_true rfl) rfl) (by simp) (argsL := [.ref r23, .int (18 : Int32), .int (34 : Int32)]) (rest := []) pd_3 rfl rfl rfl rfl 0 (Nat.le_of_eq rfl) (by decide) (by decide) (ck := 21) rfl (cs := 3259) rfl (by decide) (by decide) at_179 182 rfl ?_
  intro w59 T57 X58 hq60
  subst hq60
  refine g_ifNo X58 at_182 (XT.ii_eq_f (by decide)) 185 rfl ?_
  refine g_aload X58 at_185 rfl rfl 187 rfl ?_
  refine g_bipush X58 (19 : Int32) at_187 (by decide) 189 rfl ?_
  refine g_iload X58 at_189 rfl 191 rfl ?_
  refine g_iadd X58 at_191 (19 : Int32) (by decide) 192 rfl ?_
  refine g_bipush X58 (32 : Int32) at_192 (by decide) 194 rfl ?_
  refine g_callSp X58 (hw _ (List.mem_of_getElem? (i := 243) rfl)) (hw _ (List.mem_of_getElem? (i := 244) rfl)) (hw _ (List.mem_of_getElem? (i := 2) rfl)) (hw _ (List.mem_of_getElem? (i := 245) rfl)) (by decide) (c_at l Z a0 G r23 t32 kb33 (msgL ([] : List Int32) [k3 &&& (255 : Int32), k4 &&& (255 : Int32)]) 19 (32 : Int32) h19 e34 f35 f36 kc37 b38 l39 (Nat.le_of_ble_eq_true rfl) rfl) (by simp) (argsL := [.ref r23, .int (19 : Int32), .int (32 : Int32)]) (rest := []) pd_3 rfl rfl rfl rfl 0 (Nat.le_of_eq rfl) (by decide) (by decide) (ck := 21) rfl (cs := 3259) rfl (by decide) (by decide) at_194 197 rfl ?_
  intro w63 T61 X62 hq64
  subst hq64
  refine g_ifNo X62 at_197 (XT.ii_eq_f (by decide)) 200 rfl ?_
  refine g_aload X62 at_200 rfl rfl 202 rfl ?_
  refine g_bipush X62 (29 : Int32) at_202 (by decide) 204 rfl ?_
  refine g_iload X62 at_204 rfl 206 rfl ?_
  refine g_iadd X62 at_206 (29 : Int32) (by decide) 207 rfl ?_
  refine g_bipush X62 (32 : Int32) at_207 (by decide) 209 rfl ?_
  refine g_callSp X62 (hw _ (List.mem_of_getElem? (i := 243) rfl)) (hw _ (List.mem_of_getElem? (i := 244) rfl)) (hw _ (List.mem_of_getElem? (i := 2) rfl)) (hw _ (List.mem_of_getElem? (i := 245) rfl)) (by decide) (c_at l Z a0 G r23 t32 kb33 (msgL ([] : List Int32) [k3 &&& (255 : Int32), k4 &&& (255 : Int32)]) 29 (32 : Int32) h19 e34 f35 f36 kc37 b38 l39 (Nat.le_of_ble_eq_true rfl) rfl) (by simp) (argsL := [.ref r23, .int (29 : Int32), .int (32 : Int32)]) (rest := []) pd_3 rfl rfl rfl rfl 0 (Nat.le_of_eq rfl) (by decide) (by decide) (ck := 21) rfl (cs := 3259) rfl (by decide) (by decide) at_209 212 rfl ?_
  intro w67 T65 X66 hq68
  subst hq68
  refine g_ifNo X66 at_212 (XT.ii_eq_f (by decide)) 215 rfl ?_
  refine g_aload X66 at_215 rfl rfl 217 rfl ?_
  refine g_bipush X66 (30 : Int32) at_217 (by decide) 219 rfl ?_
  refine g_iload X66 at_219 rfl 221 rfl ?_
  refine g_iadd X66 at_221 (30 : Int32) (by decide) 222 rfl ?_
  refine g_bipush X66 (34 : Int32) at_222 (by decide) 224 rfl ?_
  refine g_callSp X66 (hw _ (List.mem_of_getElem? (i := 243) rfl)) (hw _ (List.mem_of_getElem? (i := 244) rfl)) (hw _ (List.mem_of_getElem? (i := 2) rfl)) (hw _ (List.mem_of_getElem? (i := 245) rfl)) (by decide) (c_at l Z a0 G r23 t32 kb33 (msgL ([] : List Int32) [k3 &&& (255 : Int32), k4 &&& (255 : Int32)]) 30 (34 : Int32) h19 e34 f35 f36 kc37 b38 l39 (Nat.le_of_ble_eq_true rfl) rfl) (by simp) (argsL := [.ref r23, .int (30 : Int32), .int (34 : Int32)]) (rest := []) pd_3 rfl rfl rfl rfl 0 (Nat.le_of_eq rfl) (by decide) (by decide) (ck := 21) rfl (cs := 3259) rfl (by decide) (by decide) at_224 227 rfl ?_
  intro w71 T69 X70 hq72
  subst hq72
  refine g_ifNo X70 at_227 (XT.ii_eq_f (by decide)) 230 rfl ?_
  refine g_aload X70 at_230 rfl rfl 232 rfl ?_
  refine g_bipush X70 (31 : Int32) at_232 (by decide) 234 rfl ?_
  refine g_iload X70 at_234 rfl 236 rfl ?_
  refine g_iadd X70 at_236 (31 : Int32) (by decide) 237 rfl ?_
  refine g_iload X70 at_237 rfl 239 rfl ?_
  refine g_iadd X70 at_239 (33 : Int32) (by decide) 240 rfl ?_
  refine g_bipush X70 (34 : Int32) at_240 (by decide) 242 rfl ?_
  refine g_callSp X70 (hw _ (List.mem_of_getElem? (i := 243) rfl)) (hw _ (List.mem_of_getElem? (i := 244) rfl)) (hw _ (List.mem_of_getElem? (i := 2) rfl)) (hw _ (List.mem_of_getElem? (i := 245) rfl)) (by decide) (c_at l Z a0 G r23 t32 kb33 (msgL ([] : List Int32) [k3 &&& (255 : Int32), k4 &&& (255 : Int32)]) 33 (34 : Int32) h19 e34 f35 f36 kc37 b38 l39 (Nat.le_of_ble_eq_true rfl) rfl) (by simp) (argsL := [.ref r23, .int (33 : Int32), .int (34 : Int32)]) (rest := []) pd_3 rfl rfl rfl rfl 0 (Nat.le_of_eq rfl) (by decide) (by decide) (ck := 21) rfl (cs := 3259) rfl (by decide) (by decide) at_242 245 rfl ?_
  intro w75 T73 X74 hq76
  subst hq76
  refine g_ifNo X74 at_245 (XT.ii_eq_f (by decide)) 248 rfl ?_
  refine g_aload X74 at_248 rfl rfl 250 rfl ?_
  refine g_bipush X74 (32 : Int32) at_250 (by decide) 252 rfl ?_
  refine g_iload X74 at_252 rfl 254 rfl ?_
  refine g_iadd X74 at_254 (32 : Int32) (by decide) 255 rfl ?_
  refine g_iload X74 at_255 rfl 257 rfl ?_
  refine g_iadd X74 at_257 (34 : Int32) (by decide) 258 rfl ?_
  refine g_bipush X74 (58 : Int32) at_258 (by decide) 260 rfl ?_
  refine g_callSp X74 (hw _ (List.mem_of_getElem? (i := 243) rfl)) (hw _ (List.mem_of_getElem? (i := 244) rfl)) (hw _ (List.mem_of_getElem? (i := 2) rfl)) (hw _ (List.mem_of_getElem? (i := 245) rfl)) (by decide) (c_at l Z a0 G r23 t32 kb33 (msgL ([] : List Int32) [k3 &&& (255 : Int32), k4 &&& (255 : Int32)]) 34 (58 : Int32) h19 e34 f35 f36 kc37 b38 l39 (Nat.le_of_ble_eq_true rfl) rfl) (by simp) (argsL := [.ref r23, .int (34 : Int32), .int (58 : Int32)]) (rest := []) pd_3 rfl rfl rfl rfl 0 (Nat.le_of_eq rfl) (by decide) (by decide) (ck := 21) rfl (cs := 3259) rfl (by decide) (by decide) at_260 263 rfl ?_
  intro w79 T77 X78 hq80
  subst hq80
  refine g_ifNo X78 at_263 (XT.ii_eq_f (by decide)) 266 rfl ?_
  refine g_aload X78 at_266 rfl rfl 268 rfl ?_
  refine g_bipush X78 (33 : Int32) at_268 (by decide) 270 rfl ?_
  refine g_iload X78 at_270 rfl 272 rfl ?_
  refine g_iadd X78 at_272 (33 : Int32) (by decide) 273 rfl ?_
  refine g_iload X78 at_273 rfl 275 rfl ?_
  refine g_iadd X78 at_275 (35 : Int32) (by decide) 276 rfl ?_
  refine g_bipush X78 (32 : Int32) at_276 (by decide) 278 rfl ?_
  refine g_callSp X78 (hw _ (List.mem_of_getElem? (i := 243) rfl)) (hw _ (List.mem_of_getElem? (i := 244) rfl)) (hw _ (List.mem_of_getElem? (i := 2) rfl)) (hw _ (List.mem_of_getElem? (i := 245) rfl)) (by decide) (c_at l Z a0 G r23 t32 kb33 (msgL ([] : List Int32) [k3 &&& (255 : Int32), k4 &&& (255 : Int32)]) 35 (32 : Int32) h19 e34 f35 f36 kc37 b38 l39 (Nat.le_of_ble_eq_true rfl) rfl) (by simp) (argsL := [.ref r23, .int (35 : Int32), .int (32 : Int32)]) (rest := []) pd_3 rfl rfl rfl rfl 0 (Nat.le_of_eq rfl) (by decide) (by decide) (ck := 21) rfl (cs := 3259) rfl (by decide) (by decide) at_278 281 rfl ?_
  intro w83 T81 X82 hq84
  subst hq84
  refine g_ifNo X82 at_281 (XT.ii_eq_f (by decide)) 284 rfl ?_
  refine g_aload X82 at_284 rfl rfl 286 rfl ?_
  refine g_bipush X82 (60 : Int32) at_286 (by decide) 288 rfl ?_
  refine g_iload X82 at_288 rfl 290 rfl ?_
  refine g_iadd X82 at_290 (60 : Int32) (by decide) 291 rfl ?_
  refine g_iload X82 at_291 rfl 293 rfl ?_
  refine g_iadd X82 at_293 (62 : Int32) (by decide) 294 rfl ?_
  refine g_bipush X82 (101 : Int32) at_294 (by decide) 296 rfl ?_
  refine g_callSp X82 (hw _ (List.mem_of_getElem? (i := 243) rfl)) (hw _ (List.mem_of_getElem? (i := 244) rfl)) (hw _ (List.mem_of_getElem? (i := 2) rfl)) (hw _ (List.mem_of_getElem? (i := 245) rfl)) (by decide) (c_at l Z a0 G r23 t32 kb33 (msgL ([] : List Int32) [k3 &&& (255 : Int32), k4 &&& (255 : Int32)]) 62 (101 : Int32) h19 e34 f35 f36 kc37 b38 l39 (Nat.le_of_ble_eq_true rfl) rfl) (by simp) (argsL := [.ref r23, .int (62 : Int32), .int (101 : Int32)]) (rest := []) pd_3 rfl rfl rfl rfl 0 (Nat.le_of_eq rfl) (by decide) (by decide) (ck := 21) rfl (cs := 3259) rfl (by decide) (by decide) at_296 299 rfl ?_
  intro w87 T85 X86 hq88
  subst hq88
  refine g_ifNo X86 at_299 (XT.ii_eq_f (by decide)) 302 rfl ?_
  refine g_iconst X86 (1 : Int32) at_302 (by decide) 303 rfl ?_
  refine g_goto X86 at_303 307 (by decide) (by decide) ?_
  refine g_istore X86 at_307 (Ls' := #[.val (.int k0), .val (.int k1), .val (.int k2), .val (.int k3), .val (.int k4), .val (.int (0 : Int32)), .val (.int (2 : Int32)), .val (.int (k1 &&& (255 : Int32))), .val (.int (k2 &&& (255 : Int32))), .val (.int (k3 &&& (255 : Int32))), .val (.int (k4 &&& (255 : Int32))), .val (.ref s6), .val (.ref s14), .val (.ref r23), .val (.int (1 : Int32))]) rfl 309 rfl ?_
  refine g_iload X86 at_309 rfl 311 rfl ?_
  refine g_iconst X86 (1 : Int32) at_311 (by decide) 312 rfl ?_
  refine g_icmpYes X86 at_312 (XT.ii_lt_t (by decide)) 339 (by decide) (by decide) ?_
  refine g_iload X86 at_339 rfl 341 rfl ?_
  refine g_iconst X86 (2 : Int32) at_341 (by decide) 342 rfl ?_
  refine g_icmpYes X86 at_342 (XT.ii_ne_t (by decide)) 369 (by decide) (by decide) ?_
  refine g_iload X86 at_369 rfl 371 rfl ?_
  refine g_iconst X86 (1 : Int32) at_371 (by decide) 372 rfl ?_
  refine g_icmpNo X86 at_372 (XT.ii_lt_f (by decide)) 375 rfl ?_
  refine g_iload X86 at_375 rfl 377 rfl ?_
  refine g_ifNo X86 at_377 (XT.ii_eq_f (by decide)) 380 rfl ?_
  refine g_aload X86 at_380 rfl rfl 382 rfl ?_
  refine g_bipush X86 (31 : Int32) at_382 (by decide) 384 rfl ?_
  refine g_iload X86 at_384 rfl 386 rfl ?_
  refine g_iadd X86 at_386 (31 : Int32) (by decide) 387 rfl ?_
  refine g_iload X86 at_387 rfl 389 rfl ?_
  refine g_callSp X86 (hw _ (List.mem_of_getElem? (i := 243) rfl)) (hw _ (List.mem_of_getElem? (i := 244) rfl)) (hw _ (List.mem_of_getElem? (i := 2) rfl)) (hw _ (List.mem_of_getElem? (i := 245) rfl)) (by decide) (c_at l Z a0 G r23 t32 kb33 (msgL ([] : List Int32) [k3 &&& (255 : Int32), k4 &&& (255 : Int32)]) 31 (k3 &&& (255 : Int32)) h19 e34 f35 f36 kc37 b38 l39 (Nat.le_of_ble_eq_true rfl) rfl) (by simp) (argsL := [.ref r23, .int (31 : Int32), .int (k3 &&& (255 : Int32))]) (rest := []) pd_3 rfl rfl rfl rfl 0 (Nat.le_of_eq rfl) (by decide) (by decide) (ck := 21) rfl (cs := 3259) rfl (by decide) (by decide) at_389 392 rfl ?_
  intro w91 T89 X90 hq92
  subst hq92
  refine g_ifNo X90 at_392 (XT.ii_eq_f (by decide)) 395 rfl ?_
  refine g_iconst X90 (1 : Int32) at_395 (by decide) 396 rfl ?_
  refine g_goto X90 at_396 400 (by decide) (by decide) ?_
  refine g_istore X90 at_400 (Ls' := #[.val (.int k0), .val (.int k1), .val (.int k2), .val (.int k3), .val (.int k4), .val (.int (0 : Int32)), .val (.int (2 : Int32)), .val (.int (k1 &&& (255 : Int32))), .val (.int (k2 &&& (255 : Int32))), .val (.int (k3 &&& (255 : Int32))), .val (.int (k4 &&& (255 : Int32))), .val (.ref s6), .val (.ref s14), .val (.ref r23), .val (.int (1 : Int32))]) rfl 402 rfl ?_
  refine g_iload X90 at_402 rfl 404 rfl ?_
  refine g_iconst X90 (2 : Int32) at_404 (by decide) 405 rfl ?_
  refine g_icmpNo X90 at_405 (XT.ii_ne_f (by decide)) 408 rfl ?_
  refine g_iload X90 at_408 rfl 410 rfl ?_
  refine g_ifNo X90 at_410 (XT.ii_eq_f (by decide)) 413 rfl ?_
  refine g_aload X90 at_413 rfl rfl 415 rfl ?_
  refine g_bipush X90 (32 : Int32) at_415 (by decide) 417 rfl ?_
  refine g_iload X90 at_417 rfl 419 rfl ?_
  refine g_iadd X90 at_419 (32 : Int32) (by decide) 420 rfl ?_
  refine g_iload X90 at_420 rfl 422 rfl ?_
  refine g_callSp X90 (hw _ (List.mem_of_getElem? (i := 243) rfl)) (hw _ (List.mem_of_getElem? (i := 244) rfl)) (hw _ (List.mem_of_getElem? (i := 2) rfl)) (hw _ (List.mem_of_getElem? (i := 245) rfl)) (by decide) (c_at l Z a0 G r23 t32 kb33 (msgL ([] : List Int32) [k3 &&& (255 : Int32), k4 &&& (255 : Int32)]) 32 (k4 &&& (255 : Int32)) h19 e34 f35 f36 kc37 b38 l39 (Nat.le_of_ble_eq_true rfl) rfl) (by simp) (argsL := [.ref r23, .int (32 : Int32), .int (k4 &&& (255 : Int32))]) (rest := []) pd_3 rfl rfl rfl rfl 0 (Nat.le_of_eq rfl) (by decide) (by decide) (ck := 21) rfl (cs := 3259) rfl (by decide) (by decide) at_422 425 rfl ?_
  intro w95 T93 X94 hq96
  subst hq96
  refine g_ifNo X94 at_425 (XT.ii_eq_f (by decide)) 428 rfl ?_
  refine g_iconst X94 (1 : Int32) at_428 (by decide) 429 rfl ?_
  refine g_goto X94 at_429 433 (by decide) (by decide) ?_
  refine g_istore X94 at_433 (Ls' := #[.val (.int k0), .val (.int k1), .val (.int k2), .val (.int k3), .val (.int k4), .val (.int (0 : Int32)), .val (.int (2 : Int32)), .val (.int (k1 &&& (255 : Int32))), .val (.int (k2 &&& (255 : Int32))), .val (.int (k3 &&& (255 : Int32))), .val (.int (k4 &&& (255 : Int32))), .val (.ref s6), .val (.ref s14), .val (.ref r23), .val (.int (1 : Int32))]) rfl 435 rfl ?_
  refine g_iload X94 at_435 rfl 437 rfl ?_
  exact g_retN X94 (t := .boolean) rfl (by simp) at_437 _ rfl (by decide) (by decide) rfl
set_option maxRecDepth 65536 in
set_option maxHeartbeats 40000000 in
theorem c_law10 (l : Launch) (Z : State) (a0 : Array Value) (G : Gl Z a0) (hst : l.stackTraces = true) (k0 k1 k2 k3 k4 : Int32) (h : Heap) (e5 : (k0 &&& (255 : Int32)) % (3 : Int32) = 1) (e6 : (XT.ushr k0 (8 : Int32) &&& (255 : Int32)) % (3 : Int32) = 0) :
    CtrK KnownL l Z EL nw x code maxLocals ret room_1 #[.int k0, .int k1, .int k2, .int k3, .int k4] h [] (fun v _ => v = some (.int 1)) := by
  obtain ⟨hw, hEL, hSA, ⟨zc, SC, hz⟩, ⟨fm, SF, hfm⟩, ⟨u0, SUn⟩, ⟨sp, SP, hsp⟩⟩ := id G
  refine CtrK.enter (K := KnownL) (own := "com/example/capsa/capsa/BeanNameInUseExceptionAliasPinLaw") (nm := "law") rfl rfl hEL (plainFor_of_name pn_7) #[.val (.int k0), .val (.int k1), .val (.int k2), .val (.int k3), .val (.int k4), .unset, .unset, .unset, .unset, .unset, .unset, .unset, .unset, .unset, .unset] (fun m => entry1 m _ _ (by simp [Value.category]) rfl) ?_
  intro p e s m below meth c T hfr hK hZs X
  obtain ⟨as0, hfr⟩ := hfr
  have hkn : KnownK below s := ⟨MethodsKnown_of_tablesKnown hK.2, FramesKnown_of_framesKnown hK.1 hfr⟩
  refine g_iloadN X at_0 rfl 1 rfl ?_
  refine g_sipush X (255 : Int32) at_1 (by decide) 4 rfl ?_
  refine g_iand X at_4 _ rfl 5 rfl ?_
  refine g_iconst X (3 : Int32) at_5 (by decide) 6 rfl ?_
  refine g_irem X at_6 (by decide) (1 : Int32) e5 7 rfl ?_
  refine g_istore X at_7 (Ls' := #[.val (.int k0), .val (.int k1), .val (.int k2), .val (.int k3), .val (.int k4), .val (.int (1 : Int32)), .unset, .unset, .unset, .unset, .unset, .unset, .unset, .unset, .unset]) rfl 9 rfl ?_
  refine g_iloadN X at_9 rfl 10 rfl ?_
  refine g_bipush X (8 : Int32) at_10 (by decide) 12 rfl ?_
  refine g_iushr X at_12 _ rfl 13 rfl ?_
  refine g_sipush X (255 : Int32) at_13 (by decide) 16 rfl ?_
  refine g_iand X at_16 _ rfl 17 rfl ?_
  refine g_iconst X (3 : Int32) at_17 (by decide) 18 rfl ?_
  refine g_irem X at_18 (by decide) (0 : Int32) e6 19 rfl ?_
  refine g_istore X at_19 (Ls' := #[.val (.int k0), .val (.int k1), .val (.int k2), .val (.int k3), .val (.int k4), .val (.int (1 : Int32)), .val (.int (0 : Int32)), .unset, .unset, .unset, .unset, .unset, .unset, .unset, .unset]) rfl 21 rfl ?_
  refine g_iloadN X at_21 rfl 22 rfl ?_
  refine g_sipush X (255 : Int32) at_22 (by decide) 25 rfl ?_
  refine g_iand X at_25 _ rfl 26 rfl ?_
  refine g_i2c X at_26 (k1 &&& (255 : Int32)) (i2c_mask _) 27 rfl ?_
  refine g_istore X at_27 (Ls' := #[.val (.int k0), .val (.int k1), .val (.int k2), .val (.int k3), .val (.int k4), .val (.int (1 : Int32)), .val (.int (0 : Int32)), .val (.int (k1 &&& (255 : Int32))), .unset, .unset, .unset, .unset, .unset, .unset, .unset]) rfl 29 rfl ?_
  refine g_iloadN X at_29 rfl 30 rfl ?_
  refine g_sipush X (255 : Int32) at_30 (by decide) 33 rfl ?_
  refine g_iand X at_33 _ rfl 34 rfl ?_
  refine g_i2c X at_34 (k2 &&& (255 : Int32)) (i2c_mask _) 35 rfl ?_
  refine g_istore X at_35 (Ls' := #[.val (.int k0), .val (.int k1), .val (.int k2), .val (.int k3), .val (.int k4), .val (.int (1 : Int32)), .val (.int (0 : Int32)), .val (.int (k1 &&& (255 : Int32))), .val (.int (k2 &&& (255 : Int32))), .unset, .unset, .unset, .unset, .unset, .unset]) rfl 37 rfl ?_
  refine g_iloadN X at_37 rfl 38 rfl ?_
  refine g_sipush X (255 : Int32) at_38 (by decide) 41 rfl ?_
  refine g_iand X at_41 _ rfl 42 rfl ?_
  refine g_i2c X at_42 (k3 &&& (255 : Int32)) (i2c_mask _) 43 rfl ?_
  refine g_istore X at_43 (Ls' := #[.val (.int k0), .val (.int k1), .val (.int k2), .val (.int k3), .val (.int k4), .val (.int (1 : Int32)), .val (.int (0 : Int32)), .val (.int (k1 &&& (255 : Int32))), .val (.int (k2 &&& (255 : Int32))), .val (.int (k3 &&& (255 : Int32))), .unset, .unset, .unset, .unset, .unset]) rfl 45 rfl ?_
  refine g_iload X at_45 rfl 47 rfl ?_
  refine g_sipush X (255 : Int32) at_47 (by decide) 50 rfl ?_
  refine g_iand X at_50 _ rfl 51 rfl ?_
  refine g_i2c X at_51 (k4 &&& (255 : Int32)) (i2c_mask _) 52 rfl ?_
  refine g_istore X at_52 (Ls' := #[.val (.int k0), .val (.int k1), .val (.int k2), .val (.int k3), .val (.int k4), .val (.int (1 : Int32)), .val (.int (0 : Int32)), .val (.int (k1 &&& (255 : Int32))), .val (.int (k2 &&& (255 : Int32))), .val (.int (k3 &&& (255 : Int32))), .val (.int (k4 &&& (255 : Int32))), .unset, .unset, .unset, .unset]) rfl 54 rfl ?_
  refine g_iload X at_54 rfl 56 rfl ?_
  refine g_iload X at_56 rfl 58 rfl ?_
  refine g_iload X at_58 rfl 60 rfl ?_
  refine g_callSv X (hw _ (List.mem_of_getElem? (i := 0) rfl)) (hw _ (List.mem_of_getElem? (i := 1) rfl)) (hw _ (List.mem_of_getElem? (i := 2) rfl)) (hw _ (List.mem_of_getElem? (i := 3) rfl)) (by decide) (c_str1 l Z a0 G k1 k2 ([]) h) (fun _ q => q) (argsL := [.int (1 : Int32), .int (k1 &&& (255 : Int32)), .int (k2 &&& (255 : Int32))]) (rest := []) pd_0 rfl rfl rfl rfl 0 (Nat.le_of_eq rfl) (by decide) (by decide) (ck := 3) rfl (cs := 6) rfl (by decide) (by decide) at_60 63 rfl ?_
  intro w3 T1 h5 X2 hq4
  obtain ⟨s6, rfl, E7, S8⟩ := hq4
  refine g_astore X2 at_63 rfl (Ls' := #[.val (.int k0), .val (.int k1), .val (.int k2), .val (.int k3), .val (.int k4), .val (.int (1 : Int32)), .val (.int (0 : Int32)), .val (.int (k1 &&& (255 : Int32))), .val (.int (k2 &&& (255 : Int32))), .val (.int (k3 &&& (255 : Int32))), .val (.int (k4 &&& (255 : Int32))), .val (.ref s6), .unset, .unset, .unset]) rfl 65 rfl ?_
  refine g_iload X2 at_65 rfl 67 rfl ?_
  refine g_iload X2 at_67 rfl 69 rfl ?_
  refine g_iload X2 at_69 rfl 71 rfl ?_
  refine g_callSv X2 (hw _ (List.mem_of_getElem? (i := 0) rfl)) (hw _ (List.mem_of_getElem? (i := 1) rfl)) (hw _ (List.mem_of_getElem? (i := 2) rfl)) (hw _ (List.mem_of_getElem? (i := 3) rfl)) (by decide) (c_str0 l Z a0 G k3 k4 ([]) h5) (fun _ q => q) (argsL := [.int (0 : Int32), .int (k3 &&& (255 : Int32)), .int (k4 &&& (255 : Int32))]) (rest := []) pd_0 rfl rfl rfl rfl 0 (Nat.le_of_eq rfl) (by decide) (by decide) (ck := 7) rfl (cs := 14) rfl (by decide) (by decide) at_71 74 rfl ?_
  intro w11 T9 h13 X10 hq12
  obtain ⟨s14, rfl, E15, S16⟩ := hq12
  refine g_astore X10 at_74 rfl (Ls' := #[.val (.int k0), .val (.int k1), .val (.int k2), .val (.int k3), .val (.int k4), .val (.int (1 : Int32)), .val (.int (0 : Int32)), .val (.int (k1 &&& (255 : Int32))), .val (.int (k2 &&& (255 : Int32))), .val (.int (k3 &&& (255 : Int32))), .val (.int (k4 &&& (255 : Int32))), .val (.ref s6), .val (.ref s14), .unset, .unset]) rfl 76 rfl ?_
  refine g_aload X10 at_76 rfl rfl 78 rfl ?_
  refine g_aload X10 at_78 rfl rfl 80 rfl ?_
  refine g_callSvK X10 hkn (hw _ (List.mem_of_getElem? (i := 26) rfl)) (hw _ (List.mem_of_getElem? (i := 27) rfl)) (hw _ (List.mem_of_getElem? (i := 28) rfl)) (hw _ (List.mem_of_getElem? (i := 29) rfl)) (by decide) (c_al10 l Z a0 G hst s6 s14 ([]) (k1 &&& (255 : Int32)) 0 0 0 h13 (S8.ext E15) S16) (fun _ q => q) (argsL := [.ref s6, .ref s14]) (rest := []) pd_1 rfl rfl rfl rfl 0 (Nat.le_of_eq rfl) (by decide) (by decide) (ck := 21) rfl (cs := 3257) rfl (by decide) (by decide) at_80 83 rfl ?_
  intro w17 T18 h19 X20 hq21
  obtain ⟨j22, r23, rfl, E24, A25, F26, S27⟩ := hq21
  refine g_callWp X20 (owner := "java/lang/Throwable") (hw _ (List.mem_of_getElem? (i := 225) rfl)) (hw _ (List.mem_of_getElem? (i := 226) rfl)) (hw _ (List.mem_of_getElem? (i := 227) rfl)) (hw _ (List.mem_of_getElem? (i := 229) rfl)) (hw _ (List.mem_of_getElem? (i := 228) rfl)) (hw _ (List.mem_of_getElem? (i := 186) rfl)) (hw _ (List.mem_of_getElem? (i := 230) rfl)) (by decide) A25 (c_gm l Z a0 G j22 r23 h19 F26) (by simp) (argsL := []) (rest := []) pd_21 rfl rfl rfl rfl 0 (Nat.le_of_eq rfl) (by decide) (by decide) (ck := 21) rfl (cs := 3257) rfl (by decide) (by decide) at_83 86 rfl ?_
  intro w28 T29 X30 hq31
  subst hq31
  refine g_astore X30 at_86 rfl (Ls' := #[.val (.int k0), .val (.int k1), .val (.int k2), .val (.int k3), .val (.int k4), .val (.int (1 : Int32)), .val (.int (0 : Int32)), .val (.int (k1 &&& (255 : Int32))), .val (.int (k2 &&& (255 : Int32))), .val (.int (k3 &&& (255 : Int32))), .val (.int (k4 &&& (255 : Int32))), .val (.ref s6), .val (.ref s14), .val (.ref r23), .unset]) rfl 88 rfl ?_
  refine g_aload X30 at_88 rfl rfl 90 rfl ?_
  refine g_ifnonnullYes X30 at_90 95 (by decide) (by decide) ?_
  refine g_aload X30 at_95 rfl rfl 97 rfl ?_
  obtain ⟨t32, kb33, e34, f35, f36, kc37, b38, l39, n40⟩ := id S27
  refine g_callVp X30 (hw _ (List.mem_of_getElem? (i := 231) rfl)) (hw _ (List.mem_of_getElem? (i := 62) rfl)) (hw _ (List.mem_of_getElem? (i := 64) rfl)) (hw _ (List.mem_of_getElem? (i := 63) rfl)) (hw _ (List.mem_of_getElem? (i := 6) rfl)) (hw _ (List.mem_of_getElem? (i := 65) rfl)) (nfSel (hw _ (List.mem_of_getElem? (i := 64) rfl))) (by decide) e34 (c_len l Z a0 G r23 t32 kb33 (msgL [k1 &&& (255 : Int32)] ([] : List Int32)) h19 e34 f35 f36 kc37 b38 l39) (by simp) (argsL := []) (rest := []) pd_5 rfl rfl rfl rfl 0 (Nat.le_of_eq rfl) (by decide) (by decide) (ck := 21) rfl (cs := 3257) rfl (by decide) (by decide) at_97 100 rfl ?_
  intro w43 T41 X42 hq44
  subst hq44
  refine g_bipush X42 (61 : Int32) at_100 (by decide) 102 rfl ?_
  refine g_iload X42 at_102 rfl 104 rfl ?_
  refine g_iadd X42 at_104 (62 : Int32) (by decide) 105 rfl ?_
  refine g_iload X42 at_105 rfl 107 rfl ?_
  refine g_iadd X42 at_107 (62 : Int32) (by decide) 108 rfl ?_
  refine g_icmpYes X42 at_108 (XT.ii_eq_t rfl) 113 (by decide) (by decide) ?_
  refine g_iload X42 at_113 rfl 115 rfl ?_
  refine g_ifYes X42 at_115 (XT.ii_ne_t (by decide)) 135 (by decide) (by decide) ?_
  refine g_aload X42 at_135 rfl rfl 137 rfl ?_
  refine g_iconst X42 (0 : Int32) at_137 (by decide) 138 rfl ?_
  refine g_bipush X42 (67 : Int32) at_138 (by decide) 140 rfl ?_
  refine g_callSp X42 (hw _ (List.mem_of_getElem? (i := 243) rfl)) (hw _ (List.mem_of_getElem? (i := 244) rfl)) (hw _ (List.mem_of_getElem? (i := 2) rfl)) (hw _ (List.mem_of_getElem? (i := 245) rfl)) (by decide) (c_at l Z a0 G r23 t32 kb33 (msgL [k1 &&& (255 : Int32)] ([] : List Int32)) 0 (67 : Int32) h19 e34 f35 f36 kc37 b38 l39 (Nat.le_of_ble_eq_true rfl) rfl) (by simp) (argsL := [.ref r23, .int (0 : Int32), .int (67 : Int32)]) (rest := []) pd_3 rfl rfl rfl rfl 0 (Nat.le_of_eq rfl) (by decide) (by decide) (ck := 21) rfl (cs := 3257) rfl (by decide) (by decide) at_140 143 rfl ?_
  intro w47 T45 X46 hq48
  subst hq48
  refine g_ifNo X46 at_143 (XT.ii_eq_f (by decide)) 146 rfl ?_
  refine g_aload X46 at_146 rfl rfl 148 rfl ?_
  refine g_bipush X46 (16 : Int32) at_148 (by decide) 150 rfl ?_
  refine g_bipush X46 (32 : Int32) at_150 (by decide) 152 rfl ?_
  refine g_callSp X46 (hw _ (List.mem_of_getElem? (i := 243) rfl)) (hw _ (List.mem_of_getElem? (i := 244) rfl)) (hw _ (List.mem_of_getElem? (i := 2) rfl)) (hw _ (List.mem_of_getElem? (i := 245) rfl)) (by decide) (c_at l Z a0 G r23 t32 kb33 (msgL [k1 &&& (255 : Int32)] ([] : List Int32)) 16 (32 : Int32) h19 e34 f35 f36 kc37 b38 l39 (Nat.le_of_ble_eq_true rfl) rfl) (by simp) (argsL := [.ref r23, .int (16 : Int32), .int (32 : Int32)]) (rest := []) pd_3 rfl rfl rfl rfl 0 (Nat.le_of_eq rfl) (by decide) (by decide) (ck := 21) rfl (cs := 3257) rfl (by decide) (by decide) at_152 155 rfl ?_
  intro w51 T49 X50 hq52
  subst hq52
  refine g_ifNo X50 at_155 (XT.ii_eq_f (by decide)) 158 rfl ?_
  refine g_aload X50 at_158 rfl rfl 160 rfl ?_
  refine g_bipush X50 (17 : Int32) at_160 (by decide) 162 rfl ?_
  refine g_bipush X50 (34 : Int32) at_162 (by decide) 164 rfl ?_
  refine g_callSp X50 (hw _ (List.mem_of_getElem? (i := 243) rfl)) (hw _ (List.mem_of_getElem? (i := 244) rfl)) (hw _ (List.mem_of_getElem? (i := 2) rfl)) (hw _ (List.mem_of_getElem? (i := 245) rfl)) (by decide) (c_at l Z a0 G r23 t32 kb33 (msgL [k1 &&& (255 : Int32)] ([] : List Int32)) 17 (34 : Int32) h19 e34 f35 f36 kc37 b38 l39 (Nat.le_of_ble_eq_true rfl) rfl) (by simp) (argsL := [.ref r23, .int (17 : Int32), .int (34 : Int32)]) (rest := []) pd_3 rfl rfl rfl rfl 0 (Nat.le_of_eq rfl) (by decide) (by decide) (ck := 21) rfl (cs := 3257) rfl (by decide) (by decide) at_164 167 rfl ?_
  intro w55 T53 X54 hq56
  subst hq56
  refine g_ifNo X54 at_167 (XT.ii_eq_f (by decide)) 170 rfl ?_
  refine g_aload X54 at_170 rfl rfl 172 rfl ?_
  refine g_bipush X54 (18 : Int32) at_172 (by decide) 174 rfl ?_
  refine g_iload X54 at_174 rfl 176 rfl ?_
  refine g_iadd X54 at_176 (19 : Int32) (by decide) 177 rfl ?_
  refine g_bipush X54 (34 : Int32) at_177 (by decide) 179 rfl ?_
  refine g_callSp X54 (hw _ (List.mem_of_getElem? (i := 243) rfl)) (hw _ (List.mem_of_getElem? (i := 244) rfl)) (hw _ (List.mem_of_getElem? (i := 2) rfl)) (hw _ (List.mem_of_getElem? (i := 245) rfl)) (by decide) (c_at l Z a0 G r23 t32 kb33 (msgL [k1 &&& (255 : Int32)] ([] : List Int32)) 19 (34 : Int32) h19 e34 f35 f36 kc37 b38 l39 (Nat.le_of_ble_eq_true rfl) rfl) (by simp) (argsL := [.ref r23, .int (19 : Int32), .int (34 : Int32)]) (rest := []) pd_3 rfl rfl rfl rfl 0 (Nat.le_of_eq rfl) (by decide) (by decide) (ck := 21) rfl (cs := 3257) rfl (by decide) (by decide) at_179 182 rfl ?_
  intro w59 T57 X58 hq60
  subst hq60
  refine g_ifNo X58 at_182 (XT.ii_eq_f (by decide)) 185 rfl ?_
  refine g_aload X58 at_185 rfl rfl 187 rfl ?_
  refine g_bipush X58 (19 : Int32) at_187 (by decide) 189 rfl ?_
  refine g_iload X58 at_189 rfl 191 rfl ?_
  refine g_iadd X58 at_191 (20 : Int32) (by decide) 192 rfl ?_
  refine g_bipush X58 (32 : Int32) at_192 (by decide) 194 rfl ?_
  refine g_callSp X58 (hw _ (List.mem_of_getElem? (i := 243) rfl)) (hw _ (List.mem_of_getElem? (i := 244) rfl)) (hw _ (List.mem_of_getElem? (i := 2) rfl)) (hw _ (List.mem_of_getElem? (i := 245) rfl)) (by decide) (c_at l Z a0 G r23 t32 kb33 (msgL [k1 &&& (255 : Int32)] ([] : List Int32)) 20 (32 : Int32) h19 e34 f35 f36 kc37 b38 l39 (Nat.le_of_ble_eq_true rfl) rfl) (by simp) (argsL := [.ref r23, .int (20 : Int32), .int (32 : Int32)]) (rest := []) pd_3 rfl rfl rfl rfl 0 (Nat.le_of_eq rfl) (by decide) (by decide) (ck := 21) rfl (cs := 3257) rfl (by decide) (by decide) at_194 197 rfl ?_
  intro w63 T61 X62 hq64
  subst hq64
  refine g_ifNo X62 at_197 (XT.ii_eq_f (by decide)) 200 rfl ?_
  refine g_aload X62 at_200 rfl rfl 202 rfl ?_
  refine g_bipush X62 (29 : Int32) at_202 (by decide) 204 rfl ?_
  refine g_iload X62 at_204 rfl 206 rfl ?_
  refine g_iadd X62 at_206 (30 : Int32) (by decide) 207 rfl ?_
  refine g_bipush X62 (32 : Int32) at_207 (by decide) 209 rfl ?_
  refine g_callSp X62 (hw _ (List.mem_of_getElem? (i := 243) rfl)) (hw _ (List.mem_of_getElem? (i := 244) rfl)) (hw _ (List.mem_of_getElem? (i := 2) rfl)) (hw _ (List.mem_of_getElem? (i := 245) rfl)) (by decide) (c_at l Z a0 G r23 t32 kb33 (msgL [k1 &&& (255 : Int32)] ([] : List Int32)) 30 (32 : Int32) h19 e34 f35 f36 kc37 b38 l39 (Nat.le_of_ble_eq_true rfl) rfl) (by simp) (argsL := [.ref r23, .int (30 : Int32), .int (32 : Int32)]) (rest := []) pd_3 rfl rfl rfl rfl 0 (Nat.le_of_eq rfl) (by decide) (by decide) (ck := 21) rfl (cs := 3257) rfl (by decide) (by decide) at_209 212 rfl ?_
  intro w67 T65 X66 hq68
  subst hq68
  refine g_ifNo X66 at_212 (XT.ii_eq_f (by decide)) 215 rfl ?_
  refine g_aload X66 at_215 rfl rfl 217 rfl ?_
  refine g_bipush X66 (30 : Int32) at_217 (by decide) 219 rfl ?_
  refine g_iload X66 at_219 rfl 221 rfl ?_
  refine g_iadd X66 at_221 (31 : Int32) (by decide) 222 rfl ?_
  refine g_bipush X66 (34 : Int32) at_222 (by decide) 224 rfl ?_
  refine g_callSp X66 (hw _ (List.mem_of_getElem? (i := 243) rfl)) (hw _ (List.mem_of_getElem? (i := 244) rfl)) (hw _ (List.mem_of_getElem? (i := 2) rfl)) (hw _ (List.mem_of_getElem? (i := 245) rfl)) (by decide) (c_at l Z a0 G r23 t32 kb33 (msgL [k1 &&& (255 : Int32)] ([] : List Int32)) 31 (34 : Int32) h19 e34 f35 f36 kc37 b38 l39 (Nat.le_of_ble_eq_true rfl) rfl) (by simp) (argsL := [.ref r23, .int (31 : Int32), .int (34 : Int32)]) (rest := []) pd_3 rfl rfl rfl rfl 0 (Nat.le_of_eq rfl) (by decide) (by decide) (ck := 21) rfl (cs := 3257) rfl (by decide) (by decide) at_224 227 rfl ?_
  intro w71 T69 X70 hq72
  subst hq72
  refine g_ifNo X70 at_227 (XT.ii_eq_f (by decide)) 230 rfl ?_
  refine g_aload X70 at_230 rfl rfl 232 rfl ?_
  refine g_bipush X70 (31 : Int32) at_232 (by decide) 234 rfl ?_
  refine g_iload X70 at_234 rfl 236 rfl ?_
  refine g_iadd X70 at_236 (32 : Int32) (by decide) 237 rfl ?_
  refine g_iload X70 at_237 rfl 239 rfl ?_
  refine g_iadd X70 at_239 (32 : Int32) (by decide) 240 rfl ?_
  refine g_bipush X70 (34 : Int32) at_240 (by decide) 242 rfl ?_
  refine g_callSp X70 (hw _ (List.mem_of_getElem? (i := 243) rfl)) (hw _ (List.mem_of_getElem? (i := 244) rfl)) (hw _ (List.mem_of_getElem? (i := 2) rfl)) (hw _ (List.mem_of_getElem? (i := 245) rfl)) (by decide) (c_at l Z a0 G r23 t32 kb33 (msgL [k1 &&& (255 : Int32)] ([] : List Int32)) 32 (34 : Int32) h19 e34 f35 f36 kc37 b38 l39 (Nat.le_of_ble_eq_true rfl) rfl) (by simp) (argsL := [.ref r23, .int (32 : Int32), .int (34 : Int32)]) (rest := []) pd_3 rfl rfl rfl rfl 0 (Nat.le_of_eq rfl) (by decide) (by decide) (ck := 21) rfl (cs := 3257) rfl (by decide) (by decide) at_242 245 rfl ?_
  intro w75 T73 X74 hq76
  subst hq76
  refine g_ifNo X74 at_245 (XT.ii_eq_f (by decide)) 248 rfl ?_
  refine g_aload X74 at_248 rfl rfl 250 rfl ?_
  refine g_bipush X74 (32 : Int32) at_250 (by decide) 252 rfl ?_
  refine g_iload X74 at_252 rfl 254 rfl ?_
  refine g_iadd X74 at_254 (33 : Int32) (by decide) 255 rfl ?_
  refine g_iload X74 at_255 rfl 257 rfl ?_
  refine g_iadd X74 at_257 (33 : Int32) (by decide) 258 rfl ?_
  refine g_bipush X74 (58 : Int32) at_258 (by decide) 260 rfl ?_
  refine g_callSp X74 (hw _ (List.mem_of_getElem? (i := 243) rfl)) (hw _ (List.mem_of_getElem? (i := 244) rfl)) (hw _ (List.mem_of_getElem? (i := 2) rfl)) (hw _ (List.mem_of_getElem? (i := 245) rfl)) (by decide) (c_at l Z a0 G r23 t32 kb33 (msgL [k1 &&& (255 : Int32)] ([] : List Int32)) 33 (58 : Int32) h19 e34 f35 f36 kc37 b38 l39 (Nat.le_of_ble_eq_true rfl) rfl) (by simp) (argsL := [.ref r23, .int (33 : Int32), .int (58 : Int32)]) (rest := []) pd_3 rfl rfl rfl rfl 0 (Nat.le_of_eq rfl) (by decide) (by decide) (ck := 21) rfl (cs := 3257) rfl (by decide) (by decide) at_260 263 rfl ?_
  intro w79 T77 X78 hq80
  subst hq80
  refine g_ifNo X78 at_263 (XT.ii_eq_f (by decide)) 266 rfl ?_
  refine g_aload X78 at_266 rfl rfl 268 rfl ?_
  refine g_bipush X78 (33 : Int32) at_268 (by decide) 270 rfl ?_
  refine g_iload X78 at_270 rfl 272 rfl ?_
  refine g_iadd X78 at_272 (34 : Int32) (by decide) 273 rfl ?_
  refine g_iload X78 at_273 rfl 275 rfl ?_
  refine g_iadd X78 at_275 (34 : Int32) (by decide) 276 rfl ?_
  refine g_bipush X78 (32 : Int32) at_276 (by decide) 278 rfl ?_
  refine g_callSp X78 (hw _ (List.mem_of_getElem? (i := 243) rfl)) (hw _ (List.mem_of_getElem? (i := 244) rfl)) (hw _ (List.mem_of_getElem? (i := 2) rfl)) (hw _ (List.mem_of_getElem? (i := 245) rfl)) (by decide) (c_at l Z a0 G r23 t32 kb33 (msgL [k1 &&& (255 : Int32)] ([] : List Int32)) 34 (32 : Int32) h19 e34 f35 f36 kc37 b38 l39 (Nat.le_of_ble_eq_true rfl) rfl) (by simp) (argsL := [.ref r23, .int (34 : Int32), .int (32 : Int32)]) (rest := []) pd_3 rfl rfl rfl rfl 0 (Nat.le_of_eq rfl) (by decide) (by decide) (ck := 21) rfl (cs := 3257) rfl (by decide) (by decide) at_278 281 rfl ?_
  intro w83 T81 X82 hq84
  subst hq84
  refine g_ifNo X82 at_281 (XT.ii_eq_f (by decide)) 284 rfl ?_
  refine g_aload X82 at_284 rfl rfl 286 rfl ?_
  refine g_bipush X82 (60 : Int32) at_286 (by decide) 288 rfl ?_
  refine g_iload X82 at_288 rfl 290 rfl ?_
  refine g_iadd X82 at_290 (61 : Int32) (by decide) 291 rfl ?_
  refine g_iload X82 at_291 rfl 293 rfl ?_
  refine g_iadd X82 at_293 (61 : Int32) (by decide) 294 rfl ?_
  refine g_bipush X82 (101 : Int32) at_294 (by decide) 296 rfl ?_
  refine g_callSp X82 (hw _ (List.mem_of_getElem? (i := 243) rfl)) (hw _ (List.mem_of_getElem? (i := 244) rfl)) (hw _ (List.mem_of_getElem? (i := 2) rfl)) (hw _ (List.mem_of_getElem? (i := 245) rfl)) (by decide) (c_at l Z a0 G r23 t32 kb33 (msgL [k1 &&& (255 : Int32)] ([] : List Int32)) 61 (101 : Int32) h19 e34 f35 f36 kc37 b38 l39 (Nat.le_of_ble_eq_true rfl) rfl) (by simp) (argsL := [.ref r23, .int (61 : Int32), .int (101 : Int32)]) (rest := []) pd_3 rfl rfl rfl rfl 0 (Nat.le_of_eq rfl) (by decide) (by decide) (ck := 21) rfl (cs := 3257) rfl (by decide) (by decide) at_296 299 rfl ?_
  intro w87 T85 X86 hq88
  subst hq88
  refine g_ifNo X86 at_299 (XT.ii_eq_f (by decide)) 302 rfl ?_
  refine g_iconst X86 (1 : Int32) at_302 (by decide) 303 rfl ?_
  refine g_goto X86 at_303 307 (by decide) (by decide) ?_
  refine g_istore X86 at_307 (Ls' := #[.val (.int k0), .val (.int k1), .val (.int k2), .val (.int k3), .val (.int k4), .val (.int (1 : Int32)), .val (.int (0 : Int32)), .val (.int (k1 &&& (255 : Int32))), .val (.int (k2 &&& (255 : Int32))), .val (.int (k3 &&& (255 : Int32))), .val (.int (k4 &&& (255 : Int32))), .val (.ref s6), .val (.ref s14), .val (.ref r23), .val (.int (1 : Int32))]) rfl 309 rfl ?_
  refine g_iload X86 at_309 rfl 311 rfl ?_
  refine g_iconst X86 (1 : Int32) at_311 (by decide) 312 rfl ?_
  refine g_icmpNo X86 at_312 (XT.ii_lt_f (by decide)) 315 rfl ?_
  refine g_iload X86 at_315 rfl 317 rfl ?_
  refine g_ifNo X86 at_317 (XT.ii_eq_f (by decide)) 320 rfl ?_
  refine g_aload X86 at_320 rfl rfl 322 rfl ?_
  refine g_bipush X86 (18 : Int32) at_322 (by decide) 324 rfl ?_
  refine g_iload X86 at_324 rfl 326 rfl ?_
  refine g_callSp X86 (hw _ (List.mem_of_getElem? (i := 243) rfl)) (hw _ (List.mem_of_getElem? (i := 244) rfl)) (hw _ (List.mem_of_getElem? (i := 2) rfl)) (hw _ (List.mem_of_getElem? (i := 245) rfl)) (by decide) (c_at l Z a0 G r23 t32 kb33 (msgL [k1 &&& (255 : Int32)] ([] : List Int32)) 18 (k1 &&& (255 : Int32)) h19 e34 f35 f36 kc37 b38 l39 (Nat.le_of_ble_eq_true rfl) rfl) (by simp) (argsL := [.ref r23, .int (18 : Int32), .int (k1 &&& (255 : Int32))]) (rest := []) pd_3 rfl rfl rfl rfl 0 (Nat.le_of_eq rfl) (by decide) (by decide) (ck := 21) rfl (cs := 3257) rfl (by decide) (by decide) at_326 329 rfl ?_
  intro w91 T89 X90 hq92
  subst hq92
  refine g_ifNo X90 at_329 (XT.ii_eq_f (by decide)) 332 rfl ?_
  refine g_iconst X90 (1 : Int32) at_332 (by decide) 333 rfl ?_
  refine g_goto X90 at_333 337 (by decide) (by decide) ?_
  refine g_istore X90 at_337 (Ls' := #[.val (.int k0), .val (.int k1), .val (.int k2), .val (.int k3), .val (.int k4), .val (.int (1 : Int32)), .val (.int (0 : Int32)), .val (.int (k1 &&& (255 : Int32))), .val (.int (k2 &&& (255 : Int32))), .val (.int (k3 &&& (255 : Int32))), .val (.int (k4 &&& (255 : Int32))), .val (.ref s6), .val (.ref s14), .val (.ref r23), .val (.int (1 : Int32))]) rfl 339 rfl ?_
  refine g_iload X90 at_339 rfl 341 rfl ?_
  refine g_iconst X90 (2 : Int32) at_341 (by decide) 342 rfl ?_
  refine g_icmpYes X90 at_342 (XT.ii_ne_t (by decide)) 369 (by decide) (by decide) ?_
  refine g_iload X90 at_369 rfl 371 rfl ?_
  refine g_iconst X90 (1 : Int32) at_371 (by decide) 372 rfl ?_
  refine g_icmpYes X90 at_372 (XT.ii_lt_t (by decide)) 402 (by decide) (by decide) ?_
  refine g_iload X90 at_402 rfl 404 rfl ?_
  refine g_iconst X90 (2 : Int32) at_404 (by decide) 405 rfl ?_
  refine g_icmpYes X90 at_405 (XT.ii_ne_t (by decide)) 435 (by decide) (by decide) ?_
  refine g_iload X90 at_435 rfl 437 rfl ?_
  exact g_retN X90 (t := .boolean) rfl (by simp) at_437 _ rfl (by decide) (by decide) rfl
set_option maxRecDepth 65536 in
set_option maxHeartbeats 40000000 in
theorem c_law11 (l : Launch) (Z : State) (a0 : Array Value) (G : Gl Z a0) (hst : l.stackTraces = true) (k0 k1 k2 k3 k4 : Int32) (h : Heap) (e5 : (k0 &&& (255 : Int32)) % (3 : Int32) = 1) (e6 : (XT.ushr k0 (8 : Int32) &&& (255 : Int32)) % (3 : Int32) = 1) :
    CtrK KnownL l Z EL nw x code maxLocals ret room_1 #[.int k0, .int k1, .int k2, .int k3, .int k4] h [] (fun v _ => v = some (.int 1)) := by
  obtain ⟨hw, hEL, hSA, ⟨zc, SC, hz⟩, ⟨fm, SF, hfm⟩, ⟨u0, SUn⟩, ⟨sp, SP, hsp⟩⟩ := id G
  refine CtrK.enter (K := KnownL) (own := "com/example/capsa/capsa/BeanNameInUseExceptionAliasPinLaw") (nm := "law") rfl rfl hEL (plainFor_of_name pn_7) #[.val (.int k0), .val (.int k1), .val (.int k2), .val (.int k3), .val (.int k4), .unset, .unset, .unset, .unset, .unset, .unset, .unset, .unset, .unset, .unset] (fun m => entry1 m _ _ (by simp [Value.category]) rfl) ?_
  intro p e s m below meth c T hfr hK hZs X
  obtain ⟨as0, hfr⟩ := hfr
  have hkn : KnownK below s := ⟨MethodsKnown_of_tablesKnown hK.2, FramesKnown_of_framesKnown hK.1 hfr⟩
  refine g_iloadN X at_0 rfl 1 rfl ?_
  refine g_sipush X (255 : Int32) at_1 (by decide) 4 rfl ?_
  refine g_iand X at_4 _ rfl 5 rfl ?_
  refine g_iconst X (3 : Int32) at_5 (by decide) 6 rfl ?_
  refine g_irem X at_6 (by decide) (1 : Int32) e5 7 rfl ?_
  refine g_istore X at_7 (Ls' := #[.val (.int k0), .val (.int k1), .val (.int k2), .val (.int k3), .val (.int k4), .val (.int (1 : Int32)), .unset, .unset, .unset, .unset, .unset, .unset, .unset, .unset, .unset]) rfl 9 rfl ?_
  refine g_iloadN X at_9 rfl 10 rfl ?_
  refine g_bipush X (8 : Int32) at_10 (by decide) 12 rfl ?_
  refine g_iushr X at_12 _ rfl 13 rfl ?_
  refine g_sipush X (255 : Int32) at_13 (by decide) 16 rfl ?_
  refine g_iand X at_16 _ rfl 17 rfl ?_
  refine g_iconst X (3 : Int32) at_17 (by decide) 18 rfl ?_
  refine g_irem X at_18 (by decide) (1 : Int32) e6 19 rfl ?_
  refine g_istore X at_19 (Ls' := #[.val (.int k0), .val (.int k1), .val (.int k2), .val (.int k3), .val (.int k4), .val (.int (1 : Int32)), .val (.int (1 : Int32)), .unset, .unset, .unset, .unset, .unset, .unset, .unset, .unset]) rfl 21 rfl ?_
  refine g_iloadN X at_21 rfl 22 rfl ?_
  refine g_sipush X (255 : Int32) at_22 (by decide) 25 rfl ?_
  refine g_iand X at_25 _ rfl 26 rfl ?_
  refine g_i2c X at_26 (k1 &&& (255 : Int32)) (i2c_mask _) 27 rfl ?_
  refine g_istore X at_27 (Ls' := #[.val (.int k0), .val (.int k1), .val (.int k2), .val (.int k3), .val (.int k4), .val (.int (1 : Int32)), .val (.int (1 : Int32)), .val (.int (k1 &&& (255 : Int32))), .unset, .unset, .unset, .unset, .unset, .unset, .unset]) rfl 29 rfl ?_
  refine g_iloadN X at_29 rfl 30 rfl ?_
  refine g_sipush X (255 : Int32) at_30 (by decide) 33 rfl ?_
  refine g_iand X at_33 _ rfl 34 rfl ?_
  refine g_i2c X at_34 (k2 &&& (255 : Int32)) (i2c_mask _) 35 rfl ?_
  refine g_istore X at_35 (Ls' := #[.val (.int k0), .val (.int k1), .val (.int k2), .val (.int k3), .val (.int k4), .val (.int (1 : Int32)), .val (.int (1 : Int32)), .val (.int (k1 &&& (255 : Int32))), .val (.int (k2 &&& (255 : Int32))), .unset, .unset, .unset, .unset, .unset, .unset]) rfl 37 rfl ?_
  refine g_iloadN X at_37 rfl 38 rfl ?_
  refine g_sipush X (255 : Int32) at_38 (by decide) 41 rfl ?_
  refine g_iand X at_41 _ rfl 42 rfl ?_
  refine g_i2c X at_42 (k3 &&& (255 : Int32)) (i2c_mask _) 43 rfl ?_
  refine g_istore X at_43 (Ls' := #[.val (.int k0), .val (.int k1), .val (.int k2), .val (.int k3), .val (.int k4), .val (.int (1 : Int32)), .val (.int (1 : Int32)), .val (.int (k1 &&& (255 : Int32))), .val (.int (k2 &&& (255 : Int32))), .val (.int (k3 &&& (255 : Int32))), .unset, .unset, .unset, .unset, .unset]) rfl 45 rfl ?_
  refine g_iload X at_45 rfl 47 rfl ?_
  refine g_sipush X (255 : Int32) at_47 (by decide) 50 rfl ?_
  refine g_iand X at_50 _ rfl 51 rfl ?_
  refine g_i2c X at_51 (k4 &&& (255 : Int32)) (i2c_mask _) 52 rfl ?_
  refine g_istore X at_52 (Ls' := #[.val (.int k0), .val (.int k1), .val (.int k2), .val (.int k3), .val (.int k4), .val (.int (1 : Int32)), .val (.int (1 : Int32)), .val (.int (k1 &&& (255 : Int32))), .val (.int (k2 &&& (255 : Int32))), .val (.int (k3 &&& (255 : Int32))), .val (.int (k4 &&& (255 : Int32))), .unset, .unset, .unset, .unset]) rfl 54 rfl ?_
  refine g_iload X at_54 rfl 56 rfl ?_
  refine g_iload X at_56 rfl 58 rfl ?_
  refine g_iload X at_58 rfl 60 rfl ?_
  refine g_callSv X (hw _ (List.mem_of_getElem? (i := 0) rfl)) (hw _ (List.mem_of_getElem? (i := 1) rfl)) (hw _ (List.mem_of_getElem? (i := 2) rfl)) (hw _ (List.mem_of_getElem? (i := 3) rfl)) (by decide) (c_str1 l Z a0 G k1 k2 ([]) h) (fun _ q => q) (argsL := [.int (1 : Int32), .int (k1 &&& (255 : Int32)), .int (k2 &&& (255 : Int32))]) (rest := []) pd_0 rfl rfl rfl rfl 0 (Nat.le_of_eq rfl) (by decide) (by decide) (ck := 3) rfl (cs := 6) rfl (by decide) (by decide) at_60 63 rfl ?_
  intro w3 T1 h5 X2 hq4
  obtain ⟨s6, rfl, E7, S8⟩ := hq4
  refine g_astore X2 at_63 rfl (Ls' := #[.val (.int k0), .val (.int k1), .val (.int k2), .val (.int k3), .val (.int k4), .val (.int (1 : Int32)), .val (.int (1 : Int32)), .val (.int (k1 &&& (255 : Int32))), .val (.int (k2 &&& (255 : Int32))), .val (.int (k3 &&& (255 : Int32))), .val (.int (k4 &&& (255 : Int32))), .val (.ref s6), .unset, .unset, .unset]) rfl 65 rfl ?_
  refine g_iload X2 at_65 rfl 67 rfl ?_
  refine g_iload X2 at_67 rfl 69 rfl ?_
  refine g_iload X2 at_69 rfl 71 rfl ?_
  refine g_callSv X2 (hw _ (List.mem_of_getElem? (i := 0) rfl)) (hw _ (List.mem_of_getElem? (i := 1) rfl)) (hw _ (List.mem_of_getElem? (i := 2) rfl)) (hw _ (List.mem_of_getElem? (i := 3) rfl)) (by decide) (c_str1 l Z a0 G k3 k4 ([]) h5) (fun _ q => q) (argsL := [.int (1 : Int32), .int (k3 &&& (255 : Int32)), .int (k4 &&& (255 : Int32))]) (rest := []) pd_0 rfl rfl rfl rfl 0 (Nat.le_of_eq rfl) (by decide) (by decide) (ck := 6) rfl (cs := 12) rfl (by decide) (by decide) at_71 74 rfl ?_
  intro w11 T9 h13 X10 hq12
  obtain ⟨s14, rfl, E15, S16⟩ := hq12
  refine g_astore X10 at_74 rfl (Ls' := #[.val (.int k0), .val (.int k1), .val (.int k2), .val (.int k3), .val (.int k4), .val (.int (1 : Int32)), .val (.int (1 : Int32)), .val (.int (k1 &&& (255 : Int32))), .val (.int (k2 &&& (255 : Int32))), .val (.int (k3 &&& (255 : Int32))), .val (.int (k4 &&& (255 : Int32))), .val (.ref s6), .val (.ref s14), .unset, .unset]) rfl 76 rfl ?_
  refine g_aload X10 at_76 rfl rfl 78 rfl ?_
  refine g_aload X10 at_78 rfl rfl 80 rfl ?_
  refine g_callSvK X10 hkn (hw _ (List.mem_of_getElem? (i := 26) rfl)) (hw _ (List.mem_of_getElem? (i := 27) rfl)) (hw _ (List.mem_of_getElem? (i := 28) rfl)) (hw _ (List.mem_of_getElem? (i := 29) rfl)) (by decide) (c_al11 l Z a0 G hst s6 s14 ([]) (k1 &&& (255 : Int32)) 0 (k3 &&& (255 : Int32)) 0 h13 (S8.ext E15) S16) (fun _ q => q) (argsL := [.ref s6, .ref s14]) (rest := []) pd_1 rfl rfl rfl rfl 0 (Nat.le_of_eq rfl) (by decide) (by decide) (ck := 20) rfl (cs := 3255) rfl (by decide) (by decide) at_80 83 rfl ?_
  intro w17 T18 h19 X20 hq21
  obtain ⟨j22, r23, rfl, E24, A25, F26, S27⟩ := hq21
  refine g_callWp X20 (owner := "java/lang/Throwable") (hw _ (List.mem_of_getElem? (i := 225) rfl)) (hw _ (List.mem_of_getElem? (i := 226) rfl)) (hw _ (List.mem_of_getElem? (i := 227) rfl)) (hw _ (List.mem_of_getElem? (i := 229) rfl)) (hw _ (List.mem_of_getElem? (i := 228) rfl)) (hw _ (List.mem_of_getElem? (i := 186) rfl)) (hw _ (List.mem_of_getElem? (i := 230) rfl)) (by decide) A25 (c_gm l Z a0 G j22 r23 h19 F26) (by simp) (argsL := []) (rest := []) pd_21 rfl rfl rfl rfl 0 (Nat.le_of_eq rfl) (by decide) (by decide) (ck := 20) rfl (cs := 3255) rfl (by decide) (by decide) at_83 86 rfl ?_
  intro w28 T29 X30 hq31
  subst hq31
  refine g_astore X30 at_86 rfl (Ls' := #[.val (.int k0), .val (.int k1), .val (.int k2), .val (.int k3), .val (.int k4), .val (.int (1 : Int32)), .val (.int (1 : Int32)), .val (.int (k1 &&& (255 : Int32))), .val (.int (k2 &&& (255 : Int32))), .val (.int (k3 &&& (255 : Int32))), .val (.int (k4 &&& (255 : Int32))), .val (.ref s6), .val (.ref s14), .val (.ref r23), .unset]) rfl 88 rfl ?_
  refine g_aload X30 at_88 rfl rfl 90 rfl ?_
  refine g_ifnonnullYes X30 at_90 95 (by decide) (by decide) ?_
  refine g_aload X30 at_95 rfl rfl 97 rfl ?_
  obtain ⟨t32, kb33, e34, f35, f36, kc37, b38, l39, n40⟩ := id S27
  refine g_callVp X30 (hw _ (List.mem_of_getElem? (i := 231) rfl)) (hw _ (List.mem_of_getElem? (i := 62) rfl)) (hw _ (List.mem_of_getElem? (i := 64) rfl)) (hw _ (List.mem_of_getElem? (i := 63) rfl)) (hw _ (List.mem_of_getElem? (i := 6) rfl)) (hw _ (List.mem_of_getElem? (i := 65) rfl)) (nfSel (hw _ (List.mem_of_getElem? (i := 64) rfl))) (by decide) e34 (c_len l Z a0 G r23 t32 kb33 (msgL [k1 &&& (255 : Int32)] [k3 &&& (255 : Int32)]) h19 e34 f35 f36 kc37 b38 l39) (by simp) (argsL := []) (rest := []) pd_5 rfl rfl rfl rfl 0 (Nat.le_of_eq rfl) (by decide) (by decide) (ck := 20) rfl (cs := 3255) rfl (by decide) (by decide) at_97 100 rfl ?_
  intro w43 T41 X42 hq44
  subst hq44
  refine g_bipush X42 (61 : Int32) at_100 (by decide) 102 rfl ?_
  refine g_iload X42 at_102 rfl 104 rfl ?_
  refine g_iadd X42 at_104 (62 : Int32) (by decide) 105 rfl ?_
  refine g_iload X42 at_105 rfl 107 rfl ?_
  refine g_iadd X42 at_107 (63 : Int32) (by decide) 108 rfl ?_
  refine g_icmpYes X42 at_108 (XT.ii_eq_t rfl) 113 (by decide) (by decide) ?_
  refine g_iload X42 at_113 rfl 115 rfl ?_
  refine g_ifYes X42 at_115 (XT.ii_ne_t (by decide)) 135 (by decide) (by decide) ?_
  refine g_aload X42 at_135 rfl rfl 137 rfl ?_
  refine g_iconst X42 (0 : Int32) at_137 (by decide) 138 rfl ?_
  refine g_bipush X42 (67 : Int32) at_138 (by decide) 140 rfl ?_
  refine g_callSp X42 (hw _ (List.mem_of_getElem? (i := 243) rfl)) (hw _ (List.mem_of_getElem? (i := 244) rfl)) (hw _ (List.mem_of_getElem? (i := 2) rfl)) (hw _ (List.mem_of_getElem? (i := 245) rfl)) (by decide) (c_at l Z a0 G r23 t32 kb33 (msgL [k1 &&& (255 : Int32)] [k3 &&& (255 : Int32)]) 0 (67 : Int32) h19 e34 f35 f36 kc37 b38 l39 (Nat.le_of_ble_eq_true rfl) rfl) (by simp) (argsL := [.ref r23, .int (0 : Int32), .int (67 : Int32)]) (rest := []) pd_3 rfl rfl rfl rfl 0 (Nat.le_of_eq rfl) (by decide) (by decide) (ck := 20) rfl (cs := 3255) rfl (by decide) (by decide) at_140 143 rfl ?_
  intro w47 T45 X46 hq48
  subst hq48
  refine g_ifNo X46 at_143 (XT.ii_eq_f (by decide)) 146 rfl ?_
  refine g_aload X46 at_146 rfl rfl 148 rfl ?_
  refine g_bipush X46 (16 : Int32) at_148 (by decide) 150 rfl ?_
  refine g_bipush X46 (32 : Int32) at_150 (by decide) 152 rfl ?_
  refine g_callSp X46 (hw _ (List.mem_of_getElem? (i := 243) rfl)) (hw _ (List.mem_of_getElem? (i := 244) rfl)) (hw _ (List.mem_of_getElem? (i := 2) rfl)) (hw _ (List.mem_of_getElem? (i := 245) rfl)) (by decide) (c_at l Z a0 G r23 t32 kb33 (msgL [k1 &&& (255 : Int32)] [k3 &&& (255 : Int32)]) 16 (32 : Int32) h19 e34 f35 f36 kc37 b38 l39 (Nat.le_of_ble_eq_true rfl) rfl) (by simp) (argsL := [.ref r23, .int (16 : Int32), .int (32 : Int32)]) (rest := []) pd_3 rfl rfl rfl rfl 0 (Nat.le_of_eq rfl) (by decide) (by decide) (ck := 20) rfl (cs := 3255) rfl (by decide) (by decide) at_152 155 rfl ?_
  intro w51 T49 X50 hq52
  subst hq52
  refine g_ifNo X50 at_155 (XT.ii_eq_f (by decide)) 158 rfl ?_
  refine g_aload X50 at_158 rfl rfl 160 rfl ?_
  refine g_bipush X50 (17 : Int32) at_160 (by decide) 162 rfl ?_
  refine g_bipush X50 (34 : Int32) at_162 (by decide) 164 rfl ?_
  refine g_callSp X50 (hw _ (List.mem_of_getElem? (i := 243) rfl)) (hw _ (List.mem_of_getElem? (i := 244) rfl)) (hw _ (List.mem_of_getElem? (i := 2) rfl)) (hw _ (List.mem_of_getElem? (i := 245) rfl)) (by decide) (c_at l Z a0 G r23 t32 kb33 (msgL [k1 &&& (255 : Int32)] [k3 &&& (255 : Int32)]) 17 (34 : Int32) h19 e34 f35 f36 kc37 b38 l39 (Nat.le_of_ble_eq_true rfl) rfl) (by simp) (argsL := [.ref r23, .int (17 : Int32), .int (34 : Int32)]) (rest := []) pd_3 rfl rfl rfl rfl 0 (Nat.le_of_eq rfl) (by decide) (by decide) (ck := 20) rfl (cs := 3255) rfl (by decide) (by decide) at_164 167 rfl ?_
  intro w55 T53 X54 hq56
  subst hq56
  refine g_ifNo X54 at_167 (XT.ii_eq_f (by decide)) 170 rfl ?_
  refine g_aload X54 at_170 rfl rfl 172 rfl ?_
  refine g_bipush X54 (18 : Int32) at_172 (by decide) 174 rfl ?_
  refine g_iload X54 at_174 rfl 176 rfl ?_
  refine g_iadd X54 at_176 (19 : Int32) (by decide) 177 rfl ?_
  refine g_bipush X54 (34 : Int32) at_177 (by decide) 179 rfl ?_
  refine g_callSp X54 (hw _ (List.mem_of_getElem? (i := 243) rfl)) (hw _ (List.mem_of_getElem? (i := 244) rfl)) (hw _ (List.mem_of_getElem? (i := 2) rfl)) (hw _ (List.mem_of_getElem? (i := 245) rfl)) (by decide) (c_at l Z a0 G r23 t32 kb33 (msgL [k1 &&& (255 : Int32)] [k3 &&& (255 : Int32)]) 19 (34 : Int32) h19 e34 f35 f36 kc37 b38 l39 (Nat.le_of_ble_eq_true rfl) rfl) (by simp) (argsL := [.ref r23, .int (19 : Int32), .int (34 : Int32)]) (rest := []) pd_3 rfl rfl rfl rfl 0 (Nat.le_of_eq rfl) (by decide) (by decide) (ck := 20) rfl (cs := 3255) rfl (by decide) (by decide) at_179 182 rfl ?_
  intro w59 T57 X58 hq60
  subst hq60
  refine g_ifNo X58 at_182 (XT.ii_eq_f (by decide)) 185 rfl ?_
  refine g_aload X58 at_185 rfl rfl 187 rfl ?_
  refine g_bipush X58 (19 : Int32) at_187 (by decide) 189 rfl ?_
  refine g_iload X58 at_189 rfl 191 rfl ?_
  refine g_iadd X58 at_191 (20 : Int32) (by decide) 192 rfl ?_
  refine g_bipush X58 (32 : Int32) at_192 (by decide) 194 rfl ?_
  refine g_callSp X58 (hw _ (List.mem_of_getElem? (i := 243) rfl)) (hw _ (List.mem_of_getElem? (i := 244) rfl)) (hw _ (List.mem_of_getElem? (i := 2) rfl)) (hw _ (List.mem_of_getElem? (i := 245) rfl)) (by decide) (c_at l Z a0 G r23 t32 kb33 (msgL [k1 &&& (255 : Int32)] [k3 &&& (255 : Int32)]) 20 (32 : Int32) h19 e34 f35 f36 kc37 b38 l39 (Nat.le_of_ble_eq_true rfl) rfl) (by simp) (argsL := [.ref r23, .int (20 : Int32), .int (32 : Int32)]) (rest := []) pd_3 rfl rfl rfl rfl 0 (Nat.le_of_eq rfl) (by decide) (by decide) (ck := 20) rfl (cs := 3255) rfl (by decide) (by decide) at_194 197 rfl ?_
  intro w63 T61 X62 hq64
  subst hq64
  refine g_ifNo X62 at_197 (XT.ii_eq_f (by decide)) 200 rfl ?_
  refine g_aload X62 at_200 rfl rfl 202 rfl ?_
  refine g_bipush X62 (29 : Int32) at_202 (by decide) 204 rfl ?_
  refine g_iload X62 at_204 rfl 206 rfl ?_
  refine g_iadd X62 at_206 (30 : Int32) (by decide) 207 rfl ?_
  refine g_bipush X62 (32 : Int32) at_207 (by decide) 209 rfl ?_
  refine g_callSp X62 (hw _ (List.mem_of_getElem? (i := 243) rfl)) (hw _ (List.mem_of_getElem? (i := 244) rfl)) (hw _ (List.mem_of_getElem? (i := 2) rfl)) (hw _ (List.mem_of_getElem? (i := 245) rfl)) (by decide) (c_at l Z a0 G r23 t32 kb33 (msgL [k1 &&& (255 : Int32)] [k3 &&& (255 : Int32)]) 30 (32 : Int32) h19 e34 f35 f36 kc37 b38 l39 (Nat.le_of_ble_eq_true rfl) rfl) (by simp) (argsL := [.ref r23, .int (30 : Int32), .int (32 : Int32)]) (rest := []) pd_3 rfl rfl rfl rfl 0 (Nat.le_of_eq rfl) (by decide) (by decide) (ck := 20) rfl (cs := 3255) rfl (by decide) (by decide) at_209 212 rfl ?_
  intro w67 T65 X66 hq68
  subst hq68
  refine g_ifNo X66 at_212 (XT.ii_eq_f (by decide)) 215 rfl ?_
  refine g_aload X66 at_215 rfl rfl 217 rfl ?_
  refine g_bipush X66 (30 : Int32) at_217 (by decide) 219 rfl ?_
  refine g_iload X66 at_219 rfl 221 rfl ?_
  refine g_iadd X66 at_221 (31 : Int32) (by decide) 222 rfl ?_
  refine g_bipush X66 (34 : Int32) at_222 (by decide) 224 rfl ?_
  refine g_callSp X66 (hw _ (List.mem_of_getElem? (i := 243) rfl)) (hw _ (List.mem_of_getElem? (i := 244) rfl)) (hw _ (List.mem_of_getElem? (i := 2) rfl)) (hw _ (List.mem_of_getElem? (i := 245) rfl)) (by decide) (c_at l Z a0 G r23 t32 kb33 (msgL [k1 &&& (255 : Int32)] [k3 &&& (255 : Int32)]) 31 (34 : Int32) h19 e34 f35 f36 kc37 b38 l39 (Nat.le_of_ble_eq_true rfl) rfl) (by simp) (argsL := [.ref r23, .int (31 : Int32), .int (34 : Int32)]) (rest := []) pd_3 rfl rfl rfl rfl 0 (Nat.le_of_eq rfl) (by decide) (by decide) (ck := 20) rfl (cs := 3255) rfl (by decide) (by decide) at_224 227 rfl ?_
  intro w71 T69 X70 hq72
  subst hq72
  refine g_ifNo X70 at_227 (XT.ii_eq_f (by decide)) 230 rfl ?_
  refine g_aload X70 at_230 rfl rfl 232 rfl ?_
  refine g_bipush X70 (31 : Int32) at_232 (by decide) 234 rfl ?_
  refine g_iload X70 at_234 rfl 236 rfl ?_
  refine g_iadd X70 at_236 (32 : Int32) (by decide) 237 rfl ?_
  refine g_iload X70 at_237 rfl 239 rfl ?_
  refine g_iadd X70 at_239 (33 : Int32) (by decide) 240 rfl ?_
  refine g_bipush X70 (34 : Int32) at_240 (by decide) 242 rfl ?_
  refine g_callSp X70 (hw _ (List.mem_of_getElem? (i := 243) rfl)) (hw _ (List.mem_of_getElem? (i := 244) rfl)) (hw _ (List.mem_of_getElem? (i := 2) rfl)) (hw _ (List.mem_of_getElem? (i := 245) rfl)) (by decide) (c_at l Z a0 G r23 t32 kb33 (msgL [k1 &&& (255 : Int32)] [k3 &&& (255 : Int32)]) 33 (34 : Int32) h19 e34 f35 f36 kc37 b38 l39 (Nat.le_of_ble_eq_true rfl) rfl) (by simp) (argsL := [.ref r23, .int (33 : Int32), .int (34 : Int32)]) (rest := []) pd_3 rfl rfl rfl rfl 0 (Nat.le_of_eq rfl) (by decide) (by decide) (ck := 20) rfl (cs := 3255) rfl (by decide) (by decide) at_242 245 rfl ?_
  intro w75 T73 X74 hq76
  subst hq76
  refine g_ifNo X74 at_245 (XT.ii_eq_f (by decide)) 248 rfl ?_
  refine g_aload X74 at_248 rfl rfl 250 rfl ?_
  refine g_bipush X74 (32 : Int32) at_250 (by decide) 252 rfl ?_
  refine g_iload X74 at_252 rfl 254 rfl ?_
  refine g_iadd X74 at_254 (33 : Int32) (by decide) 255 rfl ?_
  refine g_iload X74 at_255 rfl 257 rfl ?_
  refine g_iadd X74 at_257 (34 : Int32) (by decide) 258 rfl ?_
  refine g_bipush X74 (58 : Int32) at_258 (by decide) 260 rfl ?_
  refine g_callSp X74 (hw _ (List.mem_of_getElem? (i := 243) rfl)) (hw _ (List.mem_of_getElem? (i := 244) rfl)) (hw _ (List.mem_of_getElem? (i := 2) rfl)) (hw _ (List.mem_of_getElem? (i := 245) rfl)) (by decide) (c_at l Z a0 G r23 t32 kb33 (msgL [k1 &&& (255 : Int32)] [k3 &&& (255 : Int32)]) 34 (58 : Int32) h19 e34 f35 f36 kc37 b38 l39 (Nat.le_of_ble_eq_true rfl) rfl) (by simp) (argsL := [.ref r23, .int (34 : Int32), .int (58 : Int32)]) (rest := []) pd_3 rfl rfl rfl rfl 0 (Nat.le_of_eq rfl) (by decide) (by decide) (ck := 20) rfl (cs := 3255) rfl (by decide) (by decide) at_260 263 rfl ?_
  intro w79 T77 X78 hq80
  subst hq80
  refine g_ifNo X78 at_263 (XT.ii_eq_f (by decide)) 266 rfl ?_
  refine g_aload X78 at_266 rfl rfl 268 rfl ?_
  refine g_bipush X78 (33 : Int32) at_268 (by decide) 270 rfl ?_
  refine g_iload X78 at_270 rfl 272 rfl ?_
  refine g_iadd X78 at_272 (34 : Int32) (by decide) 273 rfl ?_
  refine g_iload X78 at_273 rfl 275 rfl ?_
  refine g_iadd X78 at_275 (35 : Int32) (by decide) 276 rfl ?_
  refine g_bipush X78 (32 : Int32) at_276 (by decide) 278 rfl ?_
  refine g_callSp X78 (hw _ (List.mem_of_getElem? (i := 243) rfl)) (hw _ (List.mem_of_getElem? (i := 244) rfl)) (hw _ (List.mem_of_getElem? (i := 2) rfl)) (hw _ (List.mem_of_getElem? (i := 245) rfl)) (by decide) (c_at l Z a0 G r23 t32 kb33 (msgL [k1 &&& (255 : Int32)] [k3 &&& (255 : Int32)]) 35 (32 : Int32) h19 e34 f35 f36 kc37 b38 l39 (Nat.le_of_ble_eq_true rfl) rfl) (by simp) (argsL := [.ref r23, .int (35 : Int32), .int (32 : Int32)]) (rest := []) pd_3 rfl rfl rfl rfl 0 (Nat.le_of_eq rfl) (by decide) (by decide) (ck := 20) rfl (cs := 3255) rfl (by decide) (by decide) at_278 281 rfl ?_
  intro w83 T81 X82 hq84
  subst hq84
  refine g_ifNo X82 at_281 (XT.ii_eq_f (by decide)) 284 rfl ?_
  refine g_aload X82 at_284 rfl rfl 286 rfl ?_
  refine g_bipush X82 (60 : Int32) at_286 (by decide) 288 rfl ?_
  refine g_iload X82 at_288 rfl 290 rfl ?_
  refine g_iadd X82 at_290 (61 : Int32) (by decide) 291 rfl ?_
  refine g_iload X82 at_291 rfl 293 rfl ?_
  refine g_iadd X82 at_293 (62 : Int32) (by decide) 294 rfl ?_
  refine g_bipush X82 (101 : Int32) at_294 (by decide) 296 rfl ?_
  refine g_callSp X82 (hw _ (List.mem_of_getElem? (i := 243) rfl)) (hw _ (List.mem_of_getElem? (i := 244) rfl)) (hw _ (List.mem_of_getElem? (i := 2) rfl)) (hw _ (List.mem_of_getElem? (i := 245) rfl)) (by decide) (c_at l Z a0 G r23 t32 kb33 (msgL [k1 &&& (255 : Int32)] [k3 &&& (255 : Int32)]) 62 (101 : Int32) h19 e34 f35 f36 kc37 b38 l39 (Nat.le_of_ble_eq_true rfl) rfl) (by simp) (argsL := [.ref r23, .int (62 : Int32), .int (101 : Int32)]) (rest := []) pd_3 rfl rfl rfl rfl 0 (Nat.le_of_eq rfl) (by decide) (by decide) (ck := 20) rfl (cs := 3255) rfl (by decide) (by decide) at_296 299 rfl ?_
  intro w87 T85 X86 hq88
  subst hq88
  refine g_ifNo X86 at_299 (XT.ii_eq_f (by decide)) 302 rfl ?_
  refine g_iconst X86 (1 : Int32) at_302 (by decide) 303 rfl ?_
  refine g_goto X86 at_303 307 (by decide) (by decide) ?_
  refine g_istore X86 at_307 (Ls' := #[.val (.int k0), .val (.int k1), .val (.int k2), .val (.int k3), .val (.int k4), .val (.int (1 : Int32)), .val (.int (1 : Int32)), .val (.int (k1 &&& (255 : Int32))), .val (.int (k2 &&& (255 : Int32))), .val (.int (k3 &&& (255 : Int32))), .val (.int (k4 &&& (255 : Int32))), .val (.ref s6), .val (.ref s14), .val (.ref r23), .val (.int (1 : Int32))]) rfl 309 rfl ?_
  refine g_iload X86 at_309 rfl 311 rfl ?_
  refine g_iconst X86 (1 : Int32) at_311 (by decide) 312 rfl ?_
  refine g_icmpNo X86 at_312 (XT.ii_lt_f (by decide)) 315 rfl ?_
  refine g_iload X86 at_315 rfl 317 rfl ?_
  refine g_ifNo X86 at_317 (XT.ii_eq_f (by decide)) 320 rfl ?_
  refine g_aload X86 at_320 rfl rfl 322 rfl ?_
  refine g_bipush X86 (18 : Int32) at_322 (by decide) 324 rfl ?_
  refine g_iload X86 at_324 rfl 326 rfl ?_
  refine g_callSp X86 (hw _ (List.mem_of_getElem? (i := 243) rfl)) (hw _ (List.mem_of_getElem? (i := 244) rfl)) (hw _ (List.mem_of_getElem? (i := 2) rfl)) (hw _ (List.mem_of_getElem? (i := 245) rfl)) (by decide) (c_at l Z a0 G r23 t32 kb33 (msgL [k1 &&& (255 : Int32)] [k3 &&& (255 : Int32)]) 18 (k1 &&& (255 : Int32)) h19 e34 f35 f36 kc37 b38 l39 (Nat.le_of_ble_eq_true rfl) rfl) (by simp) (argsL := [.ref r23, .int (18 : Int32), .int (k1 &&& (255 : Int32))]) (rest := []) pd_3 rfl rfl rfl rfl 0 (Nat.le_of_eq rfl) (by decide) (by decide) (ck := 20) rfl (cs := 3255) rfl (by decide) (by decide) at_326 329 rfl ?_
  intro w91 T89 X90 hq92
  subst hq92
  refine g_ifNo X90 at_329 (XT.ii_eq_f (by decide)) 332 rfl ?_
  refine g_iconst X90 (1 : Int32) at_332 (by decide) 333 rfl ?_
  refine g_goto X90 at_333 337 (by decide) (by decide) ?_
  refine g_istore X90 at_337 (Ls' := #[.val (.int k0), .val (.int k1), .val (.int k2), .val (.int k3), .val (.int k4), .val (.int (1 : Int32)), .val (.int (1 : Int32)), .val (.int (k1 &&& (255 : Int32))), .val (.int (k2 &&& (255 : Int32))), .val (.int (k3 &&& (255 : Int32))), .val (.int (k4 &&& (255 : Int32))), .val (.ref s6), .val (.ref s14), .val (.ref r23), .val (.int (1 : Int32))]) rfl 339 rfl ?_
  refine g_iload X90 at_339 rfl 341 rfl ?_
  refine g_iconst X90 (2 : Int32) at_341 (by decide) 342 rfl ?_
  refine g_icmpYes X90 at_342 (XT.ii_ne_t (by decide)) 369 (by decide) (by decide) ?_
  refine g_iload X90 at_369 rfl 371 rfl ?_
  refine g_iconst X90 (1 : Int32) at_371 (by decide) 372 rfl ?_
  refine g_icmpNo X90 at_372 (XT.ii_lt_f (by decide)) 375 rfl ?_
  refine g_iload X90 at_375 rfl 377 rfl ?_
  refine g_ifNo X90 at_377 (XT.ii_eq_f (by decide)) 380 rfl ?_
  refine g_aload X90 at_380 rfl rfl 382 rfl ?_
  refine g_bipush X90 (31 : Int32) at_382 (by decide) 384 rfl ?_
  refine g_iload X90 at_384 rfl 386 rfl ?_
  refine g_iadd X90 at_386 (32 : Int32) (by decide) 387 rfl ?_
  refine g_iload X90 at_387 rfl 389 rfl ?_
  refine g_callSp X90 (hw _ (List.mem_of_getElem? (i := 243) rfl)) (hw _ (List.mem_of_getElem? (i := 244) rfl)) (hw _ (List.mem_of_getElem? (i := 2) rfl)) (hw _ (List.mem_of_getElem? (i := 245) rfl)) (by decide) (c_at l Z a0 G r23 t32 kb33 (msgL [k1 &&& (255 : Int32)] [k3 &&& (255 : Int32)]) 32 (k3 &&& (255 : Int32)) h19 e34 f35 f36 kc37 b38 l39 (Nat.le_of_ble_eq_true rfl) rfl) (by simp) (argsL := [.ref r23, .int (32 : Int32), .int (k3 &&& (255 : Int32))]) (rest := []) pd_3 rfl rfl rfl rfl 0 (Nat.le_of_eq rfl) (by decide) (by decide) (ck := 20) rfl (cs := 3255) rfl (by decide) (by decide) at_389 392 rfl ?_
  intro w95 T93 X94 hq96
  subst hq96
  refine g_ifNo X94 at_392 (XT.ii_eq_f (by decide)) 395 rfl ?_
  refine g_iconst X94 (1 : Int32) at_395 (by decide) 396 rfl ?_
  refine g_goto X94 at_396 400 (by decide) (by decide) ?_
  refine g_istore X94 at_400 (Ls' := #[.val (.int k0), .val (.int k1), .val (.int k2), .val (.int k3), .val (.int k4), .val (.int (1 : Int32)), .val (.int (1 : Int32)), .val (.int (k1 &&& (255 : Int32))), .val (.int (k2 &&& (255 : Int32))), .val (.int (k3 &&& (255 : Int32))), .val (.int (k4 &&& (255 : Int32))), .val (.ref s6), .val (.ref s14), .val (.ref r23), .val (.int (1 : Int32))]) rfl 402 rfl ?_
  refine g_iload X94 at_402 rfl 404 rfl ?_
  refine g_iconst X94 (2 : Int32) at_404 (by decide) 405 rfl ?_
  refine g_icmpYes X94 at_405 (XT.ii_ne_t (by decide)) 435 (by decide) (by decide) ?_
  refine g_iload X94 at_435 rfl 437 rfl ?_
  exact g_retN X94 (t := .boolean) rfl (by simp) at_437 _ rfl (by decide) (by decide) rfl
set_option maxRecDepth 65536 in
set_option maxHeartbeats 40000000 in
theorem c_law12 (l : Launch) (Z : State) (a0 : Array Value) (G : Gl Z a0) (hst : l.stackTraces = true) (k0 k1 k2 k3 k4 : Int32) (h : Heap) (e5 : (k0 &&& (255 : Int32)) % (3 : Int32) = 1) (e6 : (XT.ushr k0 (8 : Int32) &&& (255 : Int32)) % (3 : Int32) = 2) :
    CtrK KnownL l Z EL nw x code maxLocals ret room_1 #[.int k0, .int k1, .int k2, .int k3, .int k4] h [] (fun v _ => v = some (.int 1)) := by
  obtain ⟨hw, hEL, hSA, ⟨zc, SC, hz⟩, ⟨fm, SF, hfm⟩, ⟨u0, SUn⟩, ⟨sp, SP, hsp⟩⟩ := id G
  refine CtrK.enter (K := KnownL) (own := "com/example/capsa/capsa/BeanNameInUseExceptionAliasPinLaw") (nm := "law") rfl rfl hEL (plainFor_of_name pn_7) #[.val (.int k0), .val (.int k1), .val (.int k2), .val (.int k3), .val (.int k4), .unset, .unset, .unset, .unset, .unset, .unset, .unset, .unset, .unset, .unset] (fun m => entry1 m _ _ (by simp [Value.category]) rfl) ?_
  intro p e s m below meth c T hfr hK hZs X
  obtain ⟨as0, hfr⟩ := hfr
  have hkn : KnownK below s := ⟨MethodsKnown_of_tablesKnown hK.2, FramesKnown_of_framesKnown hK.1 hfr⟩
  refine g_iloadN X at_0 rfl 1 rfl ?_
  refine g_sipush X (255 : Int32) at_1 (by decide) 4 rfl ?_
  refine g_iand X at_4 _ rfl 5 rfl ?_
  refine g_iconst X (3 : Int32) at_5 (by decide) 6 rfl ?_
  refine g_irem X at_6 (by decide) (1 : Int32) e5 7 rfl ?_
  refine g_istore X at_7 (Ls' := #[.val (.int k0), .val (.int k1), .val (.int k2), .val (.int k3), .val (.int k4), .val (.int (1 : Int32)), .unset, .unset, .unset, .unset, .unset, .unset, .unset, .unset, .unset]) rfl 9 rfl ?_
  refine g_iloadN X at_9 rfl 10 rfl ?_
  refine g_bipush X (8 : Int32) at_10 (by decide) 12 rfl ?_
  refine g_iushr X at_12 _ rfl 13 rfl ?_
  refine g_sipush X (255 : Int32) at_13 (by decide) 16 rfl ?_
  refine g_iand X at_16 _ rfl 17 rfl ?_
  refine g_iconst X (3 : Int32) at_17 (by decide) 18 rfl ?_
  refine g_irem X at_18 (by decide) (2 : Int32) e6 19 rfl ?_
  refine g_istore X at_19 (Ls' := #[.val (.int k0), .val (.int k1), .val (.int k2), .val (.int k3), .val (.int k4), .val (.int (1 : Int32)), .val (.int (2 : Int32)), .unset, .unset, .unset, .unset, .unset, .unset, .unset, .unset]) rfl 21 rfl ?_
  refine g_iloadN X at_21 rfl 22 rfl ?_
  refine g_sipush X (255 : Int32) at_22 (by decide) 25 rfl ?_
  refine g_iand X at_25 _ rfl 26 rfl ?_
  refine g_i2c X at_26 (k1 &&& (255 : Int32)) (i2c_mask _) 27 rfl ?_
  refine g_istore X at_27 (Ls' := #[.val (.int k0), .val (.int k1), .val (.int k2), .val (.int k3), .val (.int k4), .val (.int (1 : Int32)), .val (.int (2 : Int32)), .val (.int (k1 &&& (255 : Int32))), .unset, .unset, .unset, .unset, .unset, .unset, .unset]) rfl 29 rfl ?_
  refine g_iloadN X at_29 rfl 30 rfl ?_
  refine g_sipush X (255 : Int32) at_30 (by decide) 33 rfl ?_
  refine g_iand X at_33 _ rfl 34 rfl ?_
  refine g_i2c X at_34 (k2 &&& (255 : Int32)) (i2c_mask _) 35 rfl ?_
  refine g_istore X at_35 (Ls' := #[.val (.int k0), .val (.int k1), .val (.int k2), .val (.int k3), .val (.int k4), .val (.int (1 : Int32)), .val (.int (2 : Int32)), .val (.int (k1 &&& (255 : Int32))), .val (.int (k2 &&& (255 : Int32))), .unset, .unset, .unset, .unset, .unset, .unset]) rfl 37 rfl ?_
  refine g_iloadN X at_37 rfl 38 rfl ?_
  refine g_sipush X (255 : Int32) at_38 (by decide) 41 rfl ?_
  refine g_iand X at_41 _ rfl 42 rfl ?_
  refine g_i2c X at_42 (k3 &&& (255 : Int32)) (i2c_mask _) 43 rfl ?_
  refine g_istore X at_43 (Ls' := #[.val (.int k0), .val (.int k1), .val (.int k2), .val (.int k3), .val (.int k4), .val (.int (1 : Int32)), .val (.int (2 : Int32)), .val (.int (k1 &&& (255 : Int32))), .val (.int (k2 &&& (255 : Int32))), .val (.int (k3 &&& (255 : Int32))), .unset, .unset, .unset, .unset, .unset]) rfl 45 rfl ?_
  refine g_iload X at_45 rfl 47 rfl ?_
  refine g_sipush X (255 : Int32) at_47 (by decide) 50 rfl ?_
  refine g_iand X at_50 _ rfl 51 rfl ?_
  refine g_i2c X at_51 (k4 &&& (255 : Int32)) (i2c_mask _) 52 rfl ?_
  refine g_istore X at_52 (Ls' := #[.val (.int k0), .val (.int k1), .val (.int k2), .val (.int k3), .val (.int k4), .val (.int (1 : Int32)), .val (.int (2 : Int32)), .val (.int (k1 &&& (255 : Int32))), .val (.int (k2 &&& (255 : Int32))), .val (.int (k3 &&& (255 : Int32))), .val (.int (k4 &&& (255 : Int32))), .unset, .unset, .unset, .unset]) rfl 54 rfl ?_
  refine g_iload X at_54 rfl 56 rfl ?_
  refine g_iload X at_56 rfl 58 rfl ?_
  refine g_iload X at_58 rfl 60 rfl ?_
  refine g_callSv X (hw _ (List.mem_of_getElem? (i := 0) rfl)) (hw _ (List.mem_of_getElem? (i := 1) rfl)) (hw _ (List.mem_of_getElem? (i := 2) rfl)) (hw _ (List.mem_of_getElem? (i := 3) rfl)) (by decide) (c_str1 l Z a0 G k1 k2 ([]) h) (fun _ q => q) (argsL := [.int (1 : Int32), .int (k1 &&& (255 : Int32)), .int (k2 &&& (255 : Int32))]) (rest := []) pd_0 rfl rfl rfl rfl 0 (Nat.le_of_eq rfl) (by decide) (by decide) (ck := 3) rfl (cs := 6) rfl (by decide) (by decide) at_60 63 rfl ?_
  intro w3 T1 h5 X2 hq4
  obtain ⟨s6, rfl, E7, S8⟩ := hq4
  refine g_astore X2 at_63 rfl (Ls' := #[.val (.int k0), .val (.int k1), .val (.int k2), .val (.int k3), .val (.int k4), .val (.int (1 : Int32)), .val (.int (2 : Int32)), .val (.int (k1 &&& (255 : Int32))), .val (.int (k2 &&& (255 : Int32))), .val (.int (k3 &&& (255 : Int32))), .val (.int (k4 &&& (255 : Int32))), .val (.ref s6), .unset, .unset, .unset]) rfl 65 rfl ?_
  refine g_iload X2 at_65 rfl 67 rfl ?_
  refine g_iload X2 at_67 rfl 69 rfl ?_
  refine g_iload X2 at_69 rfl 71 rfl ?_
  refine g_callSv X2 (hw _ (List.mem_of_getElem? (i := 0) rfl)) (hw _ (List.mem_of_getElem? (i := 1) rfl)) (hw _ (List.mem_of_getElem? (i := 2) rfl)) (hw _ (List.mem_of_getElem? (i := 3) rfl)) (by decide) (c_str2 l Z a0 G k3 k4 ([]) h5) (fun _ q => q) (argsL := [.int (2 : Int32), .int (k3 &&& (255 : Int32)), .int (k4 &&& (255 : Int32))]) (rest := []) pd_0 rfl rfl rfl rfl 0 (Nat.le_of_eq rfl) (by decide) (by decide) (ck := 6) rfl (cs := 14) rfl (by decide) (by decide) at_71 74 rfl ?_
  intro w11 T9 h13 X10 hq12
  obtain ⟨s14, rfl, E15, S16⟩ := hq12
  refine g_astore X10 at_74 rfl (Ls' := #[.val (.int k0), .val (.int k1), .val (.int k2), .val (.int k3), .val (.int k4), .val (.int (1 : Int32)), .val (.int (2 : Int32)), .val (.int (k1 &&& (255 : Int32))), .val (.int (k2 &&& (255 : Int32))), .val (.int (k3 &&& (255 : Int32))), .val (.int (k4 &&& (255 : Int32))), .val (.ref s6), .val (.ref s14), .unset, .unset]) rfl 76 rfl ?_
  refine g_aload X10 at_76 rfl rfl 78 rfl ?_
  refine g_aload X10 at_78 rfl rfl 80 rfl ?_
  refine g_callSvK X10 hkn (hw _ (List.mem_of_getElem? (i := 26) rfl)) (hw _ (List.mem_of_getElem? (i := 27) rfl)) (hw _ (List.mem_of_getElem? (i := 28) rfl)) (hw _ (List.mem_of_getElem? (i := 29) rfl)) (by decide) (c_al12 l Z a0 G hst s6 s14 ([]) (k1 &&& (255 : Int32)) 0 (k3 &&& (255 : Int32)) (k4 &&& (255 : Int32)) h13 (S8.ext E15) S16) (fun _ q => q) (argsL := [.ref s6, .ref s14]) (rest := []) pd_1 rfl rfl rfl rfl 0 (Nat.le_of_eq rfl) (by decide) (by decide) (ck := 20) rfl (cs := 3257) rfl (by decide) (by decide) at_80 83 rfl ?_
  intro w17 T18 h19 X20 hq21
  obtain ⟨j22, r23, rfl, E24, A25, F26, S27⟩ := hq21
  refine g_callWp X20 (owner := "java/lang/Throwable") (hw _ (List.mem_of_getElem? (i := 225) rfl)) (hw _ (List.mem_of_getElem? (i := 226) rfl)) (hw _ (List.mem_of_getElem? (i := 227) rfl)) (hw _ (List.mem_of_getElem? (i := 229) rfl)) (hw _ (List.mem_of_getElem? (i := 228) rfl)) (hw _ (List.mem_of_getElem? (i := 186) rfl)) (hw _ (List.mem_of_getElem? (i := 230) rfl)) (by decide) A25 (c_gm l Z a0 G j22 r23 h19 F26) (by simp) (argsL := []) (rest := []) pd_21 rfl rfl rfl rfl 0 (Nat.le_of_eq rfl) (by decide) (by decide) (ck := 20) rfl (cs := 3257) rfl (by decide) (by decide) at_83 86 rfl ?_
  intro w28 T29 X30 hq31
  subst hq31
  refine g_astore X30 at_86 rfl (Ls' := #[.val (.int k0), .val (.int k1), .val (.int k2), .val (.int k3), .val (.int k4), .val (.int (1 : Int32)), .val (.int (2 : Int32)), .val (.int (k1 &&& (255 : Int32))), .val (.int (k2 &&& (255 : Int32))), .val (.int (k3 &&& (255 : Int32))), .val (.int (k4 &&& (255 : Int32))), .val (.ref s6), .val (.ref s14), .val (.ref r23), .unset]) rfl 88 rfl ?_
  refine g_aload X30 at_88 rfl rfl 90 rfl ?_
  refine g_ifnonnullYes X30 at_90 95 (by decide) (by decide) ?_
  refine g_aload X30 at_95 rfl rfl 97 rfl ?_
  obtain ⟨t32, kb33, e34, f35, f36, kc37, b38, l39, n40⟩ := id S27
  refine g_callVp X30 (hw _ (List.mem_of_getElem? (i := 231) rfl)) (hw _ (List.mem_of_getElem? (i := 62) rfl)) (hw _ (List.mem_of_getElem? (i := 64) rfl)) (hw _ (List.mem_of_getElem? (i := 63) rfl)) (hw _ (List.mem_of_getElem? (i := 6) rfl)) (hw _ (List.mem_of_getElem? (i := 65) rfl)) (nfSel (hw _ (List.mem_of_getElem? (i := 64) rfl))) (by decide) e34 (c_len l Z a0 G r23 t32 kb33 (msgL [k1 &&& (255 : Int32)] [k3 &&& (255 : Int32), k4 &&& (255 : Int32)]) h19 e34 f35 f36 kc37 b38 l39) (by simp) (argsL := []) (rest := []) pd_5 rfl rfl rfl rfl 0 (Nat.le_of_eq rfl) (by decide) (by decide) (ck := 20) rfl (cs := 3257) rfl (by decide) (by decide) at_97 100 rfl ?_
  intro w43 T41 X42 hq44
  subst hq44
  refine g_bipush X42 (61 : Int32) at_100 (by decide) 102 rfl ?_
  refine g_iload X42 at_102 rfl 104 rfl ?_
  refine g_iadd X42 at_104 (62 : Int32) (by decide) 105 rfl ?_
  refine g_iload X42 at_105 rfl 107 rfl ?_
  refine g_iadd X42 at_107 (64 : Int32) (by decide) 108 rfl ?_
  refine g_icmpYes X42 at_108 (XT.ii_eq_t rfl) 113 (by decide) (by decide) ?_
  refine g_iload X42 at_113 rfl 115 rfl ?_
  refine g_ifYes X42 at_115 (XT.ii_ne_t (by decide)) 135 (by decide) (by decide) ?_
  refine g_aload X42 at_135 rfl rfl 137 rfl ?_
  refine g_iconst X42 (0 : Int32) at_137 (by decide) 138 rfl ?_
  refine g_bipush X42 (67 : Int32) at_138 (by decide) 140 rfl ?_
  refine g_callSp X42 (hw _ (List.mem_of_getElem? (i := 243) rfl)) (hw _ (List.mem_of_getElem? (i := 244) rfl)) (hw _ (List.mem_of_getElem? (i := 2) rfl)) (hw _ (List.mem_of_getElem? (i := 245) rfl)) (by decide) (c_at l Z a0 G r23 t32 kb33 (msgL [k1 &&& (255 : Int32)] [k3 &&& (255 : Int32), k4 &&& (255 : Int32)]) 0 (67 : Int32) h19 e34 f35 f36 kc37 b38 l39 (Nat.le_of_ble_eq_true rfl) rfl) (by simp) (argsL := [.ref r23, .int (0 : Int32), .int (67 : Int32)]) (rest := []) pd_3 rfl rfl rfl rfl 0 (Nat.le_of_eq rfl) (by decide) (by decide) (ck := 20) rfl (cs := 3257) rfl (by decide) (by decide) at_140 143 rfl ?_
  intro w47 T45 X46 hq48
  subst hq48
  refine g_ifNo X46 at_143 (XT.ii_eq_f (by decide)) 146 rfl ?_
  refine g_aload X46 at_146 rfl rfl 148 rfl ?_
  refine g_bipush X46 (16 : Int32) at_148 (by decide) 150 rfl ?_
  refine g_bipush X46 (32 : Int32) at_150 (by decide) 152 rfl ?_
  refine g_callSp X46 (hw _ (List.mem_of_getElem? (i := 243) rfl)) (hw _ (List.mem_of_getElem? (i := 244) rfl)) (hw _ (List.mem_of_getElem? (i := 2) rfl)) (hw _ (List.mem_of_getElem? (i := 245) rfl)) (by decide) (c_at l Z a0 G r23 t32 kb33 (msgL [k1 &&& (255 : Int32)] [k3 &&& (255 : Int32), k4 &&& (255 : Int32)]) 16 (32 : Int32) h19 e34 f35 f36 kc37 b38 l39 (Nat.le_of_ble_eq_true rfl) rfl) (by simp) (argsL := [.ref r23, .int (16 : Int32), .int (32 : Int32)]) (rest := []) pd_3 rfl rfl rfl rfl 0 (Nat.le_of_eq rfl) (by decide) (by decide) (ck := 20) rfl (cs := 3257) rfl (by decide) (by decide) at_152 155 rfl ?_
  intro w51 T49 X50 hq52
  subst hq52
  refine g_ifNo X50 at_155 (XT.ii_eq_f (by decide)) 158 rfl ?_
  refine g_aload X50 at_158 rfl rfl 160 rfl ?_
  refine g_bipush X50 (17 : Int32) at_160 (by decide) 162 rfl ?_
  refine g_bipush X50 (34 : Int32) at_162 (by decide) 164 rfl ?_
  refine g_callSp X50 (hw _ (List.mem_of_getElem? (i := 243) rfl)) (hw _ (List.mem_of_getElem? (i := 244) rfl)) (hw _ (List.mem_of_getElem? (i := 2) rfl)) (hw _ (List.mem_of_getElem? (i := 245) rfl)) (by decide) (c_at l Z a0 G r23 t32 kb33 (msgL [k1 &&& (255 : Int32)] [k3 &&& (255 : Int32), k4 &&& (255 : Int32)]) 17 (34 : Int32) h19 e34 f35 f36 kc37 b38 l39 (Nat.le_of_ble_eq_true rfl) rfl) (by simp) (argsL := [.ref r23, .int (17 : Int32), .int (34 : Int32)]) (rest := []) pd_3 rfl rfl rfl rfl 0 (Nat.le_of_eq rfl) (by decide) (by decide) (ck := 20) rfl (cs := 3257) rfl (by decide) (by decide) at_164 167 rfl ?_
  intro w55 T53 X54 hq56
  subst hq56
  refine g_ifNo X54 at_167 (XT.ii_eq_f (by decide)) 170 rfl ?_
  refine g_aload X54 at_170 rfl rfl 172 rfl ?_
  refine g_bipush X54 (18 : Int32) at_172 (by decide) 174 rfl ?_
  refine g_iload X54 at_174 rfl 176 rfl ?_
  refine g_iadd X54 at_176 (19 : Int32) (by decide) 177 rfl ?_
  refine g_bipush X54 (34 : Int32) at_177 (by decide) 179 rfl ?_
  refine g_callSp X54 (hw _ (List.mem_of_getElem? (i := 243) rfl)) (hw _ (List.mem_of_getElem? (i := 244) rfl)) (hw _ (List.mem_of_getElem? (i := 2) rfl)) (hw _ (List.mem_of_getElem? (i := 245) rfl)) (by decide) (c_at l Z a0 G r23 t32 kb33 (msgL [k1 &&& (255 : Int32)] [k3 &&& (255 : Int32), k4 &&& (255 : Int32)]) 19 (34 : Int32) h19 e34 f35 f36 kc37 b38 l39 (Nat.le_of_ble_eq_true rfl) rfl) (by simp) (argsL := [.ref r23, .int (19 : Int32), .int (34 : Int32)]) (rest := []) pd_3 rfl rfl rfl rfl 0 (Nat.le_of_eq rfl) (by decide) (by decide) (ck := 20) rfl (cs := 3257) rfl (by decide) (by decide) at_179 182 rfl ?_
  intro w59 T57 X58 hq60
  subst hq60
  refine g_ifNo X58 at_182 (XT.ii_eq_f (by decide)) 185 rfl ?_
  refine g_aload X58 at_185 rfl rfl 187 rfl ?_
  refine g_bipush X58 (19 : Int32) at_187 (by decide) 189 rfl ?_
  refine g_iload X58 at_189 rfl 191 rfl ?_
  refine g_iadd X58 at_191 (20 : Int32) (by decide) 192 rfl ?_
  refine g_bipush X58 (32 : Int32) at_192 (by decide) 194 rfl ?_
  refine g_callSp X58 (hw _ (List.mem_of_getElem? (i := 243) rfl)) (hw _ (List.mem_of_getElem? (i := 244) rfl)) (hw _ (List.mem_of_getElem? (i := 2) rfl)) (hw _ (List.mem_of_getElem? (i := 245) rfl)) (by decide) (c_at l Z a0 G r23 t32 kb33 (msgL [k1 &&& (255 : Int32)] [k3 &&& (255 : Int32), k4 &&& (255 : Int32)]) 20 (32 : Int32) h19 e34 f35 f36 kc37 b38 l39 (Nat.le_of_ble_eq_true rfl) rfl) (by simp) (argsL := [.ref r23, .int (20 : Int32), .int (32 : Int32)]) (rest := []) pd_3 rfl rfl rfl rfl 0 (Nat.le_of_eq rfl) (by decide) (by decide) (ck := 20) rfl (cs := 3257) rfl (by decide) (by decide) at_194 197 rfl ?_
  intro w63 T61 X62 hq64
  subst hq64
  refine g_ifNo X62 at_197 (XT.ii_eq_f (by decide)) 200 rfl ?_
  refine g_aload X62 at_200 rfl rfl 202 rfl ?_
  refine g_bipush X62 (29 : Int32) at_202 (by decide) 204 rfl ?_
  refine g_iload X62 at_204 rfl 206 rfl ?_
  refine g_iadd X62 at_206 (30 : Int32) (by decide) 207 rfl ?_
  refine g_bipush X62 (32 : Int32) at_207 (by decide) 209 rfl ?_
  refine g_callSp X62 (hw _ (List.mem_of_getElem? (i := 243) rfl)) (hw _ (List.mem_of_getElem? (i := 244) rfl)) (hw _ (List.mem_of_getElem? (i := 2) rfl)) (hw _ (List.mem_of_getElem? (i := 245) rfl)) (by decide) (c_at l Z a0 G r23 t32 kb33 (msgL [k1 &&& (255 : Int32)] [k3 &&& (255 : Int32), k4 &&& (255 : Int32)]) 30 (32 : Int32) h19 e34 f35 f36 kc37 b38 l39 (Nat.le_of_ble_eq_true rfl) rfl) (by simp) (argsL := [.ref r23, .int (30 : Int32), .int (32 : Int32)]) (rest := []) pd_3 rfl rfl rfl rfl 0 (Nat.le_of_eq rfl) (by decide) (by decide) (ck := 20) rfl (cs := 3257) rfl (by decide) (by decide) at_209 212 rfl ?_
  intro w67 T65 X66 hq68
  subst hq68
  refine g_ifNo X66 at_212 (XT.ii_eq_f (by decide)) 215 rfl ?_
  refine g_aload X66 at_215 rfl rfl 217 rfl ?_
  refine g_bipush X66 (30 : Int32) at_217 (by decide) 219 rfl ?_
  refine g_iload X66 at_219 rfl 221 rfl ?_
  refine g_iadd X66 at_221 (31 : Int32) (by decide) 222 rfl ?_
  refine g_bipush X66 (34 : Int32) at_222 (by decide) 224 rfl ?_
  refine g_callSp X66 (hw _ (List.mem_of_getElem? (i := 243) rfl)) (hw _ (List.mem_of_getElem? (i := 244) rfl)) (hw _ (List.mem_of_getElem? (i := 2) rfl)) (hw _ (List.mem_of_getElem? (i := 245) rfl)) (by decide) (c_at l Z a0 G r23 t32 kb33 (msgL [k1 &&& (255 : Int32)] [k3 &&& (255 : Int32), k4 &&& (255 : Int32)]) 31 (34 : Int32) h19 e34 f35 f36 kc37 b38 l39 (Nat.le_of_ble_eq_true rfl) rfl) (by simp) (argsL := [.ref r23, .int (31 : Int32), .int (34 : Int32)]) (rest := []) pd_3 rfl rfl rfl rfl 0 (Nat.le_of_eq rfl) (by decide) (by decide) (ck := 20) rfl (cs := 3257) rfl (by decide) (by decide) at_224 227 rfl ?_
  intro w71 T69 X70 hq72
  subst hq72
  refine g_ifNo X70 at_227 (XT.ii_eq_f (by decide)) 230 rfl ?_
  refine g_aload X70 at_230 rfl rfl 232 rfl ?_
  refine g_bipush X70 (31 : Int32) at_232 (by decide) 234 rfl ?_
  refine g_iload X70 at_234 rfl 236 rfl ?_
  refine g_iadd X70 at_236 (32 : Int32) (by decide) 237 rfl ?_
  refine g_iload X70 at_237 rfl 239 rfl ?_
  refine g_iadd X70 at_239 (34 : Int32) (by decide) 240 rfl ?_
  refine g_bipush X70 (34 : Int32) at_240 (by decide) 242 rfl ?_
  refine g_callSp X70 (hw _ (List.mem_of_getElem? (i := 243) rfl)) (hw _ (List.mem_of_getElem? (i := 244) rfl)) (hw _ (List.mem_of_getElem? (i := 2) rfl)) (hw _ (List.mem_of_getElem? (i := 245) rfl)) (by decide) (c_at l Z a0 G r23 t32 kb33 (msgL [k1 &&& (255 : Int32)] [k3 &&& (255 : Int32), k4 &&& (255 : Int32)]) 34 (34 : Int32) h19 e34 f35 f36 kc37 b38 l39 (Nat.le_of_ble_eq_true rfl) rfl) (by simp) (argsL := [.ref r23, .int (34 : Int32), .int (34 : Int32)]) (rest := []) pd_3 rfl rfl rfl rfl 0 (Nat.le_of_eq rfl) (by decide) (by decide) (ck := 20) rfl (cs := 3257) rfl (by decide) (by decide) at_242 245 rfl ?_
  intro w75 T73 X74 hq76
  subst hq76
  refine g_ifNo X74 at_245 (XT.ii_eq_f (by decide)) 248 rfl ?_
  refine g_aload X74 at_248 rfl rfl 250 rfl ?_
  refine g_bipush X74 (32 : Int32) at_250 (by decide) 252 rfl ?_
  refine g_iload X74 at_252 rfl 254 rfl ?_
  refine g_iadd X74 at_254 (33 : Int32) (by decide) 255 rfl ?_
  refine g_iload X74 at_255 rfl 257 rfl ?_
  refine g_iadd X74 at_257 (35 : Int32) (by decide) 258 rfl ?_
  refine g_bipush X74 (58 : Int32) at_258 (by decide) 260 rfl ?_
  refine g_callSp X74 (hw _ (List.mem_of_getElem? (i := 243) rfl)) (hw _ (List.mem_of_getElem? (i := 244) rfl)) (hw _ (List.mem_of_getElem? (i := 2) rfl)) (hw _ (List.mem_of_getElem? (i := 245) rfl)) (by decide) (c_at l Z a0 G r23 t32 kb33 (msgL [k1 &&& (255 : Int32)] [k3 &&& (255 : Int32), k4 &&& (255 : Int32)]) 35 (58 : Int32) h19 e34 f35 f36 kc37 b38 l39 (Nat.le_of_ble_eq_true rfl) rfl) (by simp) (argsL := [.ref r23, .int (35 : Int32), .int (58 : Int32)]) (rest := []) pd_3 rfl rfl rfl rfl 0 (Nat.le_of_eq rfl) (by decide) (by decide) (ck := 20) rfl (cs := 3257) rfl (by decide) (by decide) at_260 263 rfl ?_
  intro w79 T77 X78 hq80
  subst hq80
  refine g_ifNo X78 at_263 (XT.ii_eq_f (by decide)) 266 rfl ?_
  refine g_aload X78 at_266 rfl rfl 268 rfl ?_
  refine g_bipush X78 (33 : Int32) at_268 (by decide) 270 rfl ?_
  refine g_iload X78 at_270 rfl 272 rfl ?_
  refine g_iadd X78 at_272 (34 : Int32) (by decide) 273 rfl ?_
  refine g_iload X78 at_273 rfl 275 rfl ?_
  refine g_iadd X78 at_275 (36 : Int32) (by decide) 276 rfl ?_
  refine g_bipush X78 (32 : Int32) at_276 (by decide) 278 rfl ?_
  refine g_callSp X78 (hw _ (List.mem_of_getElem? (i := 243) rfl)) (hw _ (List.mem_of_getElem? (i := 244) rfl)) (hw _ (List.mem_of_getElem? (i := 2) rfl)) (hw _ (List.mem_of_getElem? (i := 245) rfl)) (by decide) (c_at l Z a0 G r23 t32 kb33 (msgL [k1 &&& (255 : Int32)] [k3 &&& (255 : Int32), k4 &&& (255 : Int32)]) 36 (32 : Int32) h19 e34 f35 f36 kc37 b38 l39 (Nat.le_of_ble_eq_true rfl) rfl) (by simp) (argsL := [.ref r23, .int (36 : Int32), .int (32 : Int32)]) (rest := []) pd_3 rfl rfl rfl rfl 0 (Nat.le_of_eq rfl) (by decide) (by decide) (ck := 20) rfl (cs := 3257) rfl (by decide) (by decide) at_278 281 rfl ?_
  intro w83 T81 X82 hq84
  subst hq84
  refine g_ifNo X82 at_281 (XT.ii_eq_f (by decide)) 284 rfl ?_
  refine g_aload X82 at_284 rfl rfl 286 rfl ?_
  refine g_bipush X82 (60 : Int32) at_286 (by decide) 288 rfl ?_
  refine g_iload X82 at_288 rfl 290 rfl ?_
  refine g_iadd X82 at_290 (61 : Int32) (by decide) 291 rfl ?_
  refine g_iload X82 at_291 rfl 293 rfl ?_
  refine g_iadd X82 at_293 (63 : Int32) (by decide) 294 rfl ?_
  refine g_bipush X82 (101 : Int32) at_294 (by decide) 296 rfl ?_
  refine g_callSp X82 (hw _ (List.mem_of_getElem? (i := 243) rfl)) (hw _ (List.mem_of_getElem? (i := 244) rfl)) (hw _ (List.mem_of_getElem? (i := 2) rfl)) (hw _ (List.mem_of_getElem? (i := 245) rfl)) (by decide) (c_at l Z a0 G r23 t32 kb33 (msgL [k1 &&& (255 : Int32)] [k3 &&& (255 : Int32), k4 &&& (255 : Int32)]) 63 (101 : Int32) h19 e34 f35 f36 kc37 b38 l39 (Nat.le_of_ble_eq_true rfl) rfl) (by simp) (argsL := [.ref r23, .int (63 : Int32), .int (101 : Int32)]) (rest := []) pd_3 rfl rfl rfl rfl 0 (Nat.le_of_eq rfl) (by decide) (by decide) (ck := 20) rfl (cs := 3257) rfl (by decide) (by decide) at_296 299 rfl ?_
  intro w87 T85 X86 hq88
  subst hq88
  refine g_ifNo X86 at_299 (XT.ii_eq_f (by decide)) 302 rfl ?_
  refine g_iconst X86 (1 : Int32) at_302 (by decide) 303 rfl ?_
  refine g_goto X86 at_303 307 (by decide) (by decide) ?_
  refine g_istore X86 at_307 (Ls' := #[.val (.int k0), .val (.int k1), .val (.int k2), .val (.int k3), .val (.int k4), .val (.int (1 : Int32)), .val (.int (2 : Int32)), .val (.int (k1 &&& (255 : Int32))), .val (.int (k2 &&& (255 : Int32))), .val (.int (k3 &&& (255 : Int32))), .val (.int (k4 &&& (255 : Int32))), .val (.ref s6), .val (.ref s14), .val (.ref r23), .val (.int (1 : Int32))]) rfl 309 rfl ?_
  refine g_iload X86 at_309 rfl 311 rfl ?_
  refine g_iconst X86 (1 : Int32) at_311 (by decide) 312 rfl ?_
  refine g_icmpNo X86 at_312 (XT.ii_lt_f (by decide)) 315 rfl ?_
  refine g_iload X86 at_315 rfl 317 rfl ?_
  refine g_ifNo X86 at_317 (XT.ii_eq_f (by decide)) 320 rfl ?_
  refine g_aload X86 at_320 rfl rfl 322 rfl ?_
  refine g_bipush X86 (18 : Int32) at_322 (by decide) 324 rfl ?_
  refine g_iload X86 at_324 rfl 326 rfl ?_
  refine g_callSp X86 (hw _ (List.mem_of_getElem? (i := 243) rfl)) (hw _ (List.mem_of_getElem? (i := 244) rfl)) (hw _ (List.mem_of_getElem? (i := 2) rfl)) (hw _ (List.mem_of_getElem? (i := 245) rfl)) (by decide) (c_at l Z a0 G r23 t32 kb33 (msgL [k1 &&& (255 : Int32)] [k3 &&& (255 : Int32), k4 &&& (255 : Int32)]) 18 (k1 &&& (255 : Int32)) h19 e34 f35 f36 kc37 b38 l39 (Nat.le_of_ble_eq_true rfl) rfl) (by simp) (argsL := [.ref r23, .int (18 : Int32), .int (k1 &&& (255 : Int32))]) (rest := []) pd_3 rfl rfl rfl rfl 0 (Nat.le_of_eq rfl) (by decide) (by decide) (ck := 20) rfl (cs := 3257) rfl (by decide) (by decide) at_326 329 rfl ?_
  intro w91 T89 X90 hq92
  subst hq92
  refine g_ifNo X90 at_329 (XT.ii_eq_f (by decide)) 332 rfl ?_
  refine g_iconst X90 (1 : Int32) at_332 (by decide) 333 rfl ?_
  refine g_goto X90 at_333 337 (by decide) (by decide) ?_
  refine g_istore X90 at_337 (Ls' := #[.val (.int k0), .val (.int k1), .val (.int k2), .val (.int k3), .val (.int k4), .val (.int (1 : Int32)), .val (.int (2 : Int32)), .val (.int (k1 &&& (255 : Int32))), .val (.int (k2 &&& (255 : Int32))), .val (.int (k3 &&& (255 : Int32))), .val (.int (k4 &&& (255 : Int32))), .val (.ref s6), .val (.ref s14), .val (.ref r23), .val (.int (1 : Int32))]) rfl 339 rfl ?_
  refine g_iload X90 at_339 rfl 341 rfl ?_
  refine g_iconst X90 (2 : Int32) at_341 (by decide) 342 rfl ?_
  refine g_icmpYes X90 at_342 (XT.ii_ne_t (by decide)) 369 (by decide) (by decide) ?_
  refine g_iload X90 at_369 rfl 371 rfl ?_
  refine g_iconst X90 (1 : Int32) at_371 (by decide) 372 rfl ?_
  refine g_icmpNo X90 at_372 (XT.ii_lt_f (by decide)) 375 rfl ?_
  refine g_iload X90 at_375 rfl 377 rfl ?_
  refine g_ifNo X90 at_377 (XT.ii_eq_f (by decide)) 380 rfl ?_
  refine g_aload X90 at_380 rfl rfl 382 rfl ?_
  refine g_bipush X90 (31 : Int32) at_382 (by decide) 384 rfl ?_
  refine g_iload X90 at_384 rfl 386 rfl ?_
  refine g_iadd X90 at_386 (32 : Int32) (by decide) 387 rfl ?_
  refine g_iload X90 at_387 rfl 389 rfl ?_
  refine g_callSp X90 (hw _ (List.mem_of_getElem? (i := 243) rfl)) (hw _ (List.mem_of_getElem? (i := 244) rfl)) (hw _ (List.mem_of_getElem? (i := 2) rfl)) (hw _ (List.mem_of_getElem? (i := 245) rfl)) (by decide) (c_at l Z a0 G r23 t32 kb33 (msgL [k1 &&& (255 : Int32)] [k3 &&& (255 : Int32), k4 &&& (255 : Int32)]) 32 (k3 &&& (255 : Int32)) h19 e34 f35 f36 kc37 b38 l39 (Nat.le_of_ble_eq_true rfl) rfl) (by simp) (argsL := [.ref r23, .int (32 : Int32), .int (k3 &&& (255 : Int32))]) (rest := []) pd_3 rfl rfl rfl rfl 0 (Nat.le_of_eq rfl) (by decide) (by decide) (ck := 20) rfl (cs := 3257) rfl (by decide) (by decide) at_389 392 rfl ?_
  intro w95 T93 X94 hq96
  subst hq96
  refine g_ifNo X94 at_392 (XT.ii_eq_f (by decide)) 395 rfl ?_
  refine g_iconst X94 (1 : Int32) at_395 (by decide) 396 rfl ?_
  refine g_goto X94 at_396 400 (by decide) (by decide) ?_
  refine g_istore X94 at_400 (Ls' := #[.val (.int k0), .val (.int k1), .val (.int k2), .val (.int k3), .val (.int k4), .val (.int (1 : Int32)), .val (.int (2 : Int32)), .val (.int (k1 &&& (255 : Int32))), .val (.int (k2 &&& (255 : Int32))), .val (.int (k3 &&& (255 : Int32))), .val (.int (k4 &&& (255 : Int32))), .val (.ref s6), .val (.ref s14), .val (.ref r23), .val (.int (1 : Int32))]) rfl 402 rfl ?_
  refine g_iload X94 at_402 rfl 404 rfl ?_
  refine g_iconst X94 (2 : Int32) at_404 (by decide) 405 rfl ?_
  refine g_icmpNo X94 at_405 (XT.ii_ne_f (by decide)) 408 rfl ?_
  refine g_iload X94 at_408 rfl 410 rfl ?_
  refine g_ifNo X94 at_410 (XT.ii_eq_f (by decide)) 413 rfl ?_
  refine g_aload X94 at_413 rfl rfl 415 rfl ?_
  refine g_bipush X94 (32 : Int32) at_415 (by decide) 417 rfl ?_
  refine g_iload X94 at_417 rfl 419 rfl ?_
  refine g_iadd X94 at_419 (33 : Int32) (by decide) 420 rfl ?_
  refine g_iload X94 at_420 rfl 422 rfl ?_
  refine g_callSp X94 (hw _ (List.mem_of_getElem? (i := 243) rfl)) (hw _ (List.mem_of_getElem? (i := 244) rfl)) (hw _ (List.mem_of_getElem? (i := 2) rfl)) (hw _ (List.mem_of_getElem? (i := 245) rfl)) (by decide) (c_at l Z a0 G r23 t32 kb33 (msgL [k1 &&& (255 : Int32)] [k3 &&& (255 : Int32), k4 &&& (255 : Int32)]) 33 (k4 &&& (255 : Int32)) h19 e34 f35 f36 kc37 b38 l39 (Nat.le_of_ble_eq_true rfl) rfl) (by simp) (argsL := [.ref r23, .int (33 : Int32), .int (k4 &&& (255 : Int32))]) (rest := []) pd_3 rfl rfl rfl rfl 0 (Nat.le_of_eq rfl) (by decide) (by decide) (ck := 20) rfl (cs := 3257) rfl (by decide) (by decide) at_422 425 rfl ?_
  intro w99 T97 X98 hq100
  subst hq100
  refine g_ifNo X98 at_425 (XT.ii_eq_f (by decide)) 428 rfl ?_
  refine g_iconst X98 (1 : Int32) at_428 (by decide) 429 rfl ?_
  refine g_goto X98 at_429 433 (by decide) (by decide) ?_
  refine g_istore X98 at_433 (Ls' := #[.val (.int k0), .val (.int k1), .val (.int k2), .val (.int k3), .val (.int k4), .val (.int (1 : Int32)), .val (.int (2 : Int32)), .val (.int (k1 &&& (255 : Int32))), .val (.int (k2 &&& (255 : Int32))), .val (.int (k3 &&& (255 : Int32))), .val (.int (k4 &&& (255 : Int32))), .val (.ref s6), .val (.ref s14), .val (.ref r23), .val (.int (1 : Int32))]) rfl 435 rfl ?_
  refine g_iload X98 at_435 rfl 437 rfl ?_
  exact g_retN X98 (t := .boolean) rfl (by simp) at_437 _ rfl (by decide) (by decide) rfl
set_option maxRecDepth 65536 in
set_option maxHeartbeats 40000000 in
theorem c_law20 (l : Launch) (Z : State) (a0 : Array Value) (G : Gl Z a0) (hst : l.stackTraces = true) (k0 k1 k2 k3 k4 : Int32) (h : Heap) (e5 : (k0 &&& (255 : Int32)) % (3 : Int32) = 2) (e6 : (XT.ushr k0 (8 : Int32) &&& (255 : Int32)) % (3 : Int32) = 0) :
    CtrK KnownL l Z EL nw x code maxLocals ret room_1 #[.int k0, .int k1, .int k2, .int k3, .int k4] h [] (fun v _ => v = some (.int 1)) := by
  obtain ⟨hw, hEL, hSA, ⟨zc, SC, hz⟩, ⟨fm, SF, hfm⟩, ⟨u0, SUn⟩, ⟨sp, SP, hsp⟩⟩ := id G
  refine CtrK.enter (K := KnownL) (own := "com/example/capsa/capsa/BeanNameInUseExceptionAliasPinLaw") (nm := "law") rfl rfl hEL (plainFor_of_name pn_7) #[.val (.int k0), .val (.int k1), .val (.int k2), .val (.int k3), .val (.int k4), .unset, .unset, .unset, .unset, .unset, .unset, .unset, .unset, .unset, .unset] (fun m => entry1 m _ _ (by simp [Value.category]) rfl) ?_
  intro p e s m below meth c T hfr hK hZs X
  obtain ⟨as0, hfr⟩ := hfr
  have hkn : KnownK below s := ⟨MethodsKnown_of_tablesKnown hK.2, FramesKnown_of_framesKnown hK.1 hfr⟩
  refine g_iloadN X at_0 rfl 1 rfl ?_
  refine g_sipush X (255 : Int32) at_1 (by decide) 4 rfl ?_
  refine g_iand X at_4 _ rfl 5 rfl ?_
  refine g_iconst X (3 : Int32) at_5 (by decide) 6 rfl ?_
  refine g_irem X at_6 (by decide) (2 : Int32) e5 7 rfl ?_
  refine g_istore X at_7 (Ls' := #[.val (.int k0), .val (.int k1), .val (.int k2), .val (.int k3), .val (.int k4), .val (.int (2 : Int32)), .unset, .unset, .unset, .unset, .unset, .unset, .unset, .unset, .unset]) rfl 9 rfl ?_
  refine g_iloadN X at_9 rfl 10 rfl ?_
  refine g_bipush X (8 : Int32) at_10 (by decide) 12 rfl ?_
  refine g_iushr X at_12 _ rfl 13 rfl ?_
  refine g_sipush X (255 : Int32) at_13 (by decide) 16 rfl ?_
  refine g_iand X at_16 _ rfl 17 rfl ?_
  refine g_iconst X (3 : Int32) at_17 (by decide) 18 rfl ?_
  refine g_irem X at_18 (by decide) (0 : Int32) e6 19 rfl ?_
  refine g_istore X at_19 (Ls' := #[.val (.int k0), .val (.int k1), .val (.int k2), .val (.int k3), .val (.int k4), .val (.int (2 : Int32)), .val (.int (0 : Int32)), .unset, .unset, .unset, .unset, .unset, .unset, .unset, .unset]) rfl 21 rfl ?_
  refine g_iloadN X at_21 rfl 22 rfl ?_
  refine g_sipush X (255 : Int32) at_22 (by decide) 25 rfl ?_
  refine g_iand X at_25 _ rfl 26 rfl ?_
  refine g_i2c X at_26 (k1 &&& (255 : Int32)) (i2c_mask _) 27 rfl ?_
  refine g_istore X at_27 (Ls' := #[.val (.int k0), .val (.int k1), .val (.int k2), .val (.int k3), .val (.int k4), .val (.int (2 : Int32)), .val (.int (0 : Int32)), .val (.int (k1 &&& (255 : Int32))), .unset, .unset, .unset, .unset, .unset, .unset, .unset]) rfl 29 rfl ?_
  refine g_iloadN X at_29 rfl 30 rfl ?_
  refine g_sipush X (255 : Int32) at_30 (by decide) 33 rfl ?_
  refine g_iand X at_33 _ rfl 34 rfl ?_
  refine g_i2c X at_34 (k2 &&& (255 : Int32)) (i2c_mask _) 35 rfl ?_
  refine g_istore X at_35 (Ls' := #[.val (.int k0), .val (.int k1), .val (.int k2), .val (.int k3), .val (.int k4), .val (.int (2 : Int32)), .val (.int (0 : Int32)), .val (.int (k1 &&& (255 : Int32))), .val (.int (k2 &&& (255 : Int32))), .unset, .unset, .unset, .unset, .unset, .unset]) rfl 37 rfl ?_
  refine g_iloadN X at_37 rfl 38 rfl ?_
  refine g_sipush X (255 : Int32) at_38 (by decide) 41 rfl ?_
  refine g_iand X at_41 _ rfl 42 rfl ?_
  refine g_i2c X at_42 (k3 &&& (255 : Int32)) (i2c_mask _) 43 rfl ?_
  refine g_istore X at_43 (Ls' := #[.val (.int k0), .val (.int k1), .val (.int k2), .val (.int k3), .val (.int k4), .val (.int (2 : Int32)), .val (.int (0 : Int32)), .val (.int (k1 &&& (255 : Int32))), .val (.int (k2 &&& (255 : Int32))), .val (.int (k3 &&& (255 : Int32))), .unset, .unset, .unset, .unset, .unset]) rfl 45 rfl ?_
  refine g_iload X at_45 rfl 47 rfl ?_
  refine g_sipush X (255 : Int32) at_47 (by decide) 50 rfl ?_
  refine g_iand X at_50 _ rfl 51 rfl ?_
  refine g_i2c X at_51 (k4 &&& (255 : Int32)) (i2c_mask _) 52 rfl ?_
  refine g_istore X at_52 (Ls' := #[.val (.int k0), .val (.int k1), .val (.int k2), .val (.int k3), .val (.int k4), .val (.int (2 : Int32)), .val (.int (0 : Int32)), .val (.int (k1 &&& (255 : Int32))), .val (.int (k2 &&& (255 : Int32))), .val (.int (k3 &&& (255 : Int32))), .val (.int (k4 &&& (255 : Int32))), .unset, .unset, .unset, .unset]) rfl 54 rfl ?_
  refine g_iload X at_54 rfl 56 rfl ?_
  refine g_iload X at_56 rfl 58 rfl ?_
  refine g_iload X at_58 rfl 60 rfl ?_
  refine g_callSv X (hw _ (List.mem_of_getElem? (i := 0) rfl)) (hw _ (List.mem_of_getElem? (i := 1) rfl)) (hw _ (List.mem_of_getElem? (i := 2) rfl)) (hw _ (List.mem_of_getElem? (i := 3) rfl)) (by decide) (c_str2 l Z a0 G k1 k2 ([]) h) (fun _ q => q) (argsL := [.int (2 : Int32), .int (k1 &&& (255 : Int32)), .int (k2 &&& (255 : Int32))]) (rest := []) pd_0 rfl rfl rfl rfl 0 (Nat.le_of_eq rfl) (by decide) (by decide) (ck := 3) rfl (cs := 8) rfl (by decide) (by decide) at_60 63 rfl ?_
  intro w3 T1 h5 X2 hq4
  obtain ⟨s6, rfl, E7, S8⟩ := hq4
  refine g_astore X2 at_63 rfl (Ls' := #[.val (.int k0), .val (.int k1), .val (.int k2), .val (.int k3), .val (.int k4), .val (.int (2 : Int32)), .val (.int (0 : Int32)), .val (.int (k1 &&& (255 : Int32))), .val (.int (k2 &&& (255 : Int32))), .val (.int (k3 &&& (255 : Int32))), .val (.int (k4 &&& (255 : Int32))), .val (.ref s6), .unset, .unset, .unset]) rfl 65 rfl ?_
  refine g_iload X2 at_65 rfl 67 rfl ?_
  refine g_iload X2 at_67 rfl 69 rfl ?_
  refine g_iload X2 at_69 rfl 71 rfl ?_
  refine g_callSv X2 (hw _ (List.mem_of_getElem? (i := 0) rfl)) (hw _ (List.mem_of_getElem? (i := 1) rfl)) (hw _ (List.mem_of_getElem? (i := 2) rfl)) (hw _ (List.mem_of_getElem? (i := 3) rfl)) (by decide) (c_str0 l Z a0 G k3 k4 ([]) h5) (fun _ q => q) (argsL := [.int (0 : Int32), .int (k3 &&& (255 : Int32)), .int (k4 &&& (255 : Int32))]) (rest := []) pd_0 rfl rfl rfl rfl 0 (Nat.le_of_eq rfl) (by decide) (by decide) (ck := 7) rfl (cs := 16) rfl (by decide) (by decide) at_71 74 rfl ?_
  intro w11 T9 h13 X10 hq12
  obtain ⟨s14, rfl, E15, S16⟩ := hq12
  refine g_astore X10 at_74 rfl (Ls' := #[.val (.int k0), .val (.int k1), .val (.int k2), .val (.int k3), .val (.int k4), .val (.int (2 : Int32)), .val (.int (0 : Int32)), .val (.int (k1 &&& (255 : Int32))), .val (.int (k2 &&& (255 : Int32))), .val (.int (k3 &&& (255 : Int32))), .val (.int (k4 &&& (255 : Int32))), .val (.ref s6), .val (.ref s14), .unset, .unset]) rfl 76 rfl ?_
  refine g_aload X10 at_76 rfl rfl 78 rfl ?_
  refine g_aload X10 at_78 rfl rfl 80 rfl ?_
  refine g_callSvK X10 hkn (hw _ (List.mem_of_getElem? (i := 26) rfl)) (hw _ (List.mem_of_getElem? (i := 27) rfl)) (hw _ (List.mem_of_getElem? (i := 28) rfl)) (hw _ (List.mem_of_getElem? (i := 29) rfl)) (by decide) (c_al20 l Z a0 G hst s6 s14 ([]) (k1 &&& (255 : Int32)) (k2 &&& (255 : Int32)) 0 0 h13 (S8.ext E15) S16) (fun _ q => q) (argsL := [.ref s6, .ref s14]) (rest := []) pd_1 rfl rfl rfl rfl 0 (Nat.le_of_eq rfl) (by decide) (by decide) (ck := 21) rfl (cs := 3259) rfl (by decide) (by decide) at_80 83 rfl ?_
  intro w17 T18 h19 X20 hq21
  obtain ⟨j22, r23, rfl, E24, A25, F26, S27⟩ := hq21
  refine g_callWp X20 (owner := "java/lang/Throwable") (hw _ (List.mem_of_getElem? (i := 225) rfl)) (hw _ (List.mem_of_getElem? (i := 226) rfl)) (hw _ (List.mem_of_getElem? (i := 227) rfl)) (hw _ (List.mem_of_getElem? (i := 229) rfl)) (hw _ (List.mem_of_getElem? (i := 228) rfl)) (hw _ (List.mem_of_getElem? (i := 186) rfl)) (hw _ (List.mem_of_getElem? (i := 230) rfl)) (by decide) A25 (c_gm l Z a0 G j22 r23 h19 F26) (by simp) (argsL := []) (rest := []) pd_21 rfl rfl rfl rfl 0 (Nat.le_of_eq rfl) (by decide) (by decide) (ck := 21) rfl (cs := 3259) rfl (by decide) (by decide) at_83 86 rfl ?_
  intro w28 T29 X30 hq31
  subst hq31
  refine g_astore X30 at_86 rfl (Ls' := #[.val (.int k0), .val (.int k1), .val (.int k2), .val (.int k3), .val (.int k4), .val (.int (2 : Int32)), .val (.int (0 : Int32)), .val (.int (k1 &&& (255 : Int32))), .val (.int (k2 &&& (255 : Int32))), .val (.int (k3 &&& (255 : Int32))), .val (.int (k4 &&& (255 : Int32))), .val (.ref s6), .val (.ref s14), .val (.ref r23), .unset]) rfl 88 rfl ?_
  refine g_aload X30 at_88 rfl rfl 90 rfl ?_
  refine g_ifnonnullYes X30 at_90 95 (by decide) (by decide) ?_
  refine g_aload X30 at_95 rfl rfl 97 rfl ?_
  obtain ⟨t32, kb33, e34, f35, f36, kc37, b38, l39, n40⟩ := id S27
  refine g_callVp X30 (hw _ (List.mem_of_getElem? (i := 231) rfl)) (hw _ (List.mem_of_getElem? (i := 62) rfl)) (hw _ (List.mem_of_getElem? (i := 64) rfl)) (hw _ (List.mem_of_getElem? (i := 63) rfl)) (hw _ (List.mem_of_getElem? (i := 6) rfl)) (hw _ (List.mem_of_getElem? (i := 65) rfl)) (nfSel (hw _ (List.mem_of_getElem? (i := 64) rfl))) (by decide) e34 (c_len l Z a0 G r23 t32 kb33 (msgL [k1 &&& (255 : Int32), k2 &&& (255 : Int32)] ([] : List Int32)) h19 e34 f35 f36 kc37 b38 l39) (by simp) (argsL := []) (rest := []) pd_5 rfl rfl rfl rfl 0 (Nat.le_of_eq rfl) (by decide) (by decide) (ck := 21) rfl (cs := 3259) rfl (by decide) (by decide) at_97 100 rfl ?_
  intro w43 T41 X42 hq44
  subst hq44
  refine g_bipush X42 (61 : Int32) at_100 (by decide) 102 rfl ?_
  refine g_iload X42 at_102 rfl 104 rfl ?_
  refine g_iadd X42 at_104 (63 : Int32) (by decide) 105 rfl ?_
  refine g_iload X42 at_105 rfl 107 rfl ?_
  refine g_iadd X42 at_107 (63 : Int32) (by decide) 108 rfl ?_
  refine g_icmpYes X42 at_108 (XT.ii_eq_t rfl) 113 (by decide) (by decide) ?_
  refine g_iload X42 at_113 rfl 115 rfl ?_
  refine g_ifYes X42 at_115 (XT.ii_ne_t (by decide)) 135 (by decide) (by decide) ?_
  refine g_aload X42 at_135 rfl rfl 137 rfl ?_
  refine g_iconst X42 (0 : Int32) at_137 (by decide) 138 rfl ?_
  refine g_bipush X42 (67 : Int32) at_138 (by decide) 140 rfl ?_
  refine g_callSp X42 (hw _ (List.mem_of_getElem? (i := 243) rfl)) (hw _ (List.mem_of_getElem? (i := 244) rfl)) (hw _ (List.mem_of_getElem? (i := 2) rfl)) (hw _ (List.mem_of_getElem? (i := 245) rfl)) (by decide) (c_at l Z a0 G r23 t32 kb33 (msgL [k1 &&& (255 : Int32), k2 &&& (255 : Int32)] ([] : List Int32)) 0 (67 : Int32) h19 e34 f35 f36 kc37 b38 l39 (Nat.le_of_ble_eq_true rfl) rfl) (by simp) (argsL := [.ref r23, .int (0 : Int32), .int (67 : Int32)]) (rest := []) pd_3 rfl rfl rfl rfl 0 (Nat.le_of_eq rfl) (by decide) (by decide) (ck := 21) rfl (cs := 3259) rfl (by decide) (by decide) at_140 143 rfl ?_
  intro w47 T45 X46 hq48
  subst hq48
  refine g_ifNo X46 at_143 (XT.ii_eq_f (by decide)) 146 rfl ?_
  refine g_aload X46 at_146 rfl rfl 148 rfl ?_
  refine g_bipush X46 (16 : Int32) at_148 (by decide) 150 rfl ?_
  refine g_bipush X46 (32 : Int32) at_150 (by decide) 152 rfl ?_
  refine g_callSp X46 (hw _ (List.mem_of_getElem? (i := 243) rfl)) (hw _ (List.mem_of_getElem? (i := 244) rfl)) (hw _ (List.mem_of_getElem? (i := 2) rfl)) (hw _ (List.mem_of_getElem? (i := 245) rfl)) (by decide) (c_at l Z a0 G r23 t32 kb33 (msgL [k1 &&& (255 : Int32), k2 &&& (255 : Int32)] ([] : List Int32)) 16 (32 : Int32) h19 e34 f35 f36 kc37 b38 l39 (Nat.le_of_ble_eq_true rfl) rfl) (by simp) (argsL := [.ref r23, .int (16 : Int32), .int (32 : Int32)]) (rest := []) pd_3 rfl rfl rfl rfl 0 (Nat.le_of_eq rfl) (by decide) (by decide) (ck := 21) rfl (cs := 3259) rfl (by decide) (by decide) at_152 155 rfl ?_
  intro w51 T49 X50 hq52
  subst hq52
  refine g_ifNo X50 at_155 (XT.ii_eq_f (by decide)) 158 rfl ?_
  refine g_aload X50 at_158 rfl rfl 160 rfl ?_
  refine g_bipush X50 (17 : Int32) at_160 (by decide) 162 rfl ?_
  refine g_bipush X50 (34 : Int32) at_162 (by decide) 164 rfl ?_
  refine g_callSp X50 (hw _ (List.mem_of_getElem? (i := 243) rfl)) (hw _ (List.mem_of_getElem? (i := 244) rfl)) (hw _ (List.mem_of_getElem? (i := 2) rfl)) (hw _ (List.mem_of_getElem? (i := 245) rfl)) (by decide) (c_at l Z a0 G r23 t32 kb33 (msgL [k1 &&& (255 : Int32), k2 &&& (255 : Int32)] ([] : List Int32)) 17 (34 : Int32) h19 e34 f35 f36 kc37 b38 l39 (Nat.le_of_ble_eq_true rfl) rfl) (by simp) (argsL := [.ref r23, .int (17 : Int32), .int (34 : Int32)]) (rest := []) pd_3 rfl rfl rfl rfl 0 (Nat.le_of_eq rfl) (by decide) (by decide) (ck := 21) rfl (cs := 3259) rfl (by decide) (by decide) at_164 167 rfl ?_
  intro w55 T53 X54 hq56
  subst hq56
  refine g_ifNo X54 at_167 (XT.ii_eq_f (by decide)) 170 rfl ?_
  refine g_aload X54 at_170 rfl rfl 172 rfl ?_
  refine g_bipush X54 (18 : Int32) at_172 (by decide) 174 rfl ?_
  refine g_iload X54 at_174 rfl 176 rfl ?_
  refine g_iadd X54 at_176 (20 : Int32) (by decide) 177 rfl ?_
  refine g_bipush X54 (34 : Int32) at_177 (by decide) 179 rfl ?_
  refine g_callSp X54 (hw _ (List.mem_of_getElem? (i := 243) rfl)) (hw _ (List.mem_of_getElem? (i := 244) rfl)) (hw _ (List.mem_of_getElem? (i := 2) rfl)) (hw _ (List.mem_of_getElem? (i := 245) rfl)) (by decide) (c_at l Z a0 G r23 t32 kb33 (msgL [k1 &&& (255 : Int32), k2 &&& (255 : Int32)] ([] : List Int32)) 20 (34 : Int32) h19 e34 f35 f36 kc37 b38 l39 (Nat.le_of_ble_eq_true rfl) rfl) (by simp) (argsL := [.ref r23, .int (20 : Int32), .int (34 : Int32)]) (rest := []) pd_3 rfl rfl rfl rfl 0 (Nat.le_of_eq rfl) (by decide) (by decide) (ck := 21) rfl (cs := 3259) rfl (by decide) (by decide) at_179 182 rfl ?_
  intro w59 T57 X58 hq60
  subst hq60
  refine g_ifNo X58 at_182 (XT.ii_eq_f (by decide)) 185 rfl ?_
  refine g_aload X58 at_185 rfl rfl 187 rfl ?_
  refine g_bipush X58 (19 : Int32) at_187 (by decide) 189 rfl ?_
  refine g_iload X58 at_189 rfl 191 rfl ?_
  refine g_iadd X58 at_191 (21 : Int32) (by decide) 192 rfl ?_
  refine g_bipush X58 (32 : Int32) at_192 (by decide) 194 rfl ?_
  refine g_callSp X58 (hw _ (List.mem_of_getElem? (i := 243) rfl)) (hw _ (List.mem_of_getElem? (i := 244) rfl)) (hw _ (List.mem_of_getElem? (i := 2) rfl)) (hw _ (List.mem_of_getElem? (i := 245) rfl)) (by decide) (c_at l Z a0 G r23 t32 kb33 (msgL [k1 &&& (255 : Int32), k2 &&& (255 : Int32)] ([] : List Int32)) 21 (32 : Int32) h19 e34 f35 f36 kc37 b38 l39 (Nat.le_of_ble_eq_true rfl) rfl) (by simp) (argsL := [.ref r23, .int (21 : Int32), .int (32 : Int32)]) (rest := []) pd_3 rfl rfl rfl rfl 0 (Nat.le_of_eq rfl) (by decide) (by decide) (ck := 21) rfl (cs := 3259) rfl (by decide) (by decide) at_194 197 rfl ?_
  intro w63 T61 X62 hq64
  subst hq64
  refine g_ifNo X62 at_197 (XT.ii_eq_f (by decide)) 200 rfl ?_
  refine g_aload X62 at_200 rfl rfl 202 rfl ?_
  refine g_bipush X62 (29 : Int32) at_202 (by decide) 204 rfl ?_
  refine g_iload X62 at_204 rfl 206 rfl ?_
  refine g_iadd X62 at_206 (31 : Int32) (by decide) 207 rfl ?_
  refine g_bipush X62 (32 : Int32) at_207 (by decide) 209 rfl ?_
  refine g_callSp X62 (hw _ (List.mem_of_getElem? (i := 243) rfl)) (hw _ (List.mem_of_getElem? (i := 244) rfl)) (hw _ (List.mem_of_getElem? (i := 2) rfl)) (hw _ (List.mem_of_getElem? (i := 245) rfl)) (by decide) (c_at l Z a0 G r23 t32 kb33 (msgL [k1 &&& (255 : Int32), k2 &&& (255 : Int32)] ([] : List Int32)) 31 (32 : Int32) h19 e34 f35 f36 kc37 b38 l39 (Nat.le_of_ble_eq_true rfl) rfl) (by simp) (argsL := [.ref r23, .int (31 : Int32), .int (32 : Int32)]) (rest := []) pd_3 rfl rfl rfl rfl 0 (Nat.le_of_eq rfl) (by decide) (by decide) (ck := 21) rfl (cs := 3259) rfl (by decide) (by decide) at_209 212 rfl ?_
  intro w67 T65 X66 hq68
  subst hq68
  refine g_ifNo X66 at_212 (XT.ii_eq_f (by decide)) 215 rfl ?_
  refine g_aload X66 at_215 rfl rfl 217 rfl ?_
  refine g_bipush X66 (30 : Int32) at_217 (by decide) 219 rfl ?_
  refine g_iload X66 at_219 rfl 221 rfl ?_
  refine g_iadd X66 at_221 (32 : Int32) (by decide) 222 rfl ?_
  refine g_bipush X66 (34 : Int32) at_222 (by decide) 224 rfl ?_
  refine g_callSp X66 (hw _ (List.mem_of_getElem? (i := 243) rfl)) (hw _ (List.mem_of_getElem? (i := 244) rfl)) (hw _ (List.mem_of_getElem? (i := 2) rfl)) (hw _ (List.mem_of_getElem? (i := 245) rfl)) (by decide) (c_at l Z a0 G r23 t32 kb33 (msgL [k1 &&& (255 : Int32), k2 &&& (255 : Int32)] ([] : List Int32)) 32 (34 : Int32) h19 e34 f35 f36 kc37 b38 l39 (Nat.le_of_ble_eq_true rfl) rfl) (by simp) (argsL := [.ref r23, .int (32 : Int32), .int (34 : Int32)]) (rest := []) pd_3 rfl rfl rfl rfl 0 (Nat.le_of_eq rfl) (by decide) (by decide) (ck := 21) rfl (cs := 3259) rfl (by decide) (by decide) at_224 227 rfl ?_
  intro w71 T69 X70 hq72
  subst hq72
  refine g_ifNo X70 at_227 (XT.ii_eq_f (by decide)) 230 rfl ?_
  refine g_aload X70 at_230 rfl rfl 232 rfl ?_
  refine g_bipush X70 (31 : Int32) at_232 (by decide) 234 rfl ?_
  refine g_iload X70 at_234 rfl 236 rfl ?_
  refine g_iadd X70 at_236 (33 : Int32) (by decide) 237 rfl ?_
  refine g_iload X70 at_237 rfl 239 rfl ?_
  refine g_iadd X70 at_239 (33 : Int32) (by decide) 240 rfl ?_
  refine g_bipush X70 (34 : Int32) at_240 (by decide) 242 rfl ?_
  refine g_callSp X70 (hw _ (List.mem_of_getElem? (i := 243) rfl)) (hw _ (List.mem_of_getElem? (i := 244) rfl)) (hw _ (List.mem_of_getElem? (i := 2) rfl)) (hw _ (List.mem_of_getElem? (i := 245) rfl)) (by decide) (c_at l Z a0 G r23 t32 kb33 (msgL [k1 &&& (255 : Int32), k2 &&& (255 : Int32)] ([] : List Int32)) 33 (34 : Int32) h19 e34 f35 f36 kc37 b38 l39 (Nat.le_of_ble_eq_true rfl) rfl) (by simp) (argsL := [.ref r23, .int (33 : Int32), .int (34 : Int32)]) (rest := []) pd_3 rfl rfl rfl rfl 0 (Nat.le_of_eq rfl) (by decide) (by decide) (ck := 21) rfl (cs := 3259) rfl (by decide) (by decide) at_242 245 rfl ?_
  intro w75 T73 X74 hq76
  subst hq76
  refine g_ifNo X74 at_245 (XT.ii_eq_f (by decide)) 248 rfl ?_
  refine g_aload X74 at_248 rfl rfl 250 rfl ?_
  refine g_bipush X74 (32 : Int32) at_250 (by decide) 252 rfl ?_
  refine g_iload X74 at_252 rfl 254 rfl ?_
  refine g_iadd X74 at_254 (34 : Int32) (by decide) 255 rfl ?_
  refine g_iload X74 at_255 rfl 257 rfl ?_
  refine g_iadd X74 at_257 (34 : Int32) (by decide) 258 rfl ?_
  refine g_bipush X74 (58 : Int32) at_258 (by decide) 260 rfl ?_
  refine g_callSp X74 (hw _ (List.mem_of_getElem? (i := 243) rfl)) (hw _ (List.mem_of_getElem? (i := 244) rfl)) (hw _ (List.mem_of_getElem? (i := 2) rfl)) (hw _ (List.mem_of_getElem? (i := 245) rfl)) (by decide) (c_at l Z a0 G r23 t32 kb33 (msgL [k1 &&& (255 : Int32), k2 &&& (255 : Int32)] ([] : List Int32)) 34 (58 : Int32) h19 e34 f35 f36 kc37 b38 l39 (Nat.le_of_ble_eq_true rfl) rfl) (by simp) (argsL := [.ref r23, .int (34 : Int32), .int (58 : Int32)]) (rest := []) pd_3 rfl rfl rfl rfl 0 (Nat.le_of_eq rfl) (by decide) (by decide) (ck := 21) rfl (cs := 3259) rfl (by decide) (by decide) at_260 263 rfl ?_
  intro w79 T77 X78 hq80
  subst hq80
  refine g_ifNo X78 at_263 (XT.ii_eq_f (by decide)) 266 rfl ?_
  refine g_aload X78 at_266 rfl rfl 268 rfl ?_
  refine g_bipush X78 (33 : Int32) at_268 (by decide) 270 rfl ?_
  refine g_iload X78 at_270 rfl 272 rfl ?_
  refine g_iadd X78 at_272 (35 : Int32) (by decide) 273 rfl ?_
  refine g_iload X78 at_273 rfl 275 rfl ?_
  refine g_iadd X78 at_275 (35 : Int32) (by decide) 276 rfl ?_
  refine g_bipush X78 (32 : Int32) at_276 (by decide) 278 rfl ?_
  refine g_callSp X78 (hw _ (List.mem_of_getElem? (i := 243) rfl)) (hw _ (List.mem_of_getElem? (i := 244) rfl)) (hw _ (List.mem_of_getElem? (i := 2) rfl)) (hw _ (List.mem_of_getElem? (i := 245) rfl)) (by decide) (c_at l Z a0 G r23 t32 kb33 (msgL [k1 &&& (255 : Int32), k2 &&& (255 : Int32)] ([] : List Int32)) 35 (32 : Int32) h19 e34 f35 f36 kc37 b38 l39 (Nat.le_of_ble_eq_true rfl) rfl) (by simp) (argsL := [.ref r23, .int (35 : Int32), .int (32 : Int32)]) (rest := []) pd_3 rfl rfl rfl rfl 0 (Nat.le_of_eq rfl) (by decide) (by decide) (ck := 21) rfl (cs := 3259) rfl (by decide) (by decide) at_278 281 rfl ?_
  intro w83 T81 X82 hq84
  subst hq84
  refine g_ifNo X82 at_281 (XT.ii_eq_f (by decide)) 284 rfl ?_
  refine g_aload X82 at_284 rfl rfl 286 rfl ?_
  refine g_bipush X82 (60 : Int32) at_286 (by decide) 288 rfl ?_
  refine g_iload X82 at_288 rfl 290 rfl ?_
  refine g_iadd X82 at_290 (62 : Int32) (by decide) 291 rfl ?_
  refine g_iload X82 at_291 rfl 293 rfl ?_
  refine g_iadd X82 at_293 (62 : Int32) (by decide) 294 rfl ?_
  refine g_bipush X82 (101 : Int32) at_294 (by decide) 296 rfl ?_
  refine g_callSp X82 (hw _ (List.mem_of_getElem? (i := 243) rfl)) (hw _ (List.mem_of_getElem? (i := 244) rfl)) (hw _ (List.mem_of_getElem? (i := 2) rfl)) (hw _ (List.mem_of_getElem? (i := 245) rfl)) (by decide) (c_at l Z a0 G r23 t32 kb33 (msgL [k1 &&& (255 : Int32), k2 &&& (255 : Int32)] ([] : List Int32)) 62 (101 : Int32) h19 e34 f35 f36 kc37 b38 l39 (Nat.le_of_ble_eq_true rfl) rfl) (by simp) (argsL := [.ref r23, .int (62 : Int32), .int (101 : Int32)]) (rest := []) pd_3 rfl rfl rfl rfl 0 (Nat.le_of_eq rfl) (by decide) (by decide) (ck := 21) rfl (cs := 3259) rfl (by decide) (by decide) at_296 299 rfl ?_
  intro w87 T85 X86 hq88
  subst hq88
  refine g_ifNo X86 at_299 (XT.ii_eq_f (by decide)) 302 rfl ?_
  refine g_iconst X86 (1 : Int32) at_302 (by decide) 303 rfl ?_
  refine g_goto X86 at_303 307 (by decide) (by decide) ?_
  refine g_istore X86 at_307 (Ls' := #[.val (.int k0), .val (.int k1), .val (.int k2), .val (.int k3), .val (.int k4), .val (.int (2 : Int32)), .val (.int (0 : Int32)), .val (.int (k1 &&& (255 : Int32))), .val (.int (k2 &&& (255 : Int32))), .val (.int (k3 &&& (255 : Int32))), .val (.int (k4 &&& (255 : Int32))), .val (.ref s6), .val (.ref s14), .val (.ref r23), .val (.int (1 : Int32))]) rfl 309 rfl ?_
  refine g_iload X86 at_309 rfl 311 rfl ?_
  refine g_iconst X86 (1 : Int32) at_311 (by decide) 312 rfl ?_
  refine g_icmpNo X86 at_312 (XT.ii_lt_f (by decide)) 315 rfl ?_
  refine g_iload X86 at_315 rfl 317 rfl ?_
  refine g_ifNo X86 at_317 (XT.ii_eq_f (by decide)) 320 rfl ?_
  refine g_aload X86 at_320 rfl rfl 322 rfl ?_
  refine g_bipush X86 (18 : Int32) at_322 (by decide) 324 rfl ?_
  refine g_iload X86 at_324 rfl 326 rfl ?_
  refine g_callSp X86 (hw _ (List.mem_of_getElem? (i := 243) rfl)) (hw _ (List.mem_of_getElem? (i := 244) rfl)) (hw _ (List.mem_of_getElem? (i := 2) rfl)) (hw _ (List.mem_of_getElem? (i := 245) rfl)) (by decide) (c_at l Z a0 G r23 t32 kb33 (msgL [k1 &&& (255 : Int32), k2 &&& (255 : Int32)] ([] : List Int32)) 18 (k1 &&& (255 : Int32)) h19 e34 f35 f36 kc37 b38 l39 (Nat.le_of_ble_eq_true rfl) rfl) (by simp) (argsL := [.ref r23, .int (18 : Int32), .int (k1 &&& (255 : Int32))]) (rest := []) pd_3 rfl rfl rfl rfl 0 (Nat.le_of_eq rfl) (by decide) (by decide) (ck := 21) rfl (cs := 3259) rfl (by decide) (by decide) at_326 329 rfl ?_
  intro w91 T89 X90 hq92
  subst hq92
  refine g_ifNo X90 at_329 (XT.ii_eq_f (by decide)) 332 rfl ?_
  refine g_iconst X90 (1 : Int32) at_332 (by decide) 333 rfl ?_
  refine g_goto X90 at_333 337 (by decide) (by decide) ?_
  refine g_istore X90 at_337 (Ls' := #[.val (.int k0), .val (.int k1), .val (.int k2), .val (.int k3), .val (.int k4), .val (.int (2 : Int32)), .val (.int (0 : Int32)), .val (.int (k1 &&& (255 : Int32))), .val (.int (k2 &&& (255 : Int32))), .val (.int (k3 &&& (255 : Int32))), .val (.int (k4 &&& (255 : Int32))), .val (.ref s6), .val (.ref s14), .val (.ref r23), .val (.int (1 : Int32))]) rfl 339 rfl ?_
  refine g_iload X90 at_339 rfl 341 rfl ?_
  refine g_iconst X90 (2 : Int32) at_341 (by decide) 342 rfl ?_
  refine g_icmpNo X90 at_342 (XT.ii_ne_f (by decide)) 345 rfl ?_
  refine g_iload X90 at_345 rfl 347 rfl ?_
  refine g_ifNo X90 at_347 (XT.ii_eq_f (by decide)) 350 rfl ?_
  refine g_aload X90 at_350 rfl rfl 352 rfl ?_
  refine g_bipush X90 (19 : Int32) at_352 (by decide) 354 rfl ?_
  refine g_iload X90 at_354 rfl 356 rfl ?_
  refine g_callSp X90 (hw _ (List.mem_of_getElem? (i := 243) rfl)) (hw _ (List.mem_of_getElem? (i := 244) rfl)) (hw _ (List.mem_of_getElem? (i := 2) rfl)) (hw _ (List.mem_of_getElem? (i := 245) rfl)) (by decide) (c_at l Z a0 G r23 t32 kb33 (msgL [k1 &&& (255 : Int32), k2 &&& (255 : Int32)] ([] : List Int32)) 19 (k2 &&& (255 : Int32)) h19 e34 f35 f36 kc37 b38 l39 (Nat.le_of_ble_eq_true rfl) rfl) (by simp) (argsL := [.ref r23, .int (19 : Int32), .int (k2 &&& (255 : Int32))]) (rest := []) pd_3 rfl rfl rfl rfl 0 (Nat.le_of_eq rfl) (by decide) (by decide) (ck := 21) rfl (cs := 3259) rfl (by decide) (by decide) at_356 359 rfl ?_
  intro w95 T93 X94 hq96
  subst hq96
  refine g_ifNo X94 at_359 (XT.ii_eq_f (by decide)) 362 rfl ?_
  refine g_iconst X94 (1 : Int32) at_362 (by decide) 363 rfl ?_
  refine g_goto X94 at_363 367 (by decide) (by decide) ?_
  refine g_istore X94 at_367 (Ls' := #[.val (.int k0), .val (.int k1), .val (.int k2), .val (.int k3), .val (.int k4), .val (.int (2 : Int32)), .val (.int (0 : Int32)), .val (.int (k1 &&& (255 : Int32))), .val (.int (k2 &&& (255 : Int32))), .val (.int (k3 &&& (255 : Int32))), .val (.int (k4 &&& (255 : Int32))), .val (.ref s6), .val (.ref s14), .val (.ref r23), .val (.int (1 : Int32))]) rfl 369 rfl ?_
  refine g_iload X94 at_369 rfl 371 rfl ?_
  refine g_iconst X94 (1 : Int32) at_371 (by decide) 372 rfl ?_
  refine g_icmpYes X94 at_372 (XT.ii_lt_t (by decide)) 402 (by decide) (by decide) ?_
  refine g_iload X94 at_402 rfl 404 rfl ?_
  refine g_iconst X94 (2 : Int32) at_404 (by decide) 405 rfl ?_
  refine g_icmpYes X94 at_405 (XT.ii_ne_t (by decide)) 435 (by decide) (by decide) ?_
  refine g_iload X94 at_435 rfl 437 rfl ?_
  exact g_retN X94 (t := .boolean) rfl (by simp) at_437 _ rfl (by decide) (by decide) rfl
set_option maxRecDepth 65536 in
set_option maxHeartbeats 40000000 in
theorem c_law21 (l : Launch) (Z : State) (a0 : Array Value) (G : Gl Z a0) (hst : l.stackTraces = true) (k0 k1 k2 k3 k4 : Int32) (h : Heap) (e5 : (k0 &&& (255 : Int32)) % (3 : Int32) = 2) (e6 : (XT.ushr k0 (8 : Int32) &&& (255 : Int32)) % (3 : Int32) = 1) :
    CtrK KnownL l Z EL nw x code maxLocals ret room_1 #[.int k0, .int k1, .int k2, .int k3, .int k4] h [] (fun v _ => v = some (.int 1)) := by
  obtain ⟨hw, hEL, hSA, ⟨zc, SC, hz⟩, ⟨fm, SF, hfm⟩, ⟨u0, SUn⟩, ⟨sp, SP, hsp⟩⟩ := id G
  refine CtrK.enter (K := KnownL) (own := "com/example/capsa/capsa/BeanNameInUseExceptionAliasPinLaw") (nm := "law") rfl rfl hEL (plainFor_of_name pn_7) #[.val (.int k0), .val (.int k1), .val (.int k2), .val (.int k3), .val (.int k4), .unset, .unset, .unset, .unset, .unset, .unset, .unset, .unset, .unset, .unset] (fun m => entry1 m _ _ (by simp [Value.category]) rfl) ?_
  intro p e s m below meth c T hfr hK hZs X
  obtain ⟨as0, hfr⟩ := hfr
  have hkn : KnownK below s := ⟨MethodsKnown_of_tablesKnown hK.2, FramesKnown_of_framesKnown hK.1 hfr⟩
  refine g_iloadN X at_0 rfl 1 rfl ?_
  refine g_sipush X (255 : Int32) at_1 (by decide) 4 rfl ?_
  refine g_iand X at_4 _ rfl 5 rfl ?_
  refine g_iconst X (3 : Int32) at_5 (by decide) 6 rfl ?_
  refine g_irem X at_6 (by decide) (2 : Int32) e5 7 rfl ?_
  refine g_istore X at_7 (Ls' := #[.val (.int k0), .val (.int k1), .val (.int k2), .val (.int k3), .val (.int k4), .val (.int (2 : Int32)), .unset, .unset, .unset, .unset, .unset, .unset, .unset, .unset, .unset]) rfl 9 rfl ?_
  refine g_iloadN X at_9 rfl 10 rfl ?_
  refine g_bipush X (8 : Int32) at_10 (by decide) 12 rfl ?_
  refine g_iushr X at_12 _ rfl 13 rfl ?_
  refine g_sipush X (255 : Int32) at_13 (by decide) 16 rfl ?_
  refine g_iand X at_16 _ rfl 17 rfl ?_
  refine g_iconst X (3 : Int32) at_17 (by decide) 18 rfl ?_
  refine g_irem X at_18 (by decide) (1 : Int32) e6 19 rfl ?_
  refine g_istore X at_19 (Ls' := #[.val (.int k0), .val (.int k1), .val (.int k2), .val (.int k3), .val (.int k4), .val (.int (2 : Int32)), .val (.int (1 : Int32)), .unset, .unset, .unset, .unset, .unset, .unset, .unset, .unset]) rfl 21 rfl ?_
  refine g_iloadN X at_21 rfl 22 rfl ?_
  refine g_sipush X (255 : Int32) at_22 (by decide) 25 rfl ?_
  refine g_iand X at_25 _ rfl 26 rfl ?_
  refine g_i2c X at_26 (k1 &&& (255 : Int32)) (i2c_mask _) 27 rfl ?_
  refine g_istore X at_27 (Ls' := #[.val (.int k0), .val (.int k1), .val (.int k2), .val (.int k3), .val (.int k4), .val (.int (2 : Int32)), .val (.int (1 : Int32)), .val (.int (k1 &&& (255 : Int32))), .unset, .unset, .unset, .unset, .unset, .unset, .unset]) rfl 29 rfl ?_
  refine g_iloadN X at_29 rfl 30 rfl ?_
  refine g_sipush X (255 : Int32) at_30 (by decide) 33 rfl ?_
  refine g_iand X at_33 _ rfl 34 rfl ?_
  refine g_i2c X at_34 (k2 &&& (255 : Int32)) (i2c_mask _) 35 rfl ?_
  refine g_istore X at_35 (Ls' := #[.val (.int k0), .val (.int k1), .val (.int k2), .val (.int k3), .val (.int k4), .val (.int (2 : Int32)), .val (.int (1 : Int32)), .val (.int (k1 &&& (255 : Int32))), .val (.int (k2 &&& (255 : Int32))), .unset, .unset, .unset, .unset, .unset, .unset]) rfl 37 rfl ?_
  refine g_iloadN X at_37 rfl 38 rfl ?_
  refine g_sipush X (255 : Int32) at_38 (by decide) 41 rfl ?_
  refine g_iand X at_41 _ rfl 42 rfl ?_
  refine g_i2c X at_42 (k3 &&& (255 : Int32)) (i2c_mask _) 43 rfl ?_
  refine g_istore X at_43 (Ls' := #[.val (.int k0), .val (.int k1), .val (.int k2), .val (.int k3), .val (.int k4), .val (.int (2 : Int32)), .val (.int (1 : Int32)), .val (.int (k1 &&& (255 : Int32))), .val (.int (k2 &&& (255 : Int32))), .val (.int (k3 &&& (255 : Int32))), .unset, .unset, .unset, .unset, .unset]) rfl 45 rfl ?_
  refine g_iload X at_45 rfl 47 rfl ?_
  refine g_sipush X (255 : Int32) at_47 (by decide) 50 rfl ?_
  refine g_iand X at_50 _ rfl 51 rfl ?_
  refine g_i2c X at_51 (k4 &&& (255 : Int32)) (i2c_mask _) 52 rfl ?_
  refine g_istore X at_52 (Ls' := #[.val (.int k0), .val (.int k1), .val (.int k2), .val (.int k3), .val (.int k4), .val (.int (2 : Int32)), .val (.int (1 : Int32)), .val (.int (k1 &&& (255 : Int32))), .val (.int (k2 &&& (255 : Int32))), .val (.int (k3 &&& (255 : Int32))), .val (.int (k4 &&& (255 : Int32))), .unset, .unset, .unset, .unset]) rfl 54 rfl ?_
  refine g_iload X at_54 rfl 56 rfl ?_
  refine g_iload X at_56 rfl 58 rfl ?_
  refine g_iload X at_58 rfl 60 rfl ?_
  refine g_callSv X (hw _ (List.mem_of_getElem? (i := 0) rfl)) (hw _ (List.mem_of_getElem? (i := 1) rfl)) (hw _ (List.mem_of_getElem? (i := 2) rfl)) (hw _ (List.mem_of_getElem? (i := 3) rfl)) (by decide) (c_str2 l Z a0 G k1 k2 ([]) h) (fun _ q => q) (argsL := [.int (2 : Int32), .int (k1 &&& (255 : Int32)), .int (k2 &&& (255 : Int32))]) (rest := []) pd_0 rfl rfl rfl rfl 0 (Nat.le_of_eq rfl) (by decide) (by decide) (ck := 3) rfl (cs := 8) rfl (by decide) (by decide) at_60 63 rfl ?_
  intro w3 T1 h5 X2 hq4
  obtain ⟨s6, rfl, E7, S8⟩ := hq4
  refine g_astore X2 at_63 rfl (Ls' := #[.val (.int k0), .val (.int k1), .val (.int k2), .val (.int k3), .val (.int k4), .val (.int (2 : Int32)), .val (.int (1 : Int32)), .val (.int (k1 &&& (255 : Int32))), .val (.int (k2 &&& (255 : Int32))), .val (.int (k3 &&& (255 : Int32))), .val (.int (k4 &&& (255 : Int32))), .val (.ref s6), .unset, .unset, .unset]) rfl 65 rfl ?_
  refine g_iload X2 at_65 rfl 67 rfl ?_
  refine g_iload X2 at_67 rfl 69 rfl ?_
  refine g_iload X2 at_69 rfl 71 rfl ?_
  refine g_callSv X2 (hw _ (List.mem_of_getElem? (i := 0) rfl)) (hw _ (List.mem_of_getElem? (i := 1) rfl)) (hw _ (List.mem_of_getElem? (i := 2) rfl)) (hw _ (List.mem_of_getElem? (i := 3) rfl)) (by decide) (c_str1 l Z a0 G k3 k4 ([]) h5) (fun _ q => q) (argsL := [.int (1 : Int32), .int (k3 &&& (255 : Int32)), .int (k4 &&& (255 : Int32))]) (rest := []) pd_0 rfl rfl rfl rfl 0 (Nat.le_of_eq rfl) (by decide) (by decide) (ck := 6) rfl (cs := 14) rfl (by decide) (by decide) at_71 74 rfl ?_
  intro w11 T9 h13 X10 hq12
  obtain ⟨s14, rfl, E15, S16⟩ := hq12
  refine g_astore X10 at_74 rfl (Ls' := #[.val (.int k0), .val (.int k1), .val (.int k2), .val (.int k3), .val (.int k4), .val (.int (2 : Int32)), .val (.int (1 : Int32)), .val (.int (k1 &&& (255 : Int32))), .val (.int (k2 &&& (255 : Int32))), .val (.int (k3 &&& (255 : Int32))), .val (.int (k4 &&& (255 : Int32))), .val (.ref s6), .val (.ref s14), .unset, .unset]) rfl 76 rfl ?_
  refine g_aload X10 at_76 rfl rfl 78 rfl ?_
  refine g_aload X10 at_78 rfl rfl 80 rfl ?_
  refine g_callSvK X10 hkn (hw _ (List.mem_of_getElem? (i := 26) rfl)) (hw _ (List.mem_of_getElem? (i := 27) rfl)) (hw _ (List.mem_of_getElem? (i := 28) rfl)) (hw _ (List.mem_of_getElem? (i := 29) rfl)) (by decide) (c_al21 l Z a0 G hst s6 s14 ([]) (k1 &&& (255 : Int32)) (k2 &&& (255 : Int32)) (k3 &&& (255 : Int32)) 0 h13 (S8.ext E15) S16) (fun _ q => q) (argsL := [.ref s6, .ref s14]) (rest := []) pd_1 rfl rfl rfl rfl 0 (Nat.le_of_eq rfl) (by decide) (by decide) (ck := 20) rfl (cs := 3257) rfl (by decide) (by decide) at_80 83 rfl ?_
  intro w17 T18 h19 X20 hq21
  obtain ⟨j22, r23, rfl, E24, A25, F26, S27⟩ := hq21
  refine g_callWp X20 (owner := "java/lang/Throwable") (hw _ (List.mem_of_getElem? (i := 225) rfl)) (hw _ (List.mem_of_getElem? (i := 226) rfl)) (hw _ (List.mem_of_getElem? (i := 227) rfl)) (hw _ (List.mem_of_getElem? (i := 229) rfl)) (hw _ (List.mem_of_getElem? (i := 228) rfl)) (hw _ (List.mem_of_getElem? (i := 186) rfl)) (hw _ (List.mem_of_getElem? (i := 230) rfl)) (by decide) A25 (c_gm l Z a0 G j22 r23 h19 F26) (by simp) (argsL := []) (rest := []) pd_21 rfl rfl rfl rfl 0 (Nat.le_of_eq rfl) (by decide) (by decide) (ck := 20) rfl (cs := 3257) rfl (by decide) (by decide) at_83 86 rfl ?_
  intro w28 T29 X30 hq31
  subst hq31
  refine g_astore X30 at_86 rfl (Ls' := #[.val (.int k0), .val (.int k1), .val (.int k2), .val (.int k3), .val (.int k4), .val (.int (2 : Int32)), .val (.int (1 : Int32)), .val (.int (k1 &&& (255 : Int32))), .val (.int (k2 &&& (255 : Int32))), .val (.int (k3 &&& (255 : Int32))), .val (.int (k4 &&& (255 : Int32))), .val (.ref s6), .val (.ref s14), .val (.ref r23), .unset]) rfl 88 rfl ?_
  refine g_aload X30 at_88 rfl rfl 90 rfl ?_
  refine g_ifnonnullYes X30 at_90 95 (by decide) (by decide) ?_
  refine g_aload X30 at_95 rfl rfl 97 rfl ?_
  obtain ⟨t32, kb33, e34, f35, f36, kc37, b38, l39, n40⟩ := id S27
  refine g_callVp X30 (hw _ (List.mem_of_getElem? (i := 231) rfl)) (hw _ (List.mem_of_getElem? (i := 62) rfl)) (hw _ (List.mem_of_getElem? (i := 64) rfl)) (hw _ (List.mem_of_getElem? (i := 63) rfl)) (hw _ (List.mem_of_getElem? (i := 6) rfl)) (hw _ (List.mem_of_getElem? (i := 65) rfl)) (nfSel (hw _ (List.mem_of_getElem? (i := 64) rfl))) (by decide) e34 (c_len l Z a0 G r23 t32 kb33 (msgL [k1 &&& (255 : Int32), k2 &&& (255 : Int32)] [k3 &&& (255 : Int32)]) h19 e34 f35 f36 kc37 b38 l39) (by simp) (argsL := []) (rest := []) pd_5 rfl rfl rfl rfl 0 (Nat.le_of_eq rfl) (by decide) (by decide) (ck := 20) rfl (cs := 3257) rfl (by decide) (by decide) at_97 100 rfl ?_
  intro w43 T41 X42 hq44
  subst hq44
  refine g_bipush X42 (61 : Int32) at_100 (by decide) 102 rfl ?_
  refine g_iload X42 at_102 rfl 104 rfl ?_
  refine g_iadd X42 at_104 (63 : Int32) (by decide) 105 rfl ?_
  refine g_iload X42 at_105 rfl 107 rfl ?_
  refine g_iadd X42 at_107 (64 : Int32) (by decide) 108 rfl ?_
  refine g_icmpYes X42 at_108 (XT.ii_eq_t rfl) 113 (by decide) (by decide) ?_
  refine g_iload X42 at_113 rfl 115 rfl ?_
  refine g_ifYes X42 at_115 (XT.ii_ne_t (by decide)) 135 (by decide) (by decide) ?_
  refine g_aload X42 at_135 rfl rfl 137 rfl ?_
  refine g_iconst X42 (0 : Int32) at_137 (by decide) 138 rfl ?_
  refine g_bipush X42 (67 : Int32) at_138 (by decide) 140 rfl ?_
  refine g_callSp X42 (hw _ (List.mem_of_getElem? (i := 243) rfl)) (hw _ (List.mem_of_getElem? (i := 244) rfl)) (hw _ (List.mem_of_getElem? (i := 2) rfl)) (hw _ (List.mem_of_getElem? (i := 245) rfl)) (by decide) (c_at l Z a0 G r23 t32 kb33 (msgL [k1 &&& (255 : Int32), k2 &&& (255 : Int32)] [k3 &&& (255 : Int32)]) 0 (67 : Int32) h19 e34 f35 f36 kc37 b38 l39 (Nat.le_of_ble_eq_true rfl) rfl) (by simp) (argsL := [.ref r23, .int (0 : Int32), .int (67 : Int32)]) (rest := []) pd_3 rfl rfl rfl rfl 0 (Nat.le_of_eq rfl) (by decide) (by decide) (ck := 20) rfl (cs := 3257) rfl (by decide) (by decide) at_140 143 rfl ?_
  intro w47 T45 X46 hq48
  subst hq48
  refine g_ifNo X46 at_143 (XT.ii_eq_f (by decide)) 146 rfl ?_
  refine g_aload X46 at_146 rfl rfl 148 rfl ?_
  refine g_bipush X46 (16 : Int32) at_148 (by decide) 150 rfl ?_
  refine g_bipush X46 (32 : Int32) at_150 (by decide) 152 rfl ?_
  refine g_callSp X46 (hw _ (List.mem_of_getElem? (i := 243) rfl)) (hw _ (List.mem_of_getElem? (i := 244) rfl)) (hw _ (List.mem_of_getElem? (i := 2) rfl)) (hw _ (List.mem_of_getElem? (i := 245) rfl)) (by decide) (c_at l Z a0 G r23 t32 kb33 (msgL [k1 &&& (255 : Int32), k2 &&& (255 : Int32)] [k3 &&& (255 : Int32)]) 16 (32 : Int32) h19 e34 f35 f36 kc37 b38 l39 (Nat.le_of_ble_eq_true rfl) rfl) (by simp) (argsL := [.ref r23, .int (16 : Int32), .int (32 : Int32)]) (rest := []) pd_3 rfl rfl rfl rfl 0 (Nat.le_of_eq rfl) (by decide) (by decide) (ck := 20) rfl (cs := 3257) rfl (by decide) (by decide) at_152 155 rfl ?_
  intro w51 T49 X50 hq52
  subst hq52
  refine g_ifNo X50 at_155 (XT.ii_eq_f (by decide)) 158 rfl ?_
  refine g_aload X50 at_158 rfl rfl 160 rfl ?_
  refine g_bipush X50 (17 : Int32) at_160 (by decide) 162 rfl ?_
  refine g_bipush X50 (34 : Int32) at_162 (by decide) 164 rfl ?_
  refine g_callSp X50 (hw _ (List.mem_of_getElem? (i := 243) rfl)) (hw _ (List.mem_of_getElem? (i := 244) rfl)) (hw _ (List.mem_of_getElem? (i := 2) rfl)) (hw _ (List.mem_of_getElem? (i := 245) rfl)) (by decide) (c_at l Z a0 G r23 t32 kb33 (msgL [k1 &&& (255 : Int32), k2 &&& (255 : Int32)] [k3 &&& (255 : Int32)]) 17 (34 : Int32) h19 e34 f35 f36 kc37 b38 l39 (Nat.le_of_ble_eq_true rfl) rfl) (by simp) (argsL := [.ref r23, .int (17 : Int32), .int (34 : Int32)]) (rest := []) pd_3 rfl rfl rfl rfl 0 (Nat.le_of_eq rfl) (by decide) (by decide) (ck := 20) rfl (cs := 3257) rfl (by decide) (by decide) at_164 167 rfl ?_
  intro w55 T53 X54 hq56
  subst hq56
  refine g_ifNo X54 at_167 (XT.ii_eq_f (by decide)) 170 rfl ?_
  refine g_aload X54 at_170 rfl rfl 172 rfl ?_
  refine g_bipush X54 (18 : Int32) at_172 (by decide) 174 rfl ?_
  refine g_iload X54 at_174 rfl 176 rfl ?_
  refine g_iadd X54 at_176 (20 : Int32) (by decide) 177 rfl ?_
  refine g_bipush X54 (34 : Int32) at_177 (by decide) 179 rfl ?_
  refine g_callSp X54 (hw _ (List.mem_of_getElem? (i := 243) rfl)) (hw _ (List.mem_of_getElem? (i := 244) rfl)) (hw _ (List.mem_of_getElem? (i := 2) rfl)) (hw _ (List.mem_of_getElem? (i := 245) rfl)) (by decide) (c_at l Z a0 G r23 t32 kb33 (msgL [k1 &&& (255 : Int32), k2 &&& (255 : Int32)] [k3 &&& (255 : Int32)]) 20 (34 : Int32) h19 e34 f35 f36 kc37 b38 l39 (Nat.le_of_ble_eq_true rfl) rfl) (by simp) (argsL := [.ref r23, .int (20 : Int32), .int (34 : Int32)]) (rest := []) pd_3 rfl rfl rfl rfl 0 (Nat.le_of_eq rfl) (by decide) (by decide) (ck := 20) rfl (cs := 3257) rfl (by decide) (by decide) at_179 182 rfl ?_
  intro w59 T57 X58 hq60
  subst hq60
  refine g_ifNo X58 at_182 (XT.ii_eq_f (by decide)) 185 rfl ?_
  refine g_aload X58 at_185 rfl rfl 187 rfl ?_
  refine g_bipush X58 (19 : Int32) at_187 (by decide) 189 rfl ?_
  refine g_iload X58 at_189 rfl 191 rfl ?_
  refine g_iadd X58 at_191 (21 : Int32) (by decide) 192 rfl ?_
  refine g_bipush X58 (32 : Int32) at_192 (by decide) 194 rfl ?_
  refine g_callSp X58 (hw _ (List.mem_of_getElem? (i := 243) rfl)) (hw _ (List.mem_of_getElem? (i := 244) rfl)) (hw _ (List.mem_of_getElem? (i := 2) rfl)) (hw _ (List.mem_of_getElem? (i := 245) rfl)) (by decide) (c_at l Z a0 G r23 t32 kb33 (msgL [k1 &&& (255 : Int32), k2 &&& (255 : Int32)] [k3 &&& (255 : Int32)]) 21 (32 : Int32) h19 e34 f35 f36 kc37 b38 l39 (Nat.le_of_ble_eq_true rfl) rfl) (by simp) (argsL := [.ref r23, .int (21 : Int32), .int (32 : Int32)]) (rest := []) pd_3 rfl rfl rfl rfl 0 (Nat.le_of_eq rfl) (by decide) (by decide) (ck := 20) rfl (cs := 3257) rfl (by decide) (by decide) at_194 197 rfl ?_
  intro w63 T61 X62 hq64
  subst hq64
  refine g_ifNo X62 at_197 (XT.ii_eq_f (by decide)) 200 rfl ?_
  refine g_aload X62 at_200 rfl rfl 202 rfl ?_
  refine g_bipush X62 (29 : Int32) at_202 (by decide) 204 rfl ?_
  refine g_iload X62 at_204 rfl 206 rfl ?_
  refine g_iadd X62 at_206 (31 : Int32) (by decide) 207 rfl ?_
  refine g_bipush X62 (32 : Int32) at_207 (by decide) 209 rfl ?_
  refine g_callSp X62 (hw _ (List.mem_of_getElem? (i := 243) rfl)) (hw _ (List.mem_of_getElem? (i := 244) rfl)) (hw _ (List.mem_of_getElem? (i := 2) rfl)) (hw _ (List.mem_of_getElem? (i := 245) rfl)) (by decide) (c_at l Z a0 G r23 t32 kb33 (msgL [k1 &&& (255 : Int32), k2 &&& (255 : Int32)] [k3 &&& (255 : Int32)]) 31 (32 : Int32) h19 e34 f35 f36 kc37 b38 l39 (Nat.le_of_ble_eq_true rfl) rfl) (by simp) (argsL := [.ref r23, .int (31 : Int32), .int (32 : Int32)]) (rest := []) pd_3 rfl rfl rfl rfl 0 (Nat.le_of_eq rfl) (by decide) (by decide) (ck := 20) rfl (cs := 3257) rfl (by decide) (by decide) at_209 212 rfl ?_
  intro w67 T65 X66 hq68
  subst hq68
  refine g_ifNo X66 at_212 (XT.ii_eq_f (by decide)) 215 rfl ?_
  refine g_aload X66 at_215 rfl rfl 217 rfl ?_
  refine g_bipush X66 (30 : Int32) at_217 (by decide) 219 rfl ?_
  refine g_iload X66 at_219 rfl 221 rfl ?_
  refine g_iadd X66 at_221 (32 : Int32) (by decide) 222 rfl ?_
  refine g_bipush X66 (34 : Int32) at_222 (by decide) 224 rfl ?_
  refine g_callSp X66 (hw _ (List.mem_of_getElem? (i := 243) rfl)) (hw _ (List.mem_of_getElem? (i := 244) rfl)) (hw _ (List.mem_of_getElem? (i := 2) rfl)) (hw _ (List.mem_of_getElem? (i := 245) rfl)) (by decide) (c_at l Z a0 G r23 t32 kb33 (msgL [k1 &&& (255 : Int32), k2 &&& (255 : Int32)] [k3 &&& (255 : Int32)]) 32 (34 : Int32) h19 e34 f35 f36 kc37 b38 l39 (Nat.le_of_ble_eq_true rfl) rfl) (by simp) (argsL := [.ref r23, .int (32 : Int32), .int (34 : Int32)]) (rest := []) pd_3 rfl rfl rfl rfl 0 (Nat.le_of_eq rfl) (by decide) (by decide) (ck := 20) rfl (cs := 3257) rfl (by decide) (by decide) at_224 227 rfl ?_
  intro w71 T69 X70 hq72
  subst hq72
  refine g_ifNo X70 at_227 (XT.ii_eq_f (by decide)) 230 rfl ?_
  refine g_aload X70 at_230 rfl rfl 232 rfl ?_
  refine g_bipush X70 (31 : Int32) at_232 (by decide) 234 rfl ?_
  refine g_iload X70 at_234 rfl 236 rfl ?_
  refine g_iadd X70 at_236 (33 : Int32) (by decide) 237 rfl ?_
  refine g_iload X70 at_237 rfl 239 rfl ?_
  refine g_iadd X70 at_239 (34 : Int32) (by decide) 240 rfl ?_
  refine g_bipush X70 (34 : Int32) at_240 (by decide) 242 rfl ?_
  refine g_callSp X70 (hw _ (List.mem_of_getElem? (i := 243) rfl)) (hw _ (List.mem_of_getElem? (i := 244) rfl)) (hw _ (List.mem_of_getElem? (i := 2) rfl)) (hw _ (List.mem_of_getElem? (i := 245) rfl)) (by decide) (c_at l Z a0 G r23 t32 kb33 (msgL [k1 &&& (255 : Int32), k2 &&& (255 : Int32)] [k3 &&& (255 : Int32)]) 34 (34 : Int32) h19 e34 f35 f36 kc37 b38 l39 (Nat.le_of_ble_eq_true rfl) rfl) (by simp) (argsL := [.ref r23, .int (34 : Int32), .int (34 : Int32)]) (rest := []) pd_3 rfl rfl rfl rfl 0 (Nat.le_of_eq rfl) (by decide) (by decide) (ck := 20) rfl (cs := 3257) rfl (by decide) (by decide) at_242 245 rfl ?_
  intro w75 T73 X74 hq76
  subst hq76
  refine g_ifNo X74 at_245 (XT.ii_eq_f (by decide)) 248 rfl ?_
  refine g_aload X74 at_248 rfl rfl 250 rfl ?_
  refine g_bipush X74 (32 : Int32) at_250 (by decide) 252 rfl ?_
  refine g_iload X74 at_252 rfl 254 rfl ?_
  refine g_iadd X74 at_254 (34 : Int32) (by decide) 255 rfl ?_
  refine g_iload X74 at_255 rfl 257 rfl ?_
  refine g_iadd X74 at_257 (35 : Int32) (by decide) 258 rfl ?_
  refine g_bipush X74 (58 : Int32) at_258 (by decide) 260 rfl ?_
  refine g_callSp X74 (hw _ (List.mem_of_getElem? (i := 243) rfl)) (hw _ (List.mem_of_getElem? (i := 244) rfl)) (hw _ (List.mem_of_getElem? (i := 2) rfl)) (hw _ (List.mem_of_getElem? (i := 245) rfl)) (by decide) (c_at l Z a0 G r23 t32 kb33 (msgL [k1 &&& (255 : Int32), k2 &&& (255 : Int32)] [k3 &&& (255 : Int32)]) 35 (58 : Int32) h19 e34 f35 f36 kc37 b38 l39 (Nat.le_of_ble_eq_true rfl) rfl) (by simp) (argsL := [.ref r23, .int (35 : Int32), .int (58 : Int32)]) (rest := []) pd_3 rfl rfl rfl rfl 0 (Nat.le_of_eq rfl) (by decide) (by decide) (ck := 20) rfl (cs := 3257) rfl (by decide) (by decide) at_260 263 rfl ?_
  intro w79 T77 X78 hq80
  subst hq80
  refine g_ifNo X78 at_263 (XT.ii_eq_f (by decide)) 266 rfl ?_
  refine g_aload X78 at_266 rfl rfl 268 rfl ?_
  refine g_bipush X78 (33 : Int32) at_268 (by decide) 270 rfl ?_
  refine g_iload X78 at_270 rfl 272 rfl ?_
  refine g_iadd X78 at_272 (35 : Int32) (by decide) 273 rfl ?_
  refine g_iload X78 at_273 rfl 275 rfl ?_
  refine g_iadd X78 at_275 (36 : Int32) (by decide) 276 rfl ?_
  refine g_bipush X78 (32 : Int32) at_276 (by decide) 278 rfl ?_
  refine g_callSp X78 (hw _ (List.mem_of_getElem? (i := 243) rfl)) (hw _ (List.mem_of_getElem? (i := 244) rfl)) (hw _ (List.mem_of_getElem? (i := 2) rfl)) (hw _ (List.mem_of_getElem? (i := 245) rfl)) (by decide) (c_at l Z a0 G r23 t32 kb33 (msgL [k1 &&& (255 : Int32), k2 &&& (255 : Int32)] [k3 &&& (255 : Int32)]) 36 (32 : Int32) h19 e34 f35 f36 kc37 b38 l39 (Nat.le_of_ble_eq_true rfl) rfl) (by simp) (argsL := [.ref r23, .int (36 : Int32), .int (32 : Int32)]) (rest := []) pd_3 rfl rfl rfl rfl 0 (Nat.le_of_eq rfl) (by decide) (by decide) (ck := 20) rfl (cs := 3257) rfl (by decide) (by decide) at_278 281 rfl ?_
  intro w83 T81 X82 hq84
  subst hq84
  refine g_ifNo X82 at_281 (XT.ii_eq_f (by decide)) 284 rfl ?_
  refine g_aload X82 at_284 rfl rfl 286 rfl ?_
  refine g_bipush X82 (60 : Int32) at_286 (by decide) 288 rfl ?_
  refine g_iload X82 at_288 rfl 290 rfl ?_
  refine g_iadd X82 at_290 (62 : Int32) (by decide) 291 rfl ?_
  refine g_iload X82 at_291 rfl 293 rfl ?_
  refine g_iadd X82 at_293 (63 : Int32) (by decide) 294 rfl ?_
  refine g_bipush X82 (101 : Int32) at_294 (by decide) 296 rfl ?_
  refine g_callSp X82 (hw _ (List.mem_of_getElem? (i := 243) rfl)) (hw _ (List.mem_of_getElem? (i := 244) rfl)) (hw _ (List.mem_of_getElem? (i := 2) rfl)) (hw _ (List.mem_of_getElem? (i := 245) rfl)) (by decide) (c_at l Z a0 G r23 t32 kb33 (msgL [k1 &&& (255 : Int32), k2 &&& (255 : Int32)] [k3 &&& (255 : Int32)]) 63 (101 : Int32) h19 e34 f35 f36 kc37 b38 l39 (Nat.le_of_ble_eq_true rfl) rfl) (by simp) (argsL := [.ref r23, .int (63 : Int32), .int (101 : Int32)]) (rest := []) pd_3 rfl rfl rfl rfl 0 (Nat.le_of_eq rfl) (by decide) (by decide) (ck := 20) rfl (cs := 3257) rfl (by decide) (by decide) at_296 299 rfl ?_
  intro w87 T85 X86 hq88
  subst hq88
  refine g_ifNo X86 at_299 (XT.ii_eq_f (by decide)) 302 rfl ?_
  refine g_iconst X86 (1 : Int32) at_302 (by decide) 303 rfl ?_
  refine g_goto X86 at_303 307 (by decide) (by decide) ?_
  refine g_istore X86 at_307 (Ls' := #[.val (.int k0), .val (.int k1), .val (.int k2), .val (.int k3), .val (.int k4), .val (.int (2 : Int32)), .val (.int (1 : Int32)), .val (.int (k1 &&& (255 : Int32))), .val (.int (k2 &&& (255 : Int32))), .val (.int (k3 &&& (255 : Int32))), .val (.int (k4 &&& (255 : Int32))), .val (.ref s6), .val (.ref s14), .val (.ref r23), .val (.int (1 : Int32))]) rfl 309 rfl ?_
  refine g_iload X86 at_309 rfl 311 rfl ?_
  refine g_iconst X86 (1 : Int32) at_311 (by decide) 312 rfl ?_
  refine g_icmpNo X86 at_312 (XT.ii_lt_f (by decide)) 315 rfl ?_
  refine g_iload X86 at_315 rfl 317 rfl ?_
  refine g_ifNo X86 at_317 (XT.ii_eq_f (by decide)) 320 rfl ?_
  refine g_aload X86 at_320 rfl rfl 322 rfl ?_
  refine g_bipush X86 (18 : Int32) at_322 (by decide) 324 rfl ?_
  refine g_iload X86 at_324 rfl 326 rfl ?_
  refine g_callSp X86 (hw _ (List.mem_of_getElem? (i := 243) rfl)) (hw _ (List.mem_of_getElem? (i := 244) rfl)) (hw _ (List.mem_of_getElem? (i := 2) rfl)) (hw _ (List.mem_of_getElem? (i := 245) rfl)) (by decide) (c_at l Z a0 G r23 t32 kb33 (msgL [k1 &&& (255 : Int32), k2 &&& (255 : Int32)] [k3 &&& (255 : Int32)]) 18 (k1 &&& (255 : Int32)) h19 e34 f35 f36 kc37 b38 l39 (Nat.le_of_ble_eq_true rfl) rfl) (by simp) (argsL := [.ref r23, .int (18 : Int32), .int (k1 &&& (255 : Int32))]) (rest := []) pd_3 rfl rfl rfl rfl 0 (Nat.le_of_eq rfl) (by decide) (by decide) (ck := 20) rfl (cs := 3257) rfl (by decide) (by decide) at_326 329 rfl ?_
  intro w91 T89 X90 hq92
  subst hq92
  refine g_ifNo X90 at_329 (XT.ii_eq_f (by decide)) 332 rfl ?_
  refine g_iconst X90 (1 : Int32) at_332 (by decide) 333 rfl ?_
  refine g_goto X90 at_333 337 (by decide) (by decide) ?_
  refine g_istore X90 at_337 (Ls' := #[.val (.int k0), .val (.int k1), .val (.int k2), .val (.int k3), .val (.int k4), .val (.int (2 : Int32)), .val (.int (1 : Int32)), .val (.int (k1 &&& (255 : Int32))), .val (.int (k2 &&& (255 : Int32))), .val (.int (k3 &&& (255 : Int32))), .val (.int (k4 &&& (255 : Int32))), .val (.ref s6), .val (.ref s14), .val (.ref r23), .val (.int (1 : Int32))]) rfl 339 rfl ?_
  refine g_iload X90 at_339 rfl 341 rfl ?_
  refine g_iconst X90 (2 : Int32) at_341 (by decide) 342 rfl ?_
  refine g_icmpNo X90 at_342 (XT.ii_ne_f (by decide)) 345 rfl ?_
  refine g_iload X90 at_345 rfl 347 rfl ?_
  refine g_ifNo X90 at_347 (XT.ii_eq_f (by decide)) 350 rfl ?_
  refine g_aload X90 at_350 rfl rfl 352 rfl ?_
  refine g_bipush X90 (19 : Int32) at_352 (by decide) 354 rfl ?_
  refine g_iload X90 at_354 rfl 356 rfl ?_
  refine g_callSp X90 (hw _ (List.mem_of_getElem? (i := 243) rfl)) (hw _ (List.mem_of_getElem? (i := 244) rfl)) (hw _ (List.mem_of_getElem? (i := 2) rfl)) (hw _ (List.mem_of_getElem? (i := 245) rfl)) (by decide) (c_at l Z a0 G r23 t32 kb33 (msgL [k1 &&& (255 : Int32), k2 &&& (255 : Int32)] [k3 &&& (255 : Int32)]) 19 (k2 &&& (255 : Int32)) h19 e34 f35 f36 kc37 b38 l39 (Nat.le_of_ble_eq_true rfl) rfl) (by simp) (argsL := [.ref r23, .int (19 : Int32), .int (k2 &&& (255 : Int32))]) (rest := []) pd_3 rfl rfl rfl rfl 0 (Nat.le_of_eq rfl) (by decide) (by decide) (ck := 20) rfl (cs := 3257) rfl (by decide) (by decide) at_356 359 rfl ?_
  intro w95 T93 X94 hq96
  subst hq96
  refine g_ifNo X94 at_359 (XT.ii_eq_f (by decide)) 362 rfl ?_
  refine g_iconst X94 (1 : Int32) at_362 (by decide) 363 rfl ?_
  refine g_goto X94 at_363 367 (by decide) (by decide) ?_
  refine g_istore X94 at_367 (Ls' := #[.val (.int k0), .val (.int k1), .val (.int k2), .val (.int k3), .val (.int k4), .val (.int (2 : Int32)), .val (.int (1 : Int32)), .val (.int (k1 &&& (255 : Int32))), .val (.int (k2 &&& (255 : Int32))), .val (.int (k3 &&& (255 : Int32))), .val (.int (k4 &&& (255 : Int32))), .val (.ref s6), .val (.ref s14), .val (.ref r23), .val (.int (1 : Int32))]) rfl 369 rfl ?_
  refine g_iload X94 at_369 rfl 371 rfl ?_
  refine g_iconst X94 (1 : Int32) at_371 (by decide) 372 rfl ?_
  refine g_icmpNo X94 at_372 (XT.ii_lt_f (by decide)) 375 rfl ?_
  refine g_iload X94 at_375 rfl 377 rfl ?_
  refine g_ifNo X94 at_377 (XT.ii_eq_f (by decide)) 380 rfl ?_
  refine g_aload X94 at_380 rfl rfl 382 rfl ?_
  refine g_bipush X94 (31 : Int32) at_382 (by decide) 384 rfl ?_
  refine g_iload X94 at_384 rfl 386 rfl ?_
  refine g_iadd X94 at_386 (33 : Int32) (by decide) 387 rfl ?_
  refine g_iload X94 at_387 rfl 389 rfl ?_
  refine g_callSp X94 (hw _ (List.mem_of_getElem? (i := 243) rfl)) (hw _ (List.mem_of_getElem? (i := 244) rfl)) (hw _ (List.mem_of_getElem? (i := 2) rfl)) (hw _ (List.mem_of_getElem? (i := 245) rfl)) (by decide) (c_at l Z a0 G r23 t32 kb33 (msgL [k1 &&& (255 : Int32), k2 &&& (255 : Int32)] [k3 &&& (255 : Int32)]) 33 (k3 &&& (255 : Int32)) h19 e34 f35 f36 kc37 b38 l39 (Nat.le_of_ble_eq_true rfl) rfl) (by simp) (argsL := [.ref r23, .int (33 : Int32), .int (k3 &&& (255 : Int32))]) (rest := []) pd_3 rfl rfl rfl rfl 0 (Nat.le_of_eq rfl) (by decide) (by decide) (ck := 20) rfl (cs := 3257) rfl (by decide) (by decide) at_389 392 rfl ?_
  intro w99 T97 X98 hq100
  subst hq100
  refine g_ifNo X98 at_392 (XT.ii_eq_f (by decide)) 395 rfl ?_
  refine g_iconst X98 (1 : Int32) at_395 (by decide) 396 rfl ?_
  refine g_goto X98 at_396 400 (by decide) (by decide) ?_
  refine g_istore X98 at_400 (Ls' := #[.val (.int k0), .val (.int k1), .val (.int k2), .val (.int k3), .val (.int k4), .val (.int (2 : Int32)), .val (.int (1 : Int32)), .val (.int (k1 &&& (255 : Int32))), .val (.int (k2 &&& (255 : Int32))), .val (.int (k3 &&& (255 : Int32))), .val (.int (k4 &&& (255 : Int32))), .val (.ref s6), .val (.ref s14), .val (.ref r23), .val (.int (1 : Int32))]) rfl 402 rfl ?_
  refine g_iload X98 at_402 rfl 404 rfl ?_
  refine g_iconst X98 (2 : Int32) at_404 (by decide) 405 rfl ?_
  refine g_icmpYes X98 at_405 (XT.ii_ne_t (by decide)) 435 (by decide) (by decide) ?_
  refine g_iload X98 at_435 rfl 437 rfl ?_
  exact g_retN X98 (t := .boolean) rfl (by simp) at_437 _ rfl (by decide) (by decide) rfl
set_option maxRecDepth 65536 in
set_option maxHeartbeats 40000000 in
theorem c_law22 (l : Launch) (Z : State) (a0 : Array Value) (G : Gl Z a0) (hst : l.stackTraces = true) (k0 k1 k2 k3 k4 : Int32) (h : Heap) (e5 : (k0 &&& (255 : Int32)) % (3 : Int32) = 2) (e6 : (XT.ushr k0 (8 : Int32) &&& (255 : Int32)) % (3 : Int32) = 2) :
    CtrK KnownL l Z EL nw x code maxLocals ret room_1 #[.int k0, .int k1, .int k2, .int k3, .int k4] h [] (fun v _ => v = some (.int 1)) := by
  obtain ⟨hw, hEL, hSA, ⟨zc, SC, hz⟩, ⟨fm, SF, hfm⟩, ⟨u0, SUn⟩, ⟨sp, SP, hsp⟩⟩ := id G
  refine CtrK.enter (K := KnownL) (own := "com/example/capsa/capsa/BeanNameInUseExceptionAliasPinLaw") (nm := "law") rfl rfl hEL (plainFor_of_name pn_7) #[.val (.int k0), .val (.int k1), .val (.int k2), .val (.int k3), .val (.int k4), .unset, .unset, .unset, .unset, .unset, .unset, .unset, .unset, .unset, .unset] (fun m => entry1 m _ _ (by simp [Value.category]) rfl) ?_
  intro p e s m below meth c T hfr hK hZs X
  obtain ⟨as0, hfr⟩ := hfr
  have hkn : KnownK below s := ⟨MethodsKnown_of_tablesKnown hK.2, FramesKnown_of_framesKnown hK.1 hfr⟩
  refine g_iloadN X at_0 rfl 1 rfl ?_
  refine g_sipush X (255 : Int32) at_1 (by decide) 4 rfl ?_
  refine g_iand X at_4 _ rfl 5 rfl ?_
  refine g_iconst X (3 : Int32) at_5 (by decide) 6 rfl ?_
  refine g_irem X at_6 (by decide) (2 : Int32) e5 7 rfl ?_
  refine g_istore X at_7 (Ls' := #[.val (.int k0), .val (.int k1), .val (.int k2), .val (.int k3), .val (.int k4), .val (.int (2 : Int32)), .unset, .unset, .unset, .unset, .unset, .unset, .unset, .unset, .unset]) rfl 9 rfl ?_
  refine g_iloadN X at_9 rfl 10 rfl ?_
  refine g_bipush X (8 : Int32) at_10 (by decide) 12 rfl ?_
  refine g_iushr X at_12 _ rfl 13 rfl ?_
  refine g_sipush X (255 : Int32) at_13 (by decide) 16 rfl ?_
  refine g_iand X at_16 _ rfl 17 rfl ?_
  refine g_iconst X (3 : Int32) at_17 (by decide) 18 rfl ?_
  refine g_irem X at_18 (by decide) (2 : Int32) e6 19 rfl ?_
  refine g_istore X at_19 (Ls' := #[.val (.int k0), .val (.int k1), .val (.int k2), .val (.int k3), .val (.int k4), .val (.int (2 : Int32)), .val (.int (2 : Int32)), .unset, .unset, .unset, .unset, .unset, .unset, .unset, .unset]) rfl 21 rfl ?_
  refine g_iloadN X at_21 rfl 22 rfl ?_
  refine g_sipush X (255 : Int32) at_22 (by decide) 25 rfl ?_
  refine g_iand X at_25 _ rfl 26 rfl ?_
  refine g_i2c X at_26 (k1 &&& (255 : Int32)) (i2c_mask _) 27 rfl ?_
  refine g_istore X at_27 (Ls' := #[.val (.int k0), .val (.int k1), .val (.int k2), .val (.int k3), .val (.int k4), .val (.int (2 : Int32)), .val (.int (2 : Int32)), .val (.int (k1 &&& (255 : Int32))), .unset, .unset, .unset, .unset, .unset, .unset, .unset]) rfl 29 rfl ?_
  refine g_iloadN X at_29 rfl 30 rfl ?_
  refine g_sipush X (255 : Int32) at_30 (by decide) 33 rfl ?_
  refine g_iand X at_33 _ rfl 34 rfl ?_
  refine g_i2c X at_34 (k2 &&& (255 : Int32)) (i2c_mask _) 35 rfl ?_
  refine g_istore X at_35 (Ls' := #[.val (.int k0), .val (.int k1), .val (.int k2), .val (.int k3), .val (.int k4), .val (.int (2 : Int32)), .val (.int (2 : Int32)), .val (.int (k1 &&& (255 : Int32))), .val (.int (k2 &&& (255 : Int32))), .unset, .unset, .unset, .unset, .unset, .unset]) rfl 37 rfl ?_
  refine g_iloadN X at_37 rfl 38 rfl ?_
  refine g_sipush X (255 : Int32) at_38 (by decide) 41 rfl ?_
  refine g_iand X at_41 _ rfl 42 rfl ?_
  refine g_i2c X at_42 (k3 &&& (255 : Int32)) (i2c_mask _) 43 rfl ?_
  refine g_istore X at_43 (Ls' := #[.val (.int k0), .val (.int k1), .val (.int k2), .val (.int k3), .val (.int k4), .val (.int (2 : Int32)), .val (.int (2 : Int32)), .val (.int (k1 &&& (255 : Int32))), .val (.int (k2 &&& (255 : Int32))), .val (.int (k3 &&& (255 : Int32))), .unset, .unset, .unset, .unset, .unset]) rfl 45 rfl ?_
  refine g_iload X at_45 rfl 47 rfl ?_
  refine g_sipush X (255 : Int32) at_47 (by decide) 50 rfl ?_
  refine g_iand X at_50 _ rfl 51 rfl ?_
  refine g_i2c X at_51 (k4 &&& (255 : Int32)) (i2c_mask _) 52 rfl ?_
  refine g_istore X at_52 (Ls' := #[.val (.int k0), .val (.int k1), .val (.int k2), .val (.int k3), .val (.int k4), .val (.int (2 : Int32)), .val (.int (2 : Int32)), .val (.int (k1 &&& (255 : Int32))), .val (.int (k2 &&& (255 : Int32))), .val (.int (k3 &&& (255 : Int32))), .val (.int (k4 &&& (255 : Int32))), .unset, .unset, .unset, .unset]) rfl 54 rfl ?_
  refine g_iload X at_54 rfl 56 rfl ?_
  refine g_iload X at_56 rfl 58 rfl ?_
  refine g_iload X at_58 rfl 60 rfl ?_
  refine g_callSv X (hw _ (List.mem_of_getElem? (i := 0) rfl)) (hw _ (List.mem_of_getElem? (i := 1) rfl)) (hw _ (List.mem_of_getElem? (i := 2) rfl)) (hw _ (List.mem_of_getElem? (i := 3) rfl)) (by decide) (c_str2 l Z a0 G k1 k2 ([]) h) (fun _ q => q) (argsL := [.int (2 : Int32), .int (k1 &&& (255 : Int32)), .int (k2 &&& (255 : Int32))]) (rest := []) pd_0 rfl rfl rfl rfl 0 (Nat.le_of_eq rfl) (by decide) (by decide) (ck := 3) rfl (cs := 8) rfl (by decide) (by decide) at_60 63 rfl ?_
  intro w3 T1 h5 X2 hq4
  obtain ⟨s6, rfl, E7, S8⟩ := hq4
  refine g_astore X2 at_63 rfl (Ls' := #[.val (.int k0), .val (.int k1), .val (.int k2), .val (.int k3), .val (.int k4), .val (.int (2 : Int32)), .val (.int (2 : Int32)), .val (.int (k1 &&& (255 : Int32))), .val (.int (k2 &&& (255 : Int32))), .val (.int (k3 &&& (255 : Int32))), .val (.int (k4 &&& (255 : Int32))), .val (.ref s6), .unset, .unset, .unset]) rfl 65 rfl ?_
  refine g_iload X2 at_65 rfl 67 rfl ?_
  refine g_iload X2 at_67 rfl 69 rfl ?_
  refine g_iload X2 at_69 rfl 71 rfl ?_
  refine g_callSv X2 (hw _ (List.mem_of_getElem? (i := 0) rfl)) (hw _ (List.mem_of_getElem? (i := 1) rfl)) (hw _ (List.mem_of_getElem? (i := 2) rfl)) (hw _ (List.mem_of_getElem? (i := 3) rfl)) (by decide) (c_str2 l Z a0 G k3 k4 ([]) h5) (fun _ q => q) (argsL := [.int (2 : Int32), .int (k3 &&& (255 : Int32)), .int (k4 &&& (255 : Int32))]) (rest := []) pd_0 rfl rfl rfl rfl 0 (Nat.le_of_eq rfl) (by decide) (by decide) (ck := 6) rfl (cs := 16) rfl (by decide) (by decide) at_71 74 rfl ?_
  intro w11 T9 h13 X10 hq12
  obtain ⟨s14, rfl, E15, S16⟩ := hq12
  refine g_astore X10 at_74 rfl (Ls' := #[.val (.int k0), .val (.int k1), .val (.int k2), .val (.int k3), .val (.int k4), .val (.int (2 : Int32)), .val (.int (2 : Int32)), .val (.int (k1 &&& (255 : Int32))), .val (.int (k2 &&& (255 : Int32))), .val (.int (k3 &&& (255 : Int32))), .val (.int (k4 &&& (255 : Int32))), .val (.ref s6), .val (.ref s14), .unset, .unset]) rfl 76 rfl ?_
  refine g_aload X10 at_76 rfl rfl 78 rfl ?_
  refine g_aload X10 at_78 rfl rfl 80 rfl ?_
  refine g_callSvK X10 hkn (hw _ (List.mem_of_getElem? (i := 26) rfl)) (hw _ (List.mem_of_getElem? (i := 27) rfl)) (hw _ (List.mem_of_getElem? (i := 28) rfl)) (hw _ (List.mem_of_getElem? (i := 29) rfl)) (by decide) (c_al22 l Z a0 G hst s6 s14 ([]) (k1 &&& (255 : Int32)) (k2 &&& (255 : Int32)) (k3 &&& (255 : Int32)) (k4 &&& (255 : Int32)) h13 (S8.ext E15) S16) (fun _ q => q) (argsL := [.ref s6, .ref s14]) (rest := []) pd_1 rfl rfl rfl rfl 0 (Nat.le_of_eq rfl) (by decide) (by decide) (ck := 20) rfl (cs := 3259) rfl (by decide) (by decide) at_80 83 rfl ?_
  intro w17 T18 h19 X20 hq21
  obtain ⟨j22, r23, rfl, E24, A25, F26, S27⟩ := hq21
  refine g_callWp X20 (owner := "java/lang/Throwable") (hw _ (List.mem_of_getElem? (i := 225) rfl)) (hw _ (List.mem_of_getElem? (i := 226) rfl)) (hw _ (List.mem_of_getElem? (i := 227) rfl)) (hw _ (List.mem_of_getElem? (i := 229) rfl)) (hw _ (List.mem_of_getElem? (i := 228) rfl)) (hw _ (List.mem_of_getElem? (i := 186) rfl)) (hw _ (List.mem_of_getElem? (i := 230) rfl)) (by decide) A25 (c_gm l Z a0 G j22 r23 h19 F26) (by simp) (argsL := []) (rest := []) pd_21 rfl rfl rfl rfl 0 (Nat.le_of_eq rfl) (by decide) (by decide) (ck := 20) rfl (cs := 3259) rfl (by decide) (by decide) at_83 86 rfl ?_
  intro w28 T29 X30 hq31
  subst hq31
  refine g_astore X30 at_86 rfl (Ls' := #[.val (.int k0), .val (.int k1), .val (.int k2), .val (.int k3), .val (.int k4), .val (.int (2 : Int32)), .val (.int (2 : Int32)), .val (.int (k1 &&& (255 : Int32))), .val (.int (k2 &&& (255 : Int32))), .val (.int (k3 &&& (255 : Int32))), .val (.int (k4 &&& (255 : Int32))), .val (.ref s6), .val (.ref s14), .val (.ref r23), .unset]) rfl 88 rfl ?_
  refine g_aload X30 at_88 rfl rfl 90 rfl ?_
  refine g_ifnonnullYes X30 at_90 95 (by decide) (by decide) ?_
  refine g_aload X30 at_95 rfl rfl 97 rfl ?_
  obtain ⟨t32, kb33, e34, f35, f36, kc37, b38, l39, n40⟩ := id S27
  refine g_callVp X30 (hw _ (List.mem_of_getElem? (i := 231) rfl)) (hw _ (List.mem_of_getElem? (i := 62) rfl)) (hw _ (List.mem_of_getElem? (i := 64) rfl)) (hw _ (List.mem_of_getElem? (i := 63) rfl)) (hw _ (List.mem_of_getElem? (i := 6) rfl)) (hw _ (List.mem_of_getElem? (i := 65) rfl)) (nfSel (hw _ (List.mem_of_getElem? (i := 64) rfl))) (by decide) e34 (c_len l Z a0 G r23 t32 kb33 (msgL [k1 &&& (255 : Int32), k2 &&& (255 : Int32)] [k3 &&& (255 : Int32), k4 &&& (255 : Int32)]) h19 e34 f35 f36 kc37 b38 l39) (by simp) (argsL := []) (rest := []) pd_5 rfl rfl rfl rfl 0 (Nat.le_of_eq rfl) (by decide) (by decide) (ck := 20) rfl (cs := 3259) rfl (by decide) (by decide) at_97 100 rfl ?_
  intro w43 T41 X42 hq44
  subst hq44
  refine g_bipush X42 (61 : Int32) at_100 (by decide) 102 rfl ?_
  refine g_iload X42 at_102 rfl 104 rfl ?_
  refine g_iadd X42 at_104 (63 : Int32) (by decide) 105 rfl ?_
  refine g_iload X42 at_105 rfl 107 rfl ?_
  refine g_iadd X42 at_107 (65 : Int32) (by decide) 108 rfl ?_
  refine g_icmpYes X42 at_108 (XT.ii_eq_t rfl) 113 (by decide) (by decide) ?_
  refine g_iload X42 at_113 rfl 115 rfl ?_
  refine g_ifYes X42 at_115 (XT.ii_ne_t (by decide)) 135 (by decide) (by decide) ?_
  refine g_aload X42 at_135 rfl rfl 137 rfl ?_
  refine g_iconst X42 (0 : Int32) at_137 (by decide) 138 rfl ?_
  refine g_bipush X42 (67 : Int32) at_138 (by decide) 140 rfl ?_
  refine g_callSp X42 (hw _ (List.mem_of_getElem? (i := 243) rfl)) (hw _ (List.mem_of_getElem? (i := 244) rfl)) (hw _ (List.mem_of_getElem? (i := 2) rfl)) (hw _ (List.mem_of_getElem? (i := 245) rfl)) (by decide) (c_at l Z a0 G r23 t32 kb33 (msgL [k1 &&& (255 : Int32), k2 &&& (255 : Int32)] [k3 &&& (255 : Int32), k4 &&& (255 : Int32)]) 0 (67 : Int32) h19 e34 f35 f36 kc37 b38 l39 (Nat.le_of_ble_eq_true rfl) rfl) (by simp) (argsL := [.ref r23, .int (0 : Int32), .int (67 : Int32)]) (rest := []) pd_3 rfl rfl rfl rfl 0 (Nat.le_of_eq rfl) (by decide) (by decide) (ck := 20) rfl (cs := 3259) rfl (by decide) (by decide) at_140 143 rfl ?_
  intro w47 T45 X46 hq48
  subst hq48
  refine g_ifNo X46 at_143 (XT.ii_eq_f (by decide)) 146 rfl ?_
  refine g_aload X46 at_146 rfl rfl 148 rfl ?_
  refine g_bipush X46 (16 : Int32) at_148 (by decide) 150 rfl ?_
  refine g_bipush X46 (32 : Int32) at_150 (by decide) 152 rfl ?_
  refine g_callSp X46 (hw _ (List.mem_of_getElem? (i := 243) rfl)) (hw _ (List.mem_of_getElem? (i := 244) rfl)) (hw _ (List.mem_of_getElem? (i := 2) rfl)) (hw _ (List.mem_of_getElem? (i := 245) rfl)) (by decide) (c_at l Z a0 G r23 t32 kb33 (msgL [k1 &&& (255 : Int32), k2 &&& (255 : Int32)] [k3 &&& (255 : Int32), k4 &&& (255 : Int32)]) 16 (32 : Int32) h19 e34 f35 f36 kc37 b38 l39 (Nat.le_of_ble_eq_true rfl) rfl) (by simp) (argsL := [.ref r23, .int (16 : Int32), .int (32 : Int32)]) (rest := []) pd_3 rfl rfl rfl rfl 0 (Nat.le_of_eq rfl) (by decide) (by decide) (ck := 20) rfl (cs := 3259) rfl (by decide) (by decide) at_152 155 rfl ?_
  intro w51 T49 X50 hq52
  subst hq52
  refine g_ifNo X50 at_155 (XT.ii_eq_f (by decide)) 158 rfl ?_
  refine g_aload X50 at_158 rfl rfl 160 rfl ?_
  refine g_bipush X50 (17 : Int32) at_160 (by decide) 162 rfl ?_
  refine g_bipush X50 (34 : Int32) at_162 (by decide) 164 rfl ?_
  refine g_callSp X50 (hw _ (List.mem_of_getElem? (i := 243) rfl)) (hw _ (List.mem_of_getElem? (i := 244) rfl)) (hw _ (List.mem_of_getElem? (i := 2) rfl)) (hw _ (List.mem_of_getElem? (i := 245) rfl)) (by decide) (c_at l Z a0 G r23 t32 kb33 (msgL [k1 &&& (255 : Int32), k2 &&& (255 : Int32)] [k3 &&& (255 : Int32), k4 &&& (255 : Int32)]) 17 (34 : Int32) h19 e34 f35 f36 kc37 b38 l39 (Nat.le_of_ble_eq_true rfl) rfl) (by simp) (argsL := [.ref r23, .int (17 : Int32), .int (34 : Int32)]) (rest := []) pd_3 rfl rfl rfl rfl 0 (Nat.le_of_eq rfl) (by decide) (by decide) (ck := 20) rfl (cs := 3259) rfl (by decide) (by decide) at_164 167 rfl ?_
  intro w55 T53 X54 hq56
  subst hq56
  refine g_ifNo X54 at_167 (XT.ii_eq_f (by decide)) 170 rfl ?_
  refine g_aload X54 at_170 rfl rfl 172 rfl ?_
  refine g_bipush X54 (18 : Int32) at_172 (by decide) 174 rfl ?_
  refine g_iload X54 at_174 rfl 176 rfl ?_
  refine g_iadd X54 at_176 (20 : Int32) (by decide) 177 rfl ?_
  refine g_bipush X54 (34 : Int32) at_177 (by decide) 179 rfl ?_
  refine g_callSp X54 (hw _ (List.mem_of_getElem? (i := 243) rfl)) (hw _ (List.mem_of_getElem? (i := 244) rfl)) (hw _ (List.mem_of_getElem? (i := 2) rfl)) (hw _ (List.mem_of_getElem? (i := 245) rfl)) (by decide) (c_at l Z a0 G r23 t32 kb33 (msgL [k1 &&& (255 : Int32), k2 &&& (255 : Int32)] [k3 &&& (255 : Int32), k4 &&& (255 : Int32)]) 20 (34 : Int32) h19 e34 f35 f36 kc37 b38 l39 (Nat.le_of_ble_eq_true rfl) rfl) (by simp) (argsL := [.ref r23, .int (20 : Int32), .int (34 : Int32)]) (rest := []) pd_3 rfl rfl rfl rfl 0 (Nat.le_of_eq rfl) (by decide) (by decide) (ck := 20) rfl (cs := 3259) rfl (by decide) (by decide) at_179 182 rfl ?_
  intro w59 T57 X58 hq60
  subst hq60
  refine g_ifNo X58 at_182 (XT.ii_eq_f (by decide)) 185 rfl ?_
  refine g_aload X58 at_185 rfl rfl 187 rfl ?_
  refine g_bipush X58 (19 : Int32) at_187 (by decide) 189 rfl ?_
  refine g_iload X58 at_189 rfl 191 rfl ?_
  refine g_iadd X58 at_191 (21 : Int32) (by decide) 192 rfl ?_
  refine g_bipush X58 (32 : Int32) at_192 (by decide) 194 rfl ?_
  refine g_callSp X58 (hw _ (List.mem_of_getElem? (i := 243) rfl)) (hw _ (List.mem_of_getElem? (i := 244) rfl)) (hw _ (List.mem_of_getElem? (i := 2) rfl)) (hw _ (List.mem_of_getElem? (i := 245) rfl)) (by decide) (c_at l Z a0 G r23 t32 kb33 (msgL [k1 &&& (255 : Int32), k2 &&& (255 : Int32)] [k3 &&& (255 : Int32), k4 &&& (255 : Int32)]) 21 (32 : Int32) h19 e34 f35 f36 kc37 b38 l39 (Nat.le_of_ble_eq_true rfl) rfl) (by simp) (argsL := [.ref r23, .int (21 : Int32), .int (32 : Int32)]) (rest := []) pd_3 rfl rfl rfl rfl 0 (Nat.le_of_eq rfl) (by decide) (by decide) (ck := 20) rfl (cs := 3259) rfl (by decide) (by decide) at_194 197 rfl ?_
  intro w63 T61 X62 hq64
  subst hq64
  refine g_ifNo X62 at_197 (XT.ii_eq_f (by decide)) 200 rfl ?_
  refine g_aload X62 at_200 rfl rfl 202 rfl ?_
  refine g_bipush X62 (29 : Int32) at_202 (by decide) 204 rfl ?_
  refine g_iload X62 at_204 rfl 206 rfl ?_
  refine g_iadd X62 at_206 (31 : Int32) (by decide) 207 rfl ?_
  refine g_bipush X62 (32 : Int32) at_207 (by decide) 209 rfl ?_
  refine g_callSp X62 (hw _ (List.mem_of_getElem? (i := 243) rfl)) (hw _ (List.mem_of_getElem? (i := 244) rfl)) (hw _ (List.mem_of_getElem? (i := 2) rfl)) (hw _ (List.mem_of_getElem? (i := 245) rfl)) (by decide) (c_at l Z a0 G r23 t32 kb33 (msgL [k1 &&& (255 : Int32), k2 &&& (255 : Int32)] [k3 &&& (255 : Int32), k4 &&& (255 : Int32)]) 31 (32 : Int32) h19 e34 f35 f36 kc37 b38 l39 (Nat.le_of_ble_eq_true rfl) rfl) (by simp) (argsL := [.ref r23, .int (31 : Int32), .int (32 : Int32)]) (rest := []) pd_3 rfl rfl rfl rfl 0 (Nat.le_of_eq rfl) (by decide) (by decide) (ck := 20) rfl (cs := 3259) rfl (by decide) (by decide) at_209 212 rfl ?_
  intro w67 T65 X66 hq68
  subst hq68
  refine g_ifNo X66 at_212 (XT.ii_eq_f (by decide)) 215 rfl ?_
  refine g_aload X66 at_215 rfl rfl 217 rfl ?_
  refine g_bipush X66 (30 : Int32) at_217 (by decide) 219 rfl ?_
  refine g_iload X66 at_219 rfl 221 rfl ?_
  refine g_iadd X66 at_221 (32 : Int32) (by decide) 222 rfl ?_
  refine g_bipush X66 (34 : Int32) at_222 (by decide) 224 rfl ?_
  refine g_callSp X66 (hw _ (List.mem_of_getElem? (i := 243) rfl)) (hw _ (List.mem_of_getElem? (i := 244) rfl)) (hw _ (List.mem_of_getElem? (i := 2) rfl)) (hw _ (List.mem_of_getElem? (i := 245) rfl)) (by decide) (c_at l Z a0 G r23 t32 kb33 (msgL [k1 &&& (255 : Int32), k2 &&& (255 : Int32)] [k3 &&& (255 : Int32), k4 &&& (255 : Int32)]) 32 (34 : Int32) h19 e34 f35 f36 kc37 b38 l39 (Nat.le_of_ble_eq_true rfl) rfl) (by simp) (argsL := [.ref r23, .int (32 : Int32), .int (34 : Int32)]) (rest := []) pd_3 rfl rfl rfl rfl 0 (Nat.le_of_eq rfl) (by decide) (by decide) (ck := 20) rfl (cs := 3259) rfl (by decide) (by decide) at_224 227 rfl ?_
  intro w71 T69 X70 hq72
  subst hq72
  refine g_ifNo X70 at_227 (XT.ii_eq_f (by decide)) 230 rfl ?_
  refine g_aload X70 at_230 rfl rfl 232 rfl ?_
  refine g_bipush X70 (31 : Int32) at_232 (by decide) 234 rfl ?_
  refine g_iload X70 at_234 rfl 236 rfl ?_
  refine g_iadd X70 at_236 (33 : Int32) (by decide) 237 rfl ?_
  refine g_iload X70 at_237 rfl 239 rfl ?_
  refine g_iadd X70 at_239 (35 : Int32) (by decide) 240 rfl ?_
  refine g_bipush X70 (34 : Int32) at_240 (by decide) 242 rfl ?_
  refine g_callSp X70 (hw _ (List.mem_of_getElem? (i := 243) rfl)) (hw _ (List.mem_of_getElem? (i := 244) rfl)) (hw _ (List.mem_of_getElem? (i := 2) rfl)) (hw _ (List.mem_of_getElem? (i := 245) rfl)) (by decide) (c_at l Z a0 G r23 t32 kb33 (msgL [k1 &&& (255 : Int32), k2 &&& (255 : Int32)] [k3 &&& (255 : Int32), k4 &&& (255 : Int32)]) 35 (34 : Int32) h19 e34 f35 f36 kc37 b38 l39 (Nat.le_of_ble_eq_true rfl) rfl) (by simp) (argsL := [.ref r23, .int (35 : Int32), .int (34 : Int32)]) (rest := []) pd_3 rfl rfl rfl rfl 0 (Nat.le_of_eq rfl) (by decide) (by decide) (ck := 20) rfl (cs := 3259) rfl (by decide) (by decide) at_242 245 rfl ?_
  intro w75 T73 X74 hq76
  subst hq76
  refine g_ifNo X74 at_245 (XT.ii_eq_f (by decide)) 248 rfl ?_
  refine g_aload X74 at_248 rfl rfl 250 rfl ?_
  refine g_bipush X74 (32 : Int32) at_250 (by decide) 252 rfl ?_
  refine g_iload X74 at_252 rfl 254 rfl ?_
  refine g_iadd X74 at_254 (34 : Int32) (by decide) 255 rfl ?_
  refine g_iload X74 at_255 rfl 257 rfl ?_
  refine g_iadd X74 at_257 (36 : Int32) (by decide) 258 rfl ?_
  refine g_bipush X74 (58 : Int32) at_258 (by decide) 260 rfl ?_
  refine g_callSp X74 (hw _ (List.mem_of_getElem? (i := 243) rfl)) (hw _ (List.mem_of_getElem? (i := 244) rfl)) (hw _ (List.mem_of_getElem? (i := 2) rfl)) (hw _ (List.mem_of_getElem? (i := 245) rfl)) (by decide) (c_at l Z a0 G r23 t32 kb33 (msgL [k1 &&& (255 : Int32), k2 &&& (255 : Int32)] [k3 &&& (255 : Int32), k4 &&& (255 : Int32)]) 36 (58 : Int32) h19 e34 f35 f36 kc37 b38 l39 (Nat.le_of_ble_eq_true rfl) rfl) (by simp) (argsL := [.ref r23, .int (36 : Int32), .int (58 : Int32)]) (rest := []) pd_3 rfl rfl rfl rfl 0 (Nat.le_of_eq rfl) (by decide) (by decide) (ck := 20) rfl (cs := 3259) rfl (by decide) (by decide) at_260 263 rfl ?_
  intro w79 T77 X78 hq80
  subst hq80
  refine g_ifNo X78 at_263 (XT.ii_eq_f (by decide)) 266 rfl ?_
  refine g_aload X78 at_266 rfl rfl 268 rfl ?_
  refine g_bipush X78 (33 : Int32) at_268 (by decide) 270 rfl ?_
  refine g_iload X78 at_270 rfl 272 rfl ?_
  refine g_iadd X78 at_272 (35 : Int32) (by decide) 273 rfl ?_
  refine g_iload X78 at_273 rfl 275 rfl ?_
  refine g_iadd X78 at_275 (37 : Int32) (by decide) 276 rfl ?_
  refine g_bipush X78 (32 : Int32) at_276 (by decide) 278 rfl ?_
  refine g_callSp X78 (hw _ (List.mem_of_getElem? (i := 243) rfl)) (hw _ (List.mem_of_getElem? (i := 244) rfl)) (hw _ (List.mem_of_getElem? (i := 2) rfl)) (hw _ (List.mem_of_getElem? (i := 245) rfl)) (by decide) (c_at l Z a0 G r23 t32 kb33 (msgL [k1 &&& (255 : Int32), k2 &&& (255 : Int32)] [k3 &&& (255 : Int32), k4 &&& (255 : Int32)]) 37 (32 : Int32) h19 e34 f35 f36 kc37 b38 l39 (Nat.le_of_ble_eq_true rfl) rfl) (by simp) (argsL := [.ref r23, .int (37 : Int32), .int (32 : Int32)]) (rest := []) pd_3 rfl rfl rfl rfl 0 (Nat.le_of_eq rfl) (by decide) (by decide) (ck := 20) rfl (cs := 3259) rfl (by decide) (by decide) at_278 281 rfl ?_
  intro w83 T81 X82 hq84
  subst hq84
  refine g_ifNo X82 at_281 (XT.ii_eq_f (by decide)) 284 rfl ?_
  refine g_aload X82 at_284 rfl rfl 286 rfl ?_
  refine g_bipush X82 (60 : Int32) at_286 (by decide) 288 rfl ?_
  refine g_iload X82 at_288 rfl 290 rfl ?_
  refine g_iadd X82 at_290 (62 : Int32) (by decide) 291 rfl ?_
  refine g_iload X82 at_291 rfl 293 rfl ?_
  refine g_iadd X82 at_293 (64 : Int32) (by decide) 294 rfl ?_
  refine g_bipush X82 (101 : Int32) at_294 (by decide) 296 rfl ?_
  refine g_callSp X82 (hw _ (List.mem_of_getElem? (i := 243) rfl)) (hw _ (List.mem_of_getElem? (i := 244) rfl)) (hw _ (List.mem_of_getElem? (i := 2) rfl)) (hw _ (List.mem_of_getElem? (i := 245) rfl)) (by decide) (c_at l Z a0 G r23 t32 kb33 (msgL [k1 &&& (255 : Int32), k2 &&& (255 : Int32)] [k3 &&& (255 : Int32), k4 &&& (255 : Int32)]) 64 (101 : Int32) h19 e34 f35 f36 kc37 b38 l39 (Nat.le_of_ble_eq_true rfl) rfl) (by simp) (argsL := [.ref r23, .int (64 : Int32), .int (101 : Int32)]) (rest := []) pd_3 rfl rfl rfl rfl 0 (Nat.le_of_eq rfl) (by decide) (by decide) (ck := 20) rfl (cs := 3259) rfl (by decide) (by decide) at_296 299 rfl ?_
  intro w87 T85 X86 hq88
  subst hq88
  refine g_ifNo X86 at_299 (XT.ii_eq_f (by decide)) 302 rfl ?_
  refine g_iconst X86 (1 : Int32) at_302 (by decide) 303 rfl ?_
  refine g_goto X86 at_303 307 (by decide) (by decide) ?_
  refine g_istore X86 at_307 (Ls' := #[.val (.int k0), .val (.int k1), .val (.int k2), .val (.int k3), .val (.int k4), .val (.int (2 : Int32)), .val (.int (2 : Int32)), .val (.int (k1 &&& (255 : Int32))), .val (.int (k2 &&& (255 : Int32))), .val (.int (k3 &&& (255 : Int32))), .val (.int (k4 &&& (255 : Int32))), .val (.ref s6), .val (.ref s14), .val (.ref r23), .val (.int (1 : Int32))]) rfl 309 rfl ?_
  refine g_iload X86 at_309 rfl 311 rfl ?_
  refine g_iconst X86 (1 : Int32) at_311 (by decide) 312 rfl ?_
  refine g_icmpNo X86 at_312 (XT.ii_lt_f (by decide)) 315 rfl ?_
  refine g_iload X86 at_315 rfl 317 rfl ?_
  refine g_ifNo X86 at_317 (XT.ii_eq_f (by decide)) 320 rfl ?_
  refine g_aload X86 at_320 rfl rfl 322 rfl ?_
  refine g_bipush X86 (18 : Int32) at_322 (by decide) 324 rfl ?_
  refine g_iload X86 at_324 rfl 326 rfl ?_
  refine g_callSp X86 (hw _ (List.mem_of_getElem? (i := 243) rfl)) (hw _ (List.mem_of_getElem? (i := 244) rfl)) (hw _ (List.mem_of_getElem? (i := 2) rfl)) (hw _ (List.mem_of_getElem? (i := 245) rfl)) (by decide) (c_at l Z a0 G r23 t32 kb33 (msgL [k1 &&& (255 : Int32), k2 &&& (255 : Int32)] [k3 &&& (255 : Int32), k4 &&& (255 : Int32)]) 18 (k1 &&& (255 : Int32)) h19 e34 f35 f36 kc37 b38 l39 (Nat.le_of_ble_eq_true rfl) rfl) (by simp) (argsL := [.ref r23, .int (18 : Int32), .int (k1 &&& (255 : Int32))]) (rest := []) pd_3 rfl rfl rfl rfl 0 (Nat.le_of_eq rfl) (by decide) (by decide) (ck := 20) rfl (cs := 3259) rfl (by decide) (by decide) at_326 329 rfl ?_
  intro w91 T89 X90 hq92
  subst hq92
  refine g_ifNo X90 at_329 (XT.ii_eq_f (by decide)) 332 rfl ?_
  refine g_iconst X90 (1 : Int32) at_332 (by decide) 333 rfl ?_
  refine g_goto X90 at_333 337 (by decide) (by decide) ?_
  refine g_istore X90 at_337 (Ls' := #[.val (.int k0), .val (.int k1), .val (.int k2), .val (.int k3), .val (.int k4), .val (.int (2 : Int32)), .val (.int (2 : Int32)), .val (.int (k1 &&& (255 : Int32))), .val (.int (k2 &&& (255 : Int32))), .val (.int (k3 &&& (255 : Int32))), .val (.int (k4 &&& (255 : Int32))), .val (.ref s6), .val (.ref s14), .val (.ref r23), .val (.int (1 : Int32))]) rfl 339 rfl ?_
  refine g_iload X90 at_339 rfl 341 rfl ?_
  refine g_iconst X90 (2 : Int32) at_341 (by decide) 342 rfl ?_
  refine g_icmpNo X90 at_342 (XT.ii_ne_f (by decide)) 345 rfl ?_
  refine g_iload X90 at_345 rfl 347 rfl ?_
  refine g_ifNo X90 at_347 (XT.ii_eq_f (by decide)) 350 rfl ?_
  refine g_aload X90 at_350 rfl rfl 352 rfl ?_
  refine g_bipush X90 (19 : Int32) at_352 (by decide) 354 rfl ?_
  refine g_iload X90 at_354 rfl 356 rfl ?_
  refine g_callSp X90 (hw _ (List.mem_of_getElem? (i := 243) rfl)) (hw _ (List.mem_of_getElem? (i := 244) rfl)) (hw _ (List.mem_of_getElem? (i := 2) rfl)) (hw _ (List.mem_of_getElem? (i := 245) rfl)) (by decide) (c_at l Z a0 G r23 t32 kb33 (msgL [k1 &&& (255 : Int32), k2 &&& (255 : Int32)] [k3 &&& (255 : Int32), k4 &&& (255 : Int32)]) 19 (k2 &&& (255 : Int32)) h19 e34 f35 f36 kc37 b38 l39 (Nat.le_of_ble_eq_true rfl) rfl) (by simp) (argsL := [.ref r23, .int (19 : Int32), .int (k2 &&& (255 : Int32))]) (rest := []) pd_3 rfl rfl rfl rfl 0 (Nat.le_of_eq rfl) (by decide) (by decide) (ck := 20) rfl (cs := 3259) rfl (by decide) (by decide) at_356 359 rfl ?_
  intro w95 T93 X94 hq96
  subst hq96
  refine g_ifNo X94 at_359 (XT.ii_eq_f (by decide)) 362 rfl ?_
  refine g_iconst X94 (1 : Int32) at_362 (by decide) 363 rfl ?_
  refine g_goto X94 at_363 367 (by decide) (by decide) ?_
  refine g_istore X94 at_367 (Ls' := #[.val (.int k0), .val (.int k1), .val (.int k2), .val (.int k3), .val (.int k4), .val (.int (2 : Int32)), .val (.int (2 : Int32)), .val (.int (k1 &&& (255 : Int32))), .val (.int (k2 &&& (255 : Int32))), .val (.int (k3 &&& (255 : Int32))), .val (.int (k4 &&& (255 : Int32))), .val (.ref s6), .val (.ref s14), .val (.ref r23), .val (.int (1 : Int32))]) rfl 369 rfl ?_
  refine g_iload X94 at_369 rfl 371 rfl ?_
  refine g_iconst X94 (1 : Int32) at_371 (by decide) 372 rfl ?_
  refine g_icmpNo X94 at_372 (XT.ii_lt_f (by decide)) 375 rfl ?_
  refine g_iload X94 at_375 rfl 377 rfl ?_
  refine g_ifNo X94 at_377 (XT.ii_eq_f (by decide)) 380 rfl ?_
  refine g_aload X94 at_380 rfl rfl 382 rfl ?_
  refine g_bipush X94 (31 : Int32) at_382 (by decide) 384 rfl ?_
  refine g_iload X94 at_384 rfl 386 rfl ?_
  refine g_iadd X94 at_386 (33 : Int32) (by decide) 387 rfl ?_
  refine g_iload X94 at_387 rfl 389 rfl ?_
  refine g_callSp X94 (hw _ (List.mem_of_getElem? (i := 243) rfl)) (hw _ (List.mem_of_getElem? (i := 244) rfl)) (hw _ (List.mem_of_getElem? (i := 2) rfl)) (hw _ (List.mem_of_getElem? (i := 245) rfl)) (by decide) (c_at l Z a0 G r23 t32 kb33 (msgL [k1 &&& (255 : Int32), k2 &&& (255 : Int32)] [k3 &&& (255 : Int32), k4 &&& (255 : Int32)]) 33 (k3 &&& (255 : Int32)) h19 e34 f35 f36 kc37 b38 l39 (Nat.le_of_ble_eq_true rfl) rfl) (by simp) (argsL := [.ref r23, .int (33 : Int32), .int (k3 &&& (255 : Int32))]) (rest := []) pd_3 rfl rfl rfl rfl 0 (Nat.le_of_eq rfl) (by decide) (by decide) (ck := 20) rfl (cs := 3259) rfl (by decide) (by decide) at_389 392 rfl ?_
  intro w99 T97 X98 hq100
  subst hq100
  refine g_ifNo X98 at_392 (XT.ii_eq_f (by decide)) 395 rfl ?_
  refine g_iconst X98 (1 : Int32) at_395 (by decide) 396 rfl ?_
  refine g_goto X98 at_396 400 (by decide) (by decide) ?_
  refine g_istore X98 at_400 (Ls' := #[.val (.int k0), .val (.int k1), .val (.int k2), .val (.int k3), .val (.int k4), .val (.int (2 : Int32)), .val (.int (2 : Int32)), .val (.int (k1 &&& (255 : Int32))), .val (.int (k2 &&& (255 : Int32))), .val (.int (k3 &&& (255 : Int32))), .val (.int (k4 &&& (255 : Int32))), .val (.ref s6), .val (.ref s14), .val (.ref r23), .val (.int (1 : Int32))]) rfl 402 rfl ?_
  refine g_iload X98 at_402 rfl 404 rfl ?_
  refine g_iconst X98 (2 : Int32) at_404 (by decide) 405 rfl ?_
  refine g_icmpNo X98 at_405 (XT.ii_ne_f (by decide)) 408 rfl ?_
  refine g_iload X98 at_408 rfl 410 rfl ?_
  refine g_ifNo X98 at_410 (XT.ii_eq_f (by decide)) 413 rfl ?_
  refine g_aload X98 at_413 rfl rfl 415 rfl ?_
  refine g_bipush X98 (32 : Int32) at_415 (by decide) 417 rfl ?_
  refine g_iload X98 at_417 rfl 419 rfl ?_
  refine g_iadd X98 at_419 (34 : Int32) (by decide) 420 rfl ?_
  refine g_iload X98 at_420 rfl 422 rfl ?_
  refine g_callSp X98 (hw _ (List.mem_of_getElem? (i := 243) rfl)) (hw _ (List.mem_of_getElem? (i := 244) rfl)) (hw _ (List.mem_of_getElem? (i := 2) rfl)) (hw _ (List.mem_of_getElem? (i := 245) rfl)) (by decide) (c_at l Z a0 G r23 t32 kb33 (msgL [k1 &&& (255 : Int32), k2 &&& (255 : Int32)] [k3 &&& (255 : Int32), k4 &&& (255 : Int32)]) 34 (k4 &&& (255 : Int32)) h19 e34 f35 f36 kc37 b38 l39 (Nat.le_of_ble_eq_true rfl) rfl) (by simp) (argsL := [.ref r23, .int (34 : Int32), .int (k4 &&& (255 : Int32))]) (rest := []) pd_3 rfl rfl rfl rfl 0 (Nat.le_of_eq rfl) (by decide) (by decide) (ck := 20) rfl (cs := 3259) rfl (by decide) (by decide) at_422 425 rfl ?_
  intro w103 T101 X102 hq104
  subst hq104
  refine g_ifNo X102 at_425 (XT.ii_eq_f (by decide)) 428 rfl ?_
  refine g_iconst X102 (1 : Int32) at_428 (by decide) 429 rfl ?_
  refine g_goto X102 at_429 433 (by decide) (by decide) ?_
  refine g_istore X102 at_433 (Ls' := #[.val (.int k0), .val (.int k1), .val (.int k2), .val (.int k3), .val (.int k4), .val (.int (2 : Int32)), .val (.int (2 : Int32)), .val (.int (k1 &&& (255 : Int32))), .val (.int (k2 &&& (255 : Int32))), .val (.int (k3 &&& (255 : Int32))), .val (.int (k4 &&& (255 : Int32))), .val (.ref s6), .val (.ref s14), .val (.ref r23), .val (.int (1 : Int32))]) rfl 435 rfl ?_
  refine g_iload X102 at_435 rfl 437 rfl ?_
  exact g_retN X102 (t := .boolean) rfl (by simp) at_437 _ rfl (by decide) (by decide) rfl
theorem c_law (l : Launch) (Z : State) (a0 : Array Value) (G : Gl Z a0) (hst : l.stackTraces = true) (k0 k1 k2 k3 k4 : Int32) (h : Heap) : CtrK KnownL l Z EL nw x code maxLocals ret room_1 #[.int k0, .int k1, .int k2, .int k3, .int k4] h [] (fun v _ => v = some (.int 1)) := by
  rcases mod3b k0 with e5 | e5 | e5 <;> rcases mod3b (XT.ushr k0 (8 : Int32)) with e6 | e6 | e6
  · exact c_law00 l Z a0 G hst k0 k1 k2 k3 k4 h e5 e6
  · exact c_law01 l Z a0 G hst k0 k1 k2 k3 k4 h e5 e6
  · exact c_law02 l Z a0 G hst k0 k1 k2 k3 k4 h e5 e6
  · exact c_law10 l Z a0 G hst k0 k1 k2 k3 k4 h e5 e6
  · exact c_law11 l Z a0 G hst k0 k1 k2 k3 k4 h e5 e6
  · exact c_law12 l Z a0 G hst k0 k1 k2 k3 k4 h e5 e6
  · exact c_law20 l Z a0 G hst k0 k1 k2 k3 k4 h e5 e6
  · exact c_law21 l Z a0 G hst k0 k1 k2 k3 k4 h e5 e6
  · exact c_law22 l Z a0 G hst k0 k1 k2 k3 k4 h e5 e6
set_option maxRecDepth 65536 in
set_option maxHeartbeats 40000000 in
theorem comes_1 {Post : Tables → Env → Array Value → State → Outcome → State → Prop} (hpost : ∀ tb e args s v u, (limb_1_1.after args s (.returned v) u = true ∧ limb_1_2.after args s (.returned v) u = true) → FramedW s (.returned v) u (Jvm.fieldLocs frame_1_writes args s ++ Jvm.arrayLocs frame_1_arrays args s ++ Jvm.staticLocs frame_1_statics s) 48 11200 → Post tb e args s (.returned v) u) :
    ArmFor flags0 classFile x code maxLocals ret World_1 tables_1 room_1 Calls_1 rest_1 Pre_1 Post := by
  intro l hfl _ _ p e ha hc hk s m args below hf hA hF happ hP
  obtain ⟨hcalls, hrest, hpre⟩ := hP
  obtain ⟨-, -, -, hnamed, -, -, -, hat⟩ := (Spec.applies_iff hf).mp happ
  obtain ⟨hg, hn⟩ := and_e (Cond.before_iff.mp (show (Jvm.Cond.and given_1 narrow_1).before args s = true from hpre))
  obtain ⟨h1, hg⟩ := and_e hg
  obtain ⟨w0, w1, w2, w3, w4, rfl⟩ : ∃ w0 w1 w2 w3 w4 : Value, args = #[w0, w1, w2, w3, w4] := by
    have hs : args.size = 5 := by simpa [Cond.value, given_1] using h1
    obtain ⟨L⟩ := args
    match L, hs with
    | [w0, w1, w2, w3, w4], _ => exact ⟨w0, w1, w2, w3, w4, rfl⟩
  have hw := fun d (hd : d ∈ tables_1) => atoms_spec (ws := Jvm.Cond.code x code maxLocals ret :: tables_1) hat d (List.mem_cons_of_mem _ hd)
  obtain ⟨g0, hg⟩ := and_e hg
  obtain ⟨g1, hg⟩ := and_e hg
  obtain ⟨g2, hg⟩ := and_e hg
  obtain ⟨g3, hg⟩ := and_e hg
  have g4 := hg
  obtain ⟨i0, e0⟩ := is_v g0
  obtain rfl : w0 = (.int i0) := Option.some.inj e0
  obtain ⟨i1, e1⟩ := is_v g1
  obtain rfl : w1 = (.int i1) := Option.some.inj e1
  obtain ⟨i2, e2⟩ := is_v g2
  obtain rfl : w2 = (.int i2) := Option.some.inj e2
  obtain ⟨i3, e3⟩ := is_v g3
  obtain rfl : w3 = (.int i3) := Option.some.inj e3
  obtain ⟨i4, e4⟩ := is_v g4
  obtain rfl : w4 = (.int i4) := Option.some.inj e4
  have q0 := hn
  obtain ⟨hsets, hown0⟩ := atoms_of _ (rest_1_c_eq ▸ (show rest_1_c.before _ s = true from hrest))
  obtain ⟨zc, ezc⟩ := is_v (Cond.before_iff.mp (hsets _ (List.mem_of_getElem? (i := 1) rfl)))
  have SC : Sta s s.heap "java/lang/String" "COMPACT_STRINGS" "Z" (.int zc) := Sta.start ezc (Or.inl (hsets _ (List.mem_of_getElem? (i := 0) rfl)))
  have hz : ¬ zc = 0 := fun q => by
    have n5 := not_v (Cond.before_iff.mp (hsets _ (List.mem_of_getElem? (i := 2) rfl)))
    exact absurd q (gotF (Cond.eq_ints ezc (Term.int_eval 0)) n5)
  obtain ⟨fm, efm, hfm⟩ := isR_v (Cond.before_iff.mp (hsets _ (List.mem_of_getElem? (i := 8) rfl)))
  have SF : Sta s s.heap "jdk/internal/util/Preconditions" "SIOOBE_FORMATTER" "Ljava/util/function/BiFunction;" fm := Sta.start efm (Or.inl (hsets _ (List.mem_of_getElem? (i := 7) rfl)))
  obtain ⟨vu, evu, hvu⟩ := isR_v (Cond.before_iff.mp (hsets _ (List.mem_of_getElem? (i := 16) rfl)))
  obtain ⟨u0, rfl⟩ : ∃ u0, vu = .ref u0 := by
    rcases ref_cases hvu with rfl | q
    · have n5 := Cond.before_iff.mp (hsets _ (List.mem_of_getElem? (i := 17) rfl))
      simp [Cond.value, evu] at n5
    · exact q
  have SUn : Sta s s.heap "java/lang/Throwable" "UNASSIGNED_STACK" "[Ljava/lang/StackTraceElement;" (.ref u0) := Sta.start evu (Or.inl (hsets _ (List.mem_of_getElem? (i := 15) rfl)))
  obtain ⟨sp, esp, hsp⟩ := isR_v (Cond.before_iff.mp (hsets _ (List.mem_of_getElem? (i := 21) rfl)))
  have SP : Sta s s.heap "java/lang/Throwable" "SUPPRESSED_SENTINEL" "Ljava/util/List;" sp := Sta.start esp (Or.inl (hsets _ (List.mem_of_getElem? (i := 20) rfl)))
  have hst : l.stackTraces = true := (show e.platform.stackTraces = l.stackTraces from by rw [ha.platform]).symm.trans (Jvm.D.Launch.traces_on hfl ha)
  have hSA : ∀ a ∈ Bundle.stringAtoms, a.before _ s = true := fun d hd => hw d ((by decide +kernel : ∀ d ∈ Bundle.stringAtoms, d ∈ tables_1) d hd)
  have hEW : EW s _ EL := (EW.cons (hw _ (List.mem_of_getElem? (i := 50) rfl)) (by decide) (EW.cons (hw _ (List.mem_of_getElem? (i := 122) rfl)) (by decide) (EW.cons (hw _ (List.mem_of_getElem? (i := 123) rfl)) (by decide) (EW.cons (hw _ (List.mem_of_getElem? (i := 232) rfl)) (by decide) (EW.cons (hw _ (List.mem_of_getElem? (i := 18) rfl)) (by decide) EW.nil)))))
  have G : Gl s #[.int i0, .int i1, .int i2, .int i3, .int i4] := ⟨hw, hEW, hSA, ⟨zc, SC, hz⟩, ⟨fm, SF, hfm⟩, ⟨u0, SUn⟩, ⟨sp, SP, hsp⟩⟩
  obtain ⟨n, o, h1, h2, h3, v, L, rfl, hQ, N, -, -, hq, hnw⟩ := c_law l s _ G hst i0 i1 i2 i3 i4 s.heap tables_1 p e ha hc hk s m _ below hf ((Spec.applies_iff_loose hf).mp happ).1 ⟨rfl, State.Warmed39.refl s, rfl, Ext.refl _, (CHv.start hEW (fun p hp => hcalls.2.2.1 p hp) (hsets _ (List.mem_of_getElem? (i := 2) rfl)) (hw _ (List.mem_of_getElem? (i := 19) rfl)) (hw _ (List.mem_of_getElem? (i := 5) rfl))), fun _ q => nomatch q⟩ ⟨hcalls.1, hcalls.2.1⟩
  obtain ⟨rfl⟩ : v = some (.int 1) := hQ
  exact ⟨n, _, h1, h2, h3, hpost _ _ _ _ _ _ ⟨Cond.after_iff.mpr rfl, Cond.after_iff.mpr (eq_i res_at (Term.int_eval (1)) rfl)⟩ ⟨hq.1, hq.2.1, hq.2.2.1, (hq.2.2.2.sift fun y hy => Or.inr (N y hy)).mono (by decide) (by decide)⟩⟩
theorem main_1_1 : Claimed_1_1 := comes_1 fun _ _ _ _ _ _ h hF => ⟨h.1, hF⟩
theorem main_1_2 : Claimed_1_2 := comes_1 fun _ _ _ _ _ _ h hF => ⟨h.2, hF⟩
end Jvm.Pilot.@@N@@
namespace Jvm.Pilot.@@N@@
open Jvm Jvm.ClassFile Sem Op Lib Jvm.Free Jvm.Stand Jvm.Pilot.@@N@@.Jvm.D
/-! MADE BY PROGRAM (witnessworld.py) out of the Statement's table words and the real class files: 43 classes; the members and pool entries that the words name. The judged class is class 1, her method 3. -/
namespace start1
open Jvm.ClassFile
def u (s : String) : CpInfo := .utf8 (stringToUtf16 s)
/-- a pool by its gaps: so many unusable entries, then the entry; so many at the end -/
def gap : Nat → List CpInfo → List CpInfo
  | 0, r => r
  | n + 1, r => .unusable :: gap n r
def poolList (es : List (Nat × CpInfo)) (last : Nat) : List CpInfo := es.foldr (fun e r => gap e.1 (e.2 :: r)) (gap last [])
def pool (es : List (Nat × CpInfo)) (last : Nat) : Array CpInfo := ⟨poolList es last⟩
def fileOf (pool : Array CpInfo) (this : Nat) (attrs : Array Attribute := #[]) (ms : Array MethodInfo := #[]) (fl : Nat := 33) (sup : Nat := 0) (ifs : Array Nat := #[]) (fds : Array FieldInfo := #[]) : ClassFile where
  minorVersion := 0
  majorVersion := 65
  constantPool := pool
  accessFlags := fl
  thisClass := this
  superClass := sup
  interfaces := ifs
  fields := fds
  methods := ms
  attributes := attrs
def plain (name : String) (sup : Option ClassId) : Class where
  name := name
  kind := .ordinary
  loader := none
  accessFlags := 33
  super := sup
  interfaces := #[]
  cf := none
  fields := #[]
  methods := #[]
  instanceTypes := #[]
  staticTypes := #[]
  resolved := #[]
  callSites := []
  init := .initialized
  statics := none
  mirror := none

def pool0 : Array CpInfo := pool [(5, u "<init>"), (0, u "()V"), (1, .class_ 10), (1, u "java/lang/Object")] 113

def k0c0 : Code := { maxStack := 0, maxLocals := 1, code := object_method_1_code, exceptionTable := #[], attributes := #[] }
def k0m0 : Method := { name := "<init>", desc := "()V", sig := { parameters := [], returnType := none }, accessFlags := 1, code := some k0c0 }
/-- java/lang/Object -/
def k0 : Class := { plain "java/lang/Object" none with
  accessFlags := 33
  interfaces := #[]
  cf := some (fileOf pool0 8 #[] #[{ accessFlags := 1, nameIndex := 5, descriptorIndex := 6, attributes := #[] }] 33 0 #[] #[])
  fields := #[]
  methods := #[k0m0]
  instanceTypes := #[]
  staticTypes := #[]
  resolved := Array.replicate 124 none
  statics := none }

def pool1 : Array CpInfo := pool [(2, .class_ 4), (1, u "java/lang/Object"), (0, u "<init>"), (0, u "()V"), (0, .class_ 8), (0, u "java/lang/String"), (0, .methodref 7 10), (0, .nameAndType 5 11), (0, u "([C)V"), (0, .methodref 7 13), (0, .nameAndType 14 15), (0, u "length"), (0, u "()I"), (0, .methodref 7 17), (0, .nameAndType 18 19), (0, u "charAt"), (0, u "(I)C"), (0, .methodref 21 22), (0, .class_ 23), (0, .nameAndType 24 25), (0, u "com/example/capsa/capsa/BeanNameInUseExceptionAliasPinLaw"), (0, u "str"), (0, u "(ICC)Ljava/lang/String;"), (0, .methodref 27 28), (0, .class_ 29), (0, .nameAndType 30 31), (0, u "com/example/capsa/capsa/BeanNameInUseException"), (0, u "alias"), (0, u "(Ljava/lang/String;Ljava/lang/String;)Lcom/example/capsa/capsa/BeanNameInUseException;"), (0, .methodref 27 33), (0, .nameAndType 34 35), (0, u "getMessage"), (0, u "()Ljava/lang/String;"), (0, .string 37), (0, u "Cannot give bean \"\" the alias \"\": that name is already in use"), (0, .methodref 7 39), (0, .nameAndType 40 41), (0, u "equals"), (0, u "(Ljava/lang/Object;)Z"), (0, .methodref 21 43), (0, .nameAndType 44 45), (0, u "at"), (0, u "(Ljava/lang/String;IC)Z"), (3, u "law"), (0, u "(IIIII)Z")] 2

def k1m0 : Method := { name := "<init>", desc := "()V", sig := { parameters := [], returnType := none }, accessFlags := 1, code := none }
def k1c1 : Code := { maxStack := 6, maxLocals := 3, code := method_2_code, exceptionTable := #[], attributes := #[] }
def k1m1 : Method := { name := "str", desc := "(ICC)Ljava/lang/String;", sig := { parameters := [.int, .char, .char], returnType := some (.object "java/lang/String") }, accessFlags := 10, code := some k1c1 }
def k1c2 : Code := { maxStack := 2, maxLocals := 3, code := method_3_code, exceptionTable := #[], attributes := #[] }
def k1m2 : Method := { name := "at", desc := "(Ljava/lang/String;IC)Z", sig := { parameters := [(.object "java/lang/String"), .int, .char], returnType := some .boolean }, accessFlags := 10, code := some k1c2 }
def k1c3 : Code := { maxStack := 3, maxLocals := 15, code := code, exceptionTable := #[], attributes := #[] }
def k1m3 : Method := { name := "law", desc := "(IIIII)Z", sig := { parameters := [.int, .int, .int, .int, .int], returnType := some .boolean }, accessFlags := 9, code := some k1c3 }
/-- com/example/capsa/capsa/BeanNameInUseExceptionAliasPinLaw -/
def k1 : Class := { plain "com/example/capsa/capsa/BeanNameInUseExceptionAliasPinLaw" (some 0) with
  accessFlags := 49
  interfaces := #[]
  cf := some (fileOf pool1 21 #[] #[{ accessFlags := 1, nameIndex := 5, descriptorIndex := 6, attributes := #[] }, { accessFlags := 10, nameIndex := 24, descriptorIndex := 25, attributes := #[] }, { accessFlags := 10, nameIndex := 44, descriptorIndex := 45, attributes := #[] }, { accessFlags := 9, nameIndex := 49, descriptorIndex := 50, attributes := #[] }] 49 2 #[] #[])
  fields := #[]
  methods := #[k1m0, k1m1, k1m2, k1m3]
  instanceTypes := #[]
  staticTypes := #[]
  resolved := Array.replicate 53 none
  statics := none }

def pool2 : Array CpInfo := pool [(1, .class_ 2), (0, u "java/io/Serializable"), (0, .class_ 4), (0, u "java/lang/Object")] 2

/-- java/io/Serializable -/
def k2 : Class := { plain "java/io/Serializable" (some 0) with
  accessFlags := 1537
  interfaces := #[]
  cf := some (fileOf pool2 1 #[] #[] 1537 3 #[] #[])
  fields := #[]
  methods := #[]
  instanceTypes := #[]
  staticTypes := #[]
  resolved := Array.replicate 7 none
  statics := none }

def pool3 : Array CpInfo := pool [(1, .class_ 2), (0, u "java/lang/Comparable"), (0, .class_ 4), (0, u "java/lang/Object")] 7

/-- java/lang/Comparable -/
def k3 : Class := { plain "java/lang/Comparable" (some 0) with
  accessFlags := 1537
  interfaces := #[]
  cf := some (fileOf pool3 1 #[] #[] 1537 3 #[] #[])
  fields := #[]
  methods := #[]
  instanceTypes := #[]
  staticTypes := #[]
  resolved := Array.replicate 12 none
  statics := none }

def pool4 : Array CpInfo := pool [(2, .class_ 4), (1, u "java/lang/CharSequence"), (42, .class_ 48), (0, u "java/lang/CharSequence$1CodePointIterator"), (10, .class_ 60), (0, u "java/lang/CharSequence$1CharIterator"), (5, .class_ 67), (0, u "java/lang/Object")] 63

/-- java/lang/CharSequence -/
def k4 : Class := { plain "java/lang/CharSequence" (some 0) with
  accessFlags := 1537
  interfaces := #[]
  cf := some (fileOf pool4 2 #[.nestMembers #[47, 59]] #[] 1537 66 #[] #[])
  fields := #[]
  methods := #[]
  instanceTypes := #[]
  staticTypes := #[]
  resolved := Array.replicate 131 none
  statics := none }

def pool5 : Array CpInfo := pool [(1, .class_ 2), (0, u "java/lang/constant/Constable"), (0, .class_ 4), (0, u "java/lang/Object")] 6

/-- java/lang/constant/Constable -/
def k5 : Class := { plain "java/lang/constant/Constable" (some 0) with
  accessFlags := 1537
  interfaces := #[]
  cf := some (fileOf pool5 1 #[] #[] 1537 3 #[] #[])
  fields := #[]
  methods := #[]
  instanceTypes := #[]
  staticTypes := #[]
  resolved := Array.replicate 11 none
  statics := none }

def pool6 : Array CpInfo := pool [(1, .class_ 2), (0, u "java/lang/constant/ConstantDesc"), (0, .class_ 4), (0, u "java/lang/Object")] 32

/-- java/lang/constant/ConstantDesc -/
def k6 : Class := { plain "java/lang/constant/ConstantDesc" (some 0) with
  accessFlags := 1537
  interfaces := #[]
  cf := some (fileOf pool6 1 #[] #[] 1537 3 #[] #[])
  fields := #[]
  methods := #[]
  instanceTypes := #[]
  staticTypes := #[]
  resolved := Array.replicate 37 none
  statics := none }

def pool7 : Array CpInfo := pool [(1, .methodref 2 3), (0, .class_ 4), (0, .nameAndType 5 6), (0, u "java/lang/Object"), (0, u "<init>"), (0, u "()V"), (0, .string 8), (0, u ""), (0, .fieldref 10 11), (0, .class_ 12), (0, .nameAndType 13 14), (0, u "java/lang/String"), (0, u "value"), (0, u "[B"), (0, .fieldref 10 16), (0, .nameAndType 17 18), (0, u "coder"), (0, u "B"), (2, u "hash"), (0, u "I"), (2, u "hashIsZero"), (0, u "Z"), (0, .methodref 10 28), (0, .nameAndType 5 29), (0, u "([CIILjava/lang/Void;)V"), (8, .fieldref 10 39), (0, .nameAndType 40 26), (0, u "COMPACT_STRINGS"), (1, .class_ 44), (1, u "java/lang/StringUTF16"), (0, u "compress"), (1, .methodref 42 48), (0, .nameAndType 49 50), (0, u "coderFromArrayLen"), (0, u "([BI)B"), (3, .methodref 55 56), (0, .class_ 57), (0, .nameAndType 58 59), (0, u "java/util/Arrays"), (0, u "copyOfRange"), (0, u "([BII)[B"), (47, .class_ 109), (1, u "java/lang/StringLatin1"), (32, u "()Z"), (34, .methodref 42 178), (0, .nameAndType 45 179), (0, u "([CII)[B"), (13, .class_ 195), (1, u "java/lang/System"), (16, .methodref 193 213), (0, .nameAndType 214 215), (0, u "arraycopy"), (0, u "(Ljava/lang/Object;ILjava/lang/Object;II)V"), (118, u "()I"), (0, .methodref 10 336), (0, .nameAndType 17 337), (0, u "()B"), (2, u "()[B"), (22, u "([BI)C"), (27, u "(II)V"), (35, u "(I)C"), (61, .methodref 10 490), (0, .nameAndType 5 491), (0, u "(Ljava/lang/AbstractStringBuilder;Ljava/lang/Void;)V"), (0, .methodref 10 493), (0, .nameAndType 494 142), (0, u "isLatin1"), (0, .methodref 107 496), (0, .nameAndType 497 363), (0, u "charAt"), (3, u "checkIndex"), (4, .nameAndType 507 334), (0, u "length"), (24, u "getBytes"), (8, .methodref 107 542), (0, .nameAndType 543 544), (0, u "equals"), (0, u "([B[B)Z"), (4, .methodref 550 506), (0, .class_ 551), (0, u "java/lang/AbstractStringBuilder"), (0, .methodref 550 553), (0, .nameAndType 554 340), (0, u "getValue"), (18, u "(Ljava/lang/Object;)Z"), (1, .class_ 576), (0, u "java/lang/CharSequence"), (22, u "CASE_INSENSITIVE_ORDER"), (0, u "Ljava/util/Comparator;"), (220, u "([BIB)V"), (188, u "([C)V"), (36, .methodref 550 493), (5, .fieldref 1054 1055), (0, .class_ 1056), (0, .nameAndType 1057 1058), (0, u "jdk/internal/util/Preconditions"), (0, u "SIOOBE_FORMATTER"), (0, u "Ljava/util/function/BiFunction;"), (0, .methodref 1054 1060), (0, .nameAndType 501 1061), (0, u "(IILjava/util/function/BiFunction;)I"), (39, u "serialPersistentFields"), (0, u "[Ljava/io/ObjectStreamField;"), (0, .class_ 1104), (0, u "java/lang/String$CaseInsensitiveComparator"), (1, .class_ 1107), (0, u "java/io/Serializable"), (0, .class_ 1109), (0, u "java/lang/Comparable"), (0, .class_ 1111), (0, u "java/lang/constant/Constable"), (0, .class_ 1113), (0, u "java/lang/constant/ConstantDesc"), (2, u "serialVersionUID"), (0, u "J"), (3, u "REPL"), (0, u "C"), (2, u "LATIN1"), (1, u "UTF16"), (105, u "(Ljava/lang/StringBuilder;)V")] 217

def k7m0 : Method := { name := "<init>", desc := "()V", sig := { parameters := [], returnType := none }, accessFlags := 1, code := none }
def k7c1 : Code := { maxStack := 5, maxLocals := 2, code := jdk_42_method_3_code, exceptionTable := #[], attributes := #[] }
def k7m1 : Method := { name := "<init>", desc := "([C)V", sig := { parameters := [(.array .char)], returnType := none }, accessFlags := 1, code := some k7c1 }
def k7c2 : Code := { maxStack := 3, maxLocals := 2, code := jdk_42_method_53_code, exceptionTable := #[], attributes := #[] }
def k7m2 : Method := { name := "<init>", desc := "(Ljava/lang/StringBuilder;)V", sig := { parameters := [(.object "java/lang/StringBuilder")], returnType := none }, accessFlags := 1, code := some k7c2 }
def k7c3 : Code := { maxStack := 2, maxLocals := 1, code := jdk_42_method_54_code, exceptionTable := #[], attributes := #[] }
def k7m3 : Method := { name := "length", desc := "()I", sig := { parameters := [], returnType := some .int }, accessFlags := 1, code := some k7c3 }
def k7c4 : Code := { maxStack := 2, maxLocals := 2, code := jdk_42_method_56_code, exceptionTable := #[], attributes := #[] }
def k7m4 : Method := { name := "charAt", desc := "(I)C", sig := { parameters := [.int], returnType := some .char }, accessFlags := 1, code := some k7c4 }
def k7c5 : Code := { maxStack := 2, maxLocals := 3, code := jdk_42_method_66_code, exceptionTable := #[], attributes := #[] }
def k7m5 : Method := { name := "equals", desc := "(Ljava/lang/Object;)Z", sig := { parameters := [(.object "java/lang/Object")], returnType := some .boolean }, accessFlags := 1, code := some k7c5 }
def k7c6 : Code := { maxStack := 5, maxLocals := 4, code := jdk_42_method_147_code, exceptionTable := #[], attributes := #[] }
def k7m6 : Method := { name := "getBytes", desc := "([BIB)V", sig := { parameters := [(.array .byte), .int, .byte], returnType := none }, accessFlags := 0, code := some k7c6 }
def k7c7 : Code := { maxStack := 4, maxLocals := 6, code := jdk_42_method_149_code, exceptionTable := #[], attributes := #[] }
def k7m7 : Method := { name := "<init>", desc := "([CIILjava/lang/Void;)V", sig := { parameters := [(.array .char), .int, .int, (.object "java/lang/Void")], returnType := none }, accessFlags := 2, code := some k7c7 }
def k7c8 : Code := { maxStack := 5, maxLocals := 5, code := jdk_42_method_150_code, exceptionTable := #[], attributes := #[] }
def k7m8 : Method := { name := "<init>", desc := "(Ljava/lang/AbstractStringBuilder;Ljava/lang/Void;)V", sig := { parameters := [(.object "java/lang/AbstractStringBuilder"), (.object "java/lang/Void")], returnType := none }, accessFlags := 0, code := some k7c8 }
def k7c9 : Code := { maxStack := 1, maxLocals := 1, code := jdk_42_method_152_code, exceptionTable := #[], attributes := #[] }
def k7m9 : Method := { name := "coder", desc := "()B", sig := { parameters := [], returnType := some .byte }, accessFlags := 0, code := some k7c9 }
def k7c10 : Code := { maxStack := 1, maxLocals := 1, code := jdk_42_method_154_code, exceptionTable := #[], attributes := #[] }
def k7m10 : Method := { name := "isLatin1", desc := "()Z", sig := { parameters := [], returnType := some .boolean }, accessFlags := 0, code := some k7c10 }
def k7c11 : Code := { maxStack := 3, maxLocals := 2, code := jdk_42_method_155_code, exceptionTable := #[], attributes := #[] }
def k7m11 : Method := { name := "checkIndex", desc := "(II)V", sig := { parameters := [.int, .int], returnType := none }, accessFlags := 8, code := some k7c11 }
/-- java/lang/String -/
def k7 : Class := { plain "java/lang/String" (some 0) with
  accessFlags := 49
  interfaces := #[2, 3, 4, 5, 6]
  cf := some (fileOf pool7 10 #[.nestMembers #[1103]] #[{ accessFlags := 1, nameIndex := 5, descriptorIndex := 6, attributes := #[] }, { accessFlags := 1, nameIndex := 5, descriptorIndex := 1010, attributes := #[] }, { accessFlags := 1, nameIndex := 5, descriptorIndex := 1233, attributes := #[] }, { accessFlags := 1, nameIndex := 507, descriptorIndex := 334, attributes := #[] }, { accessFlags := 1, nameIndex := 497, descriptorIndex := 427, attributes := #[] }, { accessFlags := 1, nameIndex := 543, descriptorIndex := 573, attributes := #[] }, { accessFlags := 0, nameIndex := 532, descriptorIndex := 821, attributes := #[] }, { accessFlags := 2, nameIndex := 5, descriptorIndex := 29, attributes := #[] }, { accessFlags := 0, nameIndex := 5, descriptorIndex := 491, attributes := #[] }, { accessFlags := 0, nameIndex := 17, descriptorIndex := 337, attributes := #[] }, { accessFlags := 0, nameIndex := 494, descriptorIndex := 142, attributes := #[] }, { accessFlags := 8, nameIndex := 501, descriptorIndex := 391, attributes := #[] }] 49 2 #[1106, 1108, 575, 1110, 1112] #[{ accessFlags := 18, nameIndex := 13, descriptorIndex := 14, attributes := #[] }, { accessFlags := 18, nameIndex := 17, descriptorIndex := 18, attributes := #[] }, { accessFlags := 2, nameIndex := 21, descriptorIndex := 22, attributes := #[] }, { accessFlags := 2, nameIndex := 25, descriptorIndex := 26, attributes := #[] }, { accessFlags := 26, nameIndex := 1116, descriptorIndex := 1117, attributes := #[] }, { accessFlags := 24, nameIndex := 40, descriptorIndex := 26, attributes := #[] }, { accessFlags := 26, nameIndex := 1101, descriptorIndex := 1102, attributes := #[] }, { accessFlags := 26, nameIndex := 1121, descriptorIndex := 1122, attributes := #[] }, { accessFlags := 25, nameIndex := 599, descriptorIndex := 600, attributes := #[] }, { accessFlags := 24, nameIndex := 1125, descriptorIndex := 18, attributes := #[] }, { accessFlags := 24, nameIndex := 1127, descriptorIndex := 18, attributes := #[] }])
  fields := #[{ name := "value", type := (.array .byte), accessFlags := 18, slot := 0, constantValue := 0 }, { name := "coder", type := .byte, accessFlags := 18, slot := 1, constantValue := 0 }, { name := "hash", type := .int, accessFlags := 2, slot := 2, constantValue := 0 }, { name := "hashIsZero", type := .boolean, accessFlags := 2, slot := 3, constantValue := 0 }, { name := "serialVersionUID", type := .long, accessFlags := 26, slot := 0, constantValue := 0 }, { name := "COMPACT_STRINGS", type := .boolean, accessFlags := 24, slot := 1, constantValue := 0 }, { name := "serialPersistentFields", type := (.array (.object "java/io/ObjectStreamField")), accessFlags := 26, slot := 2, constantValue := 0 }, { name := "REPL", type := .char, accessFlags := 26, slot := 3, constantValue := 0 }, { name := "CASE_INSENSITIVE_ORDER", type := (.object "java/util/Comparator"), accessFlags := 25, slot := 4, constantValue := 0 }, { name := "LATIN1", type := .byte, accessFlags := 24, slot := 5, constantValue := 0 }, { name := "UTF16", type := .byte, accessFlags := 24, slot := 6, constantValue := 0 }]
  methods := #[k7m0, k7m1, k7m2, k7m3, k7m4, k7m5, k7m6, k7m7, k7m8, k7m9, k7m10, k7m11]
  instanceTypes := #[(.array .byte), .byte, .int, .boolean]
  staticTypes := #[.long, .boolean, (.array (.object "java/io/ObjectStreamField")), .char, (.object "java/util/Comparator"), .byte, .byte]
  resolved := Array.replicate 1451 none
  statics := some 0 }

def pool8 : Array CpInfo := pool [(1, .methodref 2 3), (0, .class_ 4), (0, .nameAndType 5 6), (0, u "java/lang/Object"), (0, u "<init>"), (0, u "()V"), (0, .fieldref 8 9), (0, .class_ 10), (0, .nameAndType 11 12), (0, u "java/lang/Throwable"), (0, u "cause"), (0, u "Ljava/lang/Throwable;"), (0, .fieldref 8 14), (0, .nameAndType 15 16), (0, u "UNASSIGNED_STACK"), (0, u "[Ljava/lang/StackTraceElement;"), (0, .fieldref 8 18), (0, .nameAndType 19 16), (0, u "stackTrace"), (0, .fieldref 8 21), (0, .nameAndType 22 23), (0, u "SUPPRESSED_SENTINEL"), (0, u "Ljava/util/List;"), (0, .fieldref 8 25), (0, .nameAndType 26 23), (0, u "suppressedExceptions"), (0, .methodref 8 28), (0, .nameAndType 29 30), (0, u "fillInStackTrace"), (0, u "()Ljava/lang/Throwable;"), (0, .fieldref 8 32), (0, .nameAndType 33 34), (0, u "detailMessage"), (0, u "Ljava/lang/String;"), (3, u "()Ljava/lang/String;"), (2, u "getMessage"), (51, .class_ 94), (0, u "java/lang/Throwable$WrappedPrintStream"), (6, .class_ 103), (1, u "java/lang/Throwable$PrintStreamOrWriter"), (61, u "$assertionsDisabled"), (0, u "Z"), (26, .class_ 194), (0, u "java/lang/Throwable$WrappedPrintWriter"), (3, .fieldref 8 199), (0, .nameAndType 200 201), (0, u "backtrace"), (0, u "Ljava/lang/Object;"), (0, .methodref 8 203), (0, .nameAndType 29 204), (0, u "(I)Ljava/lang/Throwable;"), (6, u "depth"), (0, u "I"), (10, u "(Ljava/lang/String;)V"), (45, .class_ 271), (1, u "java/lang/Throwable$SentinelHolder"), (32, u "EMPTY_THROWABLE_ARRAY"), (0, u "[Ljava/lang/Throwable;"), (12, .class_ 319), (0, u "java/io/Serializable"), (0, u "serialVersionUID"), (0, u "J"), (5, u "NULL_CAUSE_MESSAGE"), (0, u "SELF_SUPPRESSION_MESSAGE"), (0, u "CAUSE_CAPTION"), (0, u "SUPPRESSED_CAPTION")] 73

def k8c0 : Code := { maxStack := 2, maxLocals := 1, code := jdk_78_method_1_code, exceptionTable := #[], attributes := #[] }
def k8m0 : Method := { name := "<init>", desc := "()V", sig := { parameters := [], returnType := none }, accessFlags := 1, code := some k8c0 }
def k8c1 : Code := { maxStack := 2, maxLocals := 2, code := jdk_78_method_2_code, exceptionTable := #[], attributes := #[] }
def k8m1 : Method := { name := "<init>", desc := "(Ljava/lang/String;)V", sig := { parameters := [(.object "java/lang/String")], returnType := none }, accessFlags := 1, code := some k8c1 }
def k8c2 : Code := { maxStack := 1, maxLocals := 1, code := jdk_78_method_6_code, exceptionTable := #[], attributes := #[] }
def k8m2 : Method := { name := "getMessage", desc := "()Ljava/lang/String;", sig := { parameters := [], returnType := some (.object "java/lang/String") }, accessFlags := 1, code := some k8c2 }
def k8c3 : Code := { maxStack := 2, maxLocals := 1, code := ⟨#[0x2a, 0xb4, 0x00, 0x11, 0xc7, 0x00, 0x0a, 0x2a, 0xb4, 0x00, 0xc6, 0xc6, 0x00, 0x10, 0x2a, 0x03, 0xb6, 0x00, 0xca, 0x57, 0x2a, 0xb2, 0x00, 0x0d, 0xb5, 0x00, 0x11, 0x2a, 0xb0]⟩, exceptionTable := #[], attributes := #[] }
def k8m3 : Method := { name := "fillInStackTrace", desc := "()Ljava/lang/Throwable;", sig := { parameters := [], returnType := some (.object "java/lang/Throwable") }, accessFlags := 33, code := some k8c3 }
def k8m4 : Method := { name := "fillInStackTrace", desc := "(I)Ljava/lang/Throwable;", sig := { parameters := [.int], returnType := some (.object "java/lang/Throwable") }, accessFlags := 258, code := none }
/-- java/lang/Throwable -/
def k8 : Class := { plain "java/lang/Throwable" (some 0) with
  accessFlags := 33
  interfaces := #[2]
  cf := some (fileOf pool8 8 #[.nestMembers #[193, 93, 101, 269]] #[{ accessFlags := 1, nameIndex := 5, descriptorIndex := 6, attributes := #[] }, { accessFlags := 1, nameIndex := 5, descriptorIndex := 223, attributes := #[] }, { accessFlags := 1, nameIndex := 41, descriptorIndex := 38, attributes := #[] }, { accessFlags := 33, nameIndex := 29, descriptorIndex := 30, attributes := #[] }, { accessFlags := 258, nameIndex := 29, descriptorIndex := 204, attributes := #[] }] 33 2 #[318] #[{ accessFlags := 26, nameIndex := 320, descriptorIndex := 321, attributes := #[] }, { accessFlags := 130, nameIndex := 200, descriptorIndex := 201, attributes := #[] }, { accessFlags := 2, nameIndex := 33, descriptorIndex := 34, attributes := #[] }, { accessFlags := 26, nameIndex := 15, descriptorIndex := 16, attributes := #[] }, { accessFlags := 2, nameIndex := 11, descriptorIndex := 12, attributes := #[] }, { accessFlags := 2, nameIndex := 19, descriptorIndex := 16, attributes := #[] }, { accessFlags := 130, nameIndex := 211, descriptorIndex := 212, attributes := #[] }, { accessFlags := 26, nameIndex := 22, descriptorIndex := 23, attributes := #[] }, { accessFlags := 2, nameIndex := 26, descriptorIndex := 23, attributes := #[] }, { accessFlags := 26, nameIndex := 327, descriptorIndex := 34, attributes := #[] }, { accessFlags := 26, nameIndex := 328, descriptorIndex := 34, attributes := #[] }, { accessFlags := 26, nameIndex := 329, descriptorIndex := 34, attributes := #[] }, { accessFlags := 26, nameIndex := 330, descriptorIndex := 34, attributes := #[] }, { accessFlags := 26, nameIndex := 304, descriptorIndex := 305, attributes := #[] }, { accessFlags := 4120, nameIndex := 165, descriptorIndex := 166, attributes := #[] }])
  fields := #[{ name := "serialVersionUID", type := .long, accessFlags := 26, slot := 0, constantValue := 0 }, { name := "backtrace", type := (.object "java/lang/Object"), accessFlags := 130, slot := 0, constantValue := 0 }, { name := "detailMessage", type := (.object "java/lang/String"), accessFlags := 2, slot := 1, constantValue := 0 }, { name := "UNASSIGNED_STACK", type := (.array (.object "java/lang/StackTraceElement")), accessFlags := 26, slot := 1, constantValue := 0 }, { name := "cause", type := (.object "java/lang/Throwable"), accessFlags := 2, slot := 2, constantValue := 0 }, { name := "stackTrace", type := (.array (.object "java/lang/StackTraceElement")), accessFlags := 2, slot := 3, constantValue := 0 }, { name := "depth", type := .int, accessFlags := 130, slot := 4, constantValue := 0 }, { name := "SUPPRESSED_SENTINEL", type := (.object "java/util/List"), accessFlags := 26, slot := 2, constantValue := 0 }, { name := "suppressedExceptions", type := (.object "java/util/List"), accessFlags := 2, slot := 5, constantValue := 0 }, { name := "NULL_CAUSE_MESSAGE", type := (.object "java/lang/String"), accessFlags := 26, slot := 3, constantValue := 0 }, { name := "SELF_SUPPRESSION_MESSAGE", type := (.object "java/lang/String"), accessFlags := 26, slot := 4, constantValue := 0 }, { name := "CAUSE_CAPTION", type := (.object "java/lang/String"), accessFlags := 26, slot := 5, constantValue := 0 }, { name := "SUPPRESSED_CAPTION", type := (.object "java/lang/String"), accessFlags := 26, slot := 6, constantValue := 0 }, { name := "EMPTY_THROWABLE_ARRAY", type := (.array (.object "java/lang/Throwable")), accessFlags := 26, slot := 7, constantValue := 0 }, { name := "$assertionsDisabled", type := .boolean, accessFlags := 4120, slot := 8, constantValue := 0 }]
  methods := #[k8m0, k8m1, k8m2, k8m3, k8m4]
  instanceTypes := #[(.object "java/lang/Object"), (.object "java/lang/String"), (.object "java/lang/Throwable"), (.array (.object "java/lang/StackTraceElement")), .int, (.object "java/util/List")]
  staticTypes := #[.long, (.array (.object "java/lang/StackTraceElement")), (.object "java/util/List"), (.object "java/lang/String"), (.object "java/lang/String"), (.object "java/lang/String"), (.object "java/lang/String"), (.array (.object "java/lang/Throwable")), .boolean]
  resolved := Array.replicate 404 none
  statics := some 1 }

def pool9 : Array CpInfo := pool [(2, .class_ 4), (1, u "java/lang/Throwable"), (0, u "<init>"), (0, u "()V"), (0, .methodref 2 8), (0, .nameAndType 5 9), (0, u "(Ljava/lang/String;)V"), (9, .class_ 20), (0, u "java/lang/Exception"), (0, u "serialVersionUID"), (0, u "J")] 17

def k9m0 : Method := { name := "<init>", desc := "()V", sig := { parameters := [], returnType := none }, accessFlags := 1, code := none }
def k9c1 : Code := { maxStack := 2, maxLocals := 2, code := jdk_59_method_2_code, exceptionTable := #[], attributes := #[] }
def k9m1 : Method := { name := "<init>", desc := "(Ljava/lang/String;)V", sig := { parameters := [(.object "java/lang/String")], returnType := none }, accessFlags := 1, code := some k9c1 }
/-- java/lang/Exception -/
def k9 : Class := { plain "java/lang/Exception" (some 8) with
  accessFlags := 33
  interfaces := #[]
  cf := some (fileOf pool9 19 #[] #[{ accessFlags := 1, nameIndex := 5, descriptorIndex := 6, attributes := #[] }, { accessFlags := 1, nameIndex := 5, descriptorIndex := 9, attributes := #[] }] 33 2 #[] #[{ accessFlags := 24, nameIndex := 21, descriptorIndex := 22, attributes := #[] }])
  fields := #[{ name := "serialVersionUID", type := .long, accessFlags := 24, slot := 0, constantValue := 0 }]
  methods := #[k9m0, k9m1]
  instanceTypes := #[(.object "java/lang/Object"), (.object "java/lang/String"), (.object "java/lang/Throwable"), (.array (.object "java/lang/StackTraceElement")), .int, (.object "java/util/List")]
  staticTypes := #[.long]
  resolved := Array.replicate 40 none
  statics := none }

def pool10 : Array CpInfo := pool [(2, .class_ 4), (1, u "java/lang/Exception"), (0, u "<init>"), (0, u "()V"), (0, .methodref 2 8), (0, .nameAndType 5 9), (0, u "(Ljava/lang/String;)V"), (9, .class_ 20), (0, u "java/lang/RuntimeException"), (0, u "serialVersionUID"), (0, u "J")] 17

def k10m0 : Method := { name := "<init>", desc := "()V", sig := { parameters := [], returnType := none }, accessFlags := 1, code := none }
def k10c1 : Code := { maxStack := 2, maxLocals := 2, code := jdk_58_method_2_code, exceptionTable := #[], attributes := #[] }
def k10m1 : Method := { name := "<init>", desc := "(Ljava/lang/String;)V", sig := { parameters := [(.object "java/lang/String")], returnType := none }, accessFlags := 1, code := some k10c1 }
/-- java/lang/RuntimeException -/
def k10 : Class := { plain "java/lang/RuntimeException" (some 9) with
  accessFlags := 33
  interfaces := #[]
  cf := some (fileOf pool10 19 #[] #[{ accessFlags := 1, nameIndex := 5, descriptorIndex := 6, attributes := #[] }, { accessFlags := 1, nameIndex := 5, descriptorIndex := 9, attributes := #[] }] 33 2 #[] #[{ accessFlags := 24, nameIndex := 21, descriptorIndex := 22, attributes := #[] }])
  fields := #[{ name := "serialVersionUID", type := .long, accessFlags := 24, slot := 0, constantValue := 0 }]
  methods := #[k10m0, k10m1]
  instanceTypes := #[(.object "java/lang/Object"), (.object "java/lang/String"), (.object "java/lang/Throwable"), (.array (.object "java/lang/StackTraceElement")), .int, (.object "java/util/List")]
  staticTypes := #[.long]
  resolved := Array.replicate 40 none
  statics := none }

def pool11 : Array CpInfo := pool [(1, .methodref 2 3), (0, .class_ 4), (0, .nameAndType 5 6), (0, u "java/lang/RuntimeException"), (0, u "<init>"), (0, u "(Ljava/lang/String;)V"), (3, .class_ 11), (0, u "com/example/capsa/capsa/CapsaException"), (0, u "serialVersionUID"), (0, u "J")] 7

def k11c0 : Code := { maxStack := 2, maxLocals := 2, code := prog_7_method_1_code, exceptionTable := #[], attributes := #[] }
def k11m0 : Method := { name := "<init>", desc := "(Ljava/lang/String;)V", sig := { parameters := [(.object "java/lang/String")], returnType := none }, accessFlags := 4, code := some k11c0 }
/-- com/example/capsa/capsa/CapsaException -/
def k11 : Class := { plain "com/example/capsa/capsa/CapsaException" (some 10) with
  accessFlags := 1057
  interfaces := #[]
  cf := some (fileOf pool11 10 #[] #[{ accessFlags := 4, nameIndex := 5, descriptorIndex := 6, attributes := #[] }] 1057 2 #[] #[{ accessFlags := 26, nameIndex := 12, descriptorIndex := 13, attributes := #[] }])
  fields := #[{ name := "serialVersionUID", type := .long, accessFlags := 26, slot := 0, constantValue := 0 }]
  methods := #[k11m0]
  instanceTypes := #[(.object "java/lang/Object"), (.object "java/lang/String"), (.object "java/lang/Throwable"), (.array (.object "java/lang/StackTraceElement")), .int, (.object "java/util/List")]
  staticTypes := #[.long]
  resolved := Array.replicate 21 none
  statics := none }

def pool12 : Array CpInfo := pool [(1, .class_ 2), (0, u "java/lang/StringBuilder"), (0, .methodref 1 4), (0, .nameAndType 5 6), (0, u "<init>"), (0, u "()V"), (2, .methodref 1 10), (0, .nameAndType 11 12), (0, u "append"), (0, u "(Ljava/lang/String;)Ljava/lang/StringBuilder;"), (4, .methodref 1 18), (0, .nameAndType 19 20), (0, u "toString"), (0, u "()Ljava/lang/String;"), (0, .methodref 22 23), (0, .class_ 24), (0, .nameAndType 5 25), (0, u "com/example/capsa/capsa/BeanNameInUseException"), (0, u "(Ljava/lang/String;)V"), (0, .methodref 27 23), (0, .class_ 28), (0, u "com/example/capsa/capsa/CapsaException"), (0, .string 30), (0, u "Cannot give bean \""), (0, .string 32), (0, u "\" the alias \""), (0, .string 34), (0, u "\": that name is already in use"), (0, u "serialVersionUID"), (0, u "J"), (6, u "alias"), (0, u "(Ljava/lang/String;Ljava/lang/String;)Lcom/example/capsa/capsa/BeanNameInUseException;")] 2

def k12c0 : Code := { maxStack := 2, maxLocals := 2, code := prog_2_method_2_code, exceptionTable := #[], attributes := #[] }
def k12m0 : Method := { name := "<init>", desc := "(Ljava/lang/String;)V", sig := { parameters := [(.object "java/lang/String")], returnType := none }, accessFlags := 2, code := some k12c0 }
def k12c1 : Code := { maxStack := 4, maxLocals := 2, code := prog_2_method_3_code, exceptionTable := #[], attributes := #[] }
def k12m1 : Method := { name := "alias", desc := "(Ljava/lang/String;Ljava/lang/String;)Lcom/example/capsa/capsa/BeanNameInUseException;", sig := { parameters := [(.object "java/lang/String"), (.object "java/lang/String")], returnType := some (.object "com/example/capsa/capsa/BeanNameInUseException") }, accessFlags := 8, code := some k12c1 }
/-- com/example/capsa/capsa/BeanNameInUseException -/
def k12 : Class := { plain "com/example/capsa/capsa/BeanNameInUseException" (some 11) with
  accessFlags := 33
  interfaces := #[]
  cf := some (fileOf pool12 22 #[] #[{ accessFlags := 2, nameIndex := 5, descriptorIndex := 25, attributes := #[] }, { accessFlags := 8, nameIndex := 43, descriptorIndex := 44, attributes := #[] }] 33 27 #[] #[{ accessFlags := 26, nameIndex := 35, descriptorIndex := 36, attributes := #[] }])
  fields := #[{ name := "serialVersionUID", type := .long, accessFlags := 26, slot := 0, constantValue := 0 }]
  methods := #[k12m0, k12m1]
  instanceTypes := #[(.object "java/lang/Object"), (.object "java/lang/String"), (.object "java/lang/Throwable"), (.array (.object "java/lang/StackTraceElement")), .int, (.object "java/util/List")]
  staticTypes := #[.long]
  resolved := Array.replicate 47 none
  statics := none }

def pool13 : Array CpInfo := pool [(1, .class_ 2), (0, u "java/lang/Appendable"), (0, .class_ 4), (0, u "java/lang/Object")] 9

/-- java/lang/Appendable -/
def k13 : Class := { plain "java/lang/Appendable" (some 0) with
  accessFlags := 1537
  interfaces := #[]
  cf := some (fileOf pool13 1 #[] #[] 1537 3 #[] #[])
  fields := #[]
  methods := #[]
  instanceTypes := #[]
  staticTypes := #[]
  resolved := Array.replicate 14 none
  statics := none }

def pool14 : Array CpInfo := pool [(1, .class_ 2), (0, u "java/lang/String"), (0, .methodref 4 5), (0, .class_ 6), (0, .nameAndType 7 8), (0, u "java/lang/Object"), (0, u "<init>"), (0, u "()V"), (1, .class_ 12), (1, u "java/lang/AbstractStringBuilder"), (0, u "EMPTYVALUE"), (0, u "[B"), (0, .fieldref 10 16), (0, .nameAndType 17 14), (0, u "value"), (0, .fieldref 1 19), (0, .nameAndType 20 21), (0, u "COMPACT_STRINGS"), (0, u "Z"), (0, .fieldref 10 23), (0, .nameAndType 24 25), (0, u "coder"), (0, u "B"), (6, .methodref 1 33), (0, .nameAndType 34 35), (0, u "length"), (0, u "()I"), (3, .integer 2147483647), (0, .methodref 1 41), (0, .nameAndType 24 42), (0, u "()B"), (2, u "append"), (0, u "(Ljava/lang/String;)Ljava/lang/AbstractStringBuilder;"), (1, .class_ 49), (0, u "java/lang/CharSequence"), (19, u "(Ljava/lang/String;)V"), (5, u "maybeLatin1"), (3, .fieldref 10 80), (0, .nameAndType 81 82), (0, u "count"), (0, u "I"), (2, u "isLatin1"), (0, u "()Z"), (13, .methodref 10 101), (0, .nameAndType 102 103), (0, u "ensureCapacityInternal"), (0, u "(I)V"), (0, .methodref 10 105), (0, .nameAndType 106 107), (0, u "newCapacity"), (0, u "(I)I"), (0, .methodref 109 110), (0, .class_ 111), (0, .nameAndType 112 113), (0, u "java/util/Arrays"), (0, u "copyOf"), (0, u "([BI)[B"), (0, .methodref 115 116), (0, .class_ 117), (0, .nameAndType 118 119), (0, u "jdk/internal/util/ArraysSupport"), (0, u "newLength"), (0, u "(III)I"), (88, .methodref 10 209), (0, .nameAndType 210 211), (0, u "putStringAt"), (0, u "(ILjava/lang/String;)V"), (5, u "inflateIfNeededFor"), (2, .nameAndType 221 222), (0, u "getBytes"), (0, u "([BIB)V"), (174, .methodref 10 398), (0, .nameAndType 217 69), (0, .methodref 1 220), (3, u "()[B"), (40, .class_ 445), (0, u "java/lang/Appendable"), (106, u "getValue")] 56

def k14m0 : Method := { name := "<init>", desc := "()V", sig := { parameters := [], returnType := none }, accessFlags := 0, code := none }
def k14c1 : Code := { maxStack := 2, maxLocals := 2, code := jdk_68_method_2_code, exceptionTable := #[], attributes := #[] }
def k14m1 : Method := { name := "<init>", desc := "(I)V", sig := { parameters := [.int], returnType := none }, accessFlags := 0, code := some k14c1 }
def k14c2 : Code := { maxStack := 1, maxLocals := 1, code := jdk_68_method_6_code, exceptionTable := #[], attributes := #[] }
def k14m2 : Method := { name := "length", desc := "()I", sig := { parameters := [], returnType := some .int }, accessFlags := 1, code := some k14c2 }
def k14c3 : Code := { maxStack := 4, maxLocals := 3, code := jdk_68_method_9_code, exceptionTable := #[], attributes := #[] }
def k14m3 : Method := { name := "ensureCapacityInternal", desc := "(I)V", sig := { parameters := [.int], returnType := none }, accessFlags := 2, code := some k14c3 }
def k14c4 : Code := { maxStack := 5, maxLocals := 6, code := jdk_68_method_10_code, exceptionTable := #[], attributes := #[] }
def k14m4 : Method := { name := "newCapacity", desc := "(I)I", sig := { parameters := [.int], returnType := some .int }, accessFlags := 2, code := some k14c4 }
def k14c5 : Code := { maxStack := 3, maxLocals := 3, code := jdk_68_method_22_code, exceptionTable := #[], attributes := #[] }
def k14m5 : Method := { name := "append", desc := "(Ljava/lang/String;)Ljava/lang/AbstractStringBuilder;", sig := { parameters := [(.object "java/lang/String")], returnType := some (.object "java/lang/AbstractStringBuilder") }, accessFlags := 1, code := some k14c5 }
def k14c6 : Code := { maxStack := 1, maxLocals := 1, code := jdk_68_method_64_code, exceptionTable := #[], attributes := #[] }
def k14m6 : Method := { name := "getValue", desc := "()[B", sig := { parameters := [], returnType := some (.array .byte) }, accessFlags := 16, code := some k14c6 }
def k14c7 : Code := { maxStack := 1, maxLocals := 1, code := jdk_68_method_68_code, exceptionTable := #[], attributes := #[] }
def k14m7 : Method := { name := "isLatin1", desc := "()Z", sig := { parameters := [], returnType := some .boolean }, accessFlags := 16, code := some k14c7 }
def k14c8 : Code := { maxStack := 2, maxLocals := 2, code := jdk_68_method_71_code, exceptionTable := #[], attributes := #[] }
def k14m8 : Method := { name := "inflateIfNeededFor", desc := "(Ljava/lang/String;)V", sig := { parameters := [(.object "java/lang/String")], returnType := none }, accessFlags := 2, code := some k14c8 }
def k14c9 : Code := { maxStack := 4, maxLocals := 3, code := jdk_68_method_73_code, exceptionTable := #[], attributes := #[] }
def k14m9 : Method := { name := "putStringAt", desc := "(ILjava/lang/String;)V", sig := { parameters := [.int, (.object "java/lang/String")], returnType := none }, accessFlags := 2, code := some k14c9 }
/-- java/lang/AbstractStringBuilder -/
def k14 : Class := { plain "java/lang/AbstractStringBuilder" (some 0) with
  accessFlags := 1056
  interfaces := #[13, 4]
  cf := some (fileOf pool14 10 #[] #[{ accessFlags := 0, nameIndex := 7, descriptorIndex := 8, attributes := #[] }, { accessFlags := 0, nameIndex := 7, descriptorIndex := 103, attributes := #[] }, { accessFlags := 1, nameIndex := 34, descriptorIndex := 35, attributes := #[] }, { accessFlags := 2, nameIndex := 102, descriptorIndex := 103, attributes := #[] }, { accessFlags := 2, nameIndex := 106, descriptorIndex := 107, attributes := #[] }, { accessFlags := 1, nameIndex := 45, descriptorIndex := 46, attributes := #[] }, { accessFlags := 16, nameIndex := 552, descriptorIndex := 403, attributes := #[] }, { accessFlags := 16, nameIndex := 85, descriptorIndex := 86, attributes := #[] }, { accessFlags := 2, nameIndex := 217, descriptorIndex := 69, attributes := #[] }, { accessFlags := 2, nameIndex := 210, descriptorIndex := 211, attributes := #[] }] 1056 4 #[444, 48] #[{ accessFlags := 0, nameIndex := 17, descriptorIndex := 14, attributes := #[] }, { accessFlags := 0, nameIndex := 24, descriptorIndex := 25, attributes := #[] }, { accessFlags := 0, nameIndex := 75, descriptorIndex := 21, attributes := #[] }, { accessFlags := 0, nameIndex := 81, descriptorIndex := 82, attributes := #[] }, { accessFlags := 26, nameIndex := 13, descriptorIndex := 14, attributes := #[] }])
  fields := #[{ name := "value", type := (.array .byte), accessFlags := 0, slot := 0, constantValue := 0 }, { name := "coder", type := .byte, accessFlags := 0, slot := 1, constantValue := 0 }, { name := "maybeLatin1", type := .boolean, accessFlags := 0, slot := 2, constantValue := 0 }, { name := "count", type := .int, accessFlags := 0, slot := 3, constantValue := 0 }, { name := "EMPTYVALUE", type := (.array .byte), accessFlags := 26, slot := 0, constantValue := 0 }]
  methods := #[k14m0, k14m1, k14m2, k14m3, k14m4, k14m5, k14m6, k14m7, k14m8, k14m9]
  instanceTypes := #[(.array .byte), .byte, .boolean, .int]
  staticTypes := #[(.array .byte)]
  resolved := Array.replicate 609 none
  statics := none }

def pool15 : Array CpInfo := pool [(1, .methodref 2 3), (0, .class_ 4), (0, .nameAndType 5 6), (0, u "java/lang/AbstractStringBuilder"), (0, u "<init>"), (0, u "(I)V"), (11, .class_ 20), (1, u "java/lang/String"), (3, .class_ 26), (1, u "java/lang/StringBuilder"), (0, u "append"), (0, u "(Ljava/lang/String;)Ljava/lang/StringBuilder;"), (0, .methodref 2 30), (0, .nameAndType 27 31), (0, u "(Ljava/lang/String;)Ljava/lang/AbstractStringBuilder;"), (105, .methodref 18 138), (0, .nameAndType 5 139), (0, u "(Ljava/lang/StringBuilder;)V"), (5, u "()V"), (10, u "()I"), (186, .methodref 2 344), (0, .nameAndType 345 156), (0, u "length"), (3, .class_ 350), (0, u "java/lang/Appendable"), (0, .class_ 352), (0, u "java/io/Serializable"), (0, .class_ 354), (0, u "java/lang/Comparable"), (0, .class_ 356), (0, u "java/lang/CharSequence"), (0, u "serialVersionUID"), (0, u "J"), (40, u "toString"), (0, u "()Ljava/lang/String;")] 21

def k15c0 : Code := { maxStack := 2, maxLocals := 1, code := jdk_67_method_1_code, exceptionTable := #[], attributes := #[] }
def k15m0 : Method := { name := "<init>", desc := "()V", sig := { parameters := [], returnType := none }, accessFlags := 1, code := some k15c0 }
def k15c1 : Code := { maxStack := 2, maxLocals := 2, code := jdk_67_method_7_code, exceptionTable := #[], attributes := #[] }
def k15m1 : Method := { name := "append", desc := "(Ljava/lang/String;)Ljava/lang/StringBuilder;", sig := { parameters := [(.object "java/lang/String")], returnType := some (.object "java/lang/StringBuilder") }, accessFlags := 1, code := some k15c1 }
def k15c2 : Code := { maxStack := 3, maxLocals := 1, code := jdk_67_method_42_code, exceptionTable := #[], attributes := #[] }
def k15m2 : Method := { name := "toString", desc := "()Ljava/lang/String;", sig := { parameters := [], returnType := some (.object "java/lang/String") }, accessFlags := 1, code := some k15c2 }
def k15c3 : Code := { maxStack := 1, maxLocals := 1, code := jdk_67_method_93_code, exceptionTable := #[], attributes := #[] }
def k15m3 : Method := { name := "length", desc := "()I", sig := { parameters := [], returnType := some .int }, accessFlags := 4161, code := some k15c3 }
/-- java/lang/StringBuilder -/
def k15 : Class := { plain "java/lang/StringBuilder" (some 14) with
  accessFlags := 49
  interfaces := #[13, 2, 3, 4]
  cf := some (fileOf pool15 24 #[] #[{ accessFlags := 1, nameIndex := 5, descriptorIndex := 145, attributes := #[] }, { accessFlags := 1, nameIndex := 27, descriptorIndex := 28, attributes := #[] }, { accessFlags := 1, nameIndex := 399, descriptorIndex := 400, attributes := #[] }, { accessFlags := 4161, nameIndex := 345, descriptorIndex := 156, attributes := #[] }] 49 2 #[349, 351, 353, 355] #[{ accessFlags := 24, nameIndex := 357, descriptorIndex := 358, attributes := #[] }])
  fields := #[{ name := "serialVersionUID", type := .long, accessFlags := 24, slot := 0, constantValue := 0 }]
  methods := #[k15m0, k15m1, k15m2, k15m3]
  instanceTypes := #[(.array .byte), .byte, .boolean, .int]
  staticTypes := #[.long]
  resolved := Array.replicate 422 none
  statics := none }

def pool16 : Array CpInfo := pool [(9, u "<init>"), (6, .class_ 18), (1, u "java/lang/Object"), (0, u "()V"), (1, .class_ 23), (1, u "jdk/internal/util/ArraysSupport"), (0, u "LOG2_ARRAY_LONG_INDEX_SCALE"), (0, u "I"), (2, u "U"), (0, u "Ljdk/internal/misc/Unsafe;"), (8, u "BIG_ENDIAN"), (0, u "Z"), (8, u "LOG2_BYTE_BIT_SIZE"), (4, u "LOG2_ARRAY_INT_INDEX_SCALE"), (54, u "JLA"), (0, u "Ljdk/internal/access/JavaLangAccess;"), (11, u "LOG2_ARRAY_BOOLEAN_INDEX_SCALE"), (9, u "LOG2_ARRAY_BYTE_INDEX_SCALE"), (5, u "LOG2_ARRAY_CHAR_INDEX_SCALE"), (5, u "LOG2_ARRAY_SHORT_INDEX_SCALE"), (18, u "LOG2_ARRAY_FLOAT_INDEX_SCALE"), (24, u "LOG2_ARRAY_DOUBLE_INDEX_SCALE"), (6, .methodref 195 196), (0, .class_ 197), (0, .nameAndType 198 199), (0, u "java/lang/Math"), (0, u "max"), (0, u "(II)I"), (0, .integer 2147483639), (76, u "T_BOOLEAN"), (2, u "T_CHAR"), (1, u "T_FLOAT"), (1, u "T_DOUBLE"), (1, u "T_BYTE"), (1, u "T_SHORT"), (1, u "T_INT"), (1, u "T_LONG"), (1, u "SOFT_MAX_ARRAY_LENGTH"), (56, u "newLength"), (0, u "(III)I")] 25

def k16m0 : Method := { name := "<init>", desc := "()V", sig := { parameters := [], returnType := none }, accessFlags := 2, code := none }
def k16c1 : Code := { maxStack := 3, maxLocals := 4, code := jdk_48_method_27_code, exceptionTable := #[], attributes := #[] }
def k16m1 : Method := { name := "newLength", desc := "(III)I", sig := { parameters := [.int, .int, .int], returnType := some .int }, accessFlags := 9, code := some k16c1 }
/-- jdk/internal/util/ArraysSupport -/
def k16 : Class := { plain "jdk/internal/util/ArraysSupport" (some 0) with
  accessFlags := 33
  interfaces := #[]
  cf := some (fileOf pool16 21 #[] #[{ accessFlags := 2, nameIndex := 9, descriptorIndex := 19, attributes := #[] }, { accessFlags := 9, nameIndex := 351, descriptorIndex := 352, attributes := #[] }] 33 16 #[] #[{ accessFlags := 24, nameIndex := 28, descriptorIndex := 29, attributes := #[] }, { accessFlags := 26, nameIndex := 38, descriptorIndex := 39, attributes := #[] }, { accessFlags := 25, nameIndex := 121, descriptorIndex := 25, attributes := #[] }, { accessFlags := 25, nameIndex := 131, descriptorIndex := 25, attributes := #[] }, { accessFlags := 25, nameIndex := 137, descriptorIndex := 25, attributes := #[] }, { accessFlags := 25, nameIndex := 143, descriptorIndex := 25, attributes := #[] }, { accessFlags := 25, nameIndex := 53, descriptorIndex := 25, attributes := #[] }, { accessFlags := 25, nameIndex := 24, descriptorIndex := 25, attributes := #[] }, { accessFlags := 25, nameIndex := 162, descriptorIndex := 25, attributes := #[] }, { accessFlags := 25, nameIndex := 187, descriptorIndex := 25, attributes := #[] }, { accessFlags := 26, nameIndex := 48, descriptorIndex := 25, attributes := #[] }, { accessFlags := 25, nameIndex := 277, descriptorIndex := 25, attributes := #[] }, { accessFlags := 25, nameIndex := 280, descriptorIndex := 25, attributes := #[] }, { accessFlags := 25, nameIndex := 282, descriptorIndex := 25, attributes := #[] }, { accessFlags := 25, nameIndex := 284, descriptorIndex := 25, attributes := #[] }, { accessFlags := 25, nameIndex := 286, descriptorIndex := 25, attributes := #[] }, { accessFlags := 25, nameIndex := 288, descriptorIndex := 25, attributes := #[] }, { accessFlags := 25, nameIndex := 290, descriptorIndex := 25, attributes := #[] }, { accessFlags := 25, nameIndex := 292, descriptorIndex := 25, attributes := #[] }, { accessFlags := 26, nameIndex := 108, descriptorIndex := 109, attributes := #[] }, { accessFlags := 25, nameIndex := 294, descriptorIndex := 25, attributes := #[] }])
  fields := #[{ name := "U", type := (.object "jdk/internal/misc/Unsafe"), accessFlags := 24, slot := 0, constantValue := 0 }, { name := "BIG_ENDIAN", type := .boolean, accessFlags := 26, slot := 1, constantValue := 0 }, { name := "LOG2_ARRAY_BOOLEAN_INDEX_SCALE", type := .int, accessFlags := 25, slot := 2, constantValue := 0 }, { name := "LOG2_ARRAY_BYTE_INDEX_SCALE", type := .int, accessFlags := 25, slot := 3, constantValue := 0 }, { name := "LOG2_ARRAY_CHAR_INDEX_SCALE", type := .int, accessFlags := 25, slot := 4, constantValue := 0 }, { name := "LOG2_ARRAY_SHORT_INDEX_SCALE", type := .int, accessFlags := 25, slot := 5, constantValue := 0 }, { name := "LOG2_ARRAY_INT_INDEX_SCALE", type := .int, accessFlags := 25, slot := 6, constantValue := 0 }, { name := "LOG2_ARRAY_LONG_INDEX_SCALE", type := .int, accessFlags := 25, slot := 7, constantValue := 0 }, { name := "LOG2_ARRAY_FLOAT_INDEX_SCALE", type := .int, accessFlags := 25, slot := 8, constantValue := 0 }, { name := "LOG2_ARRAY_DOUBLE_INDEX_SCALE", type := .int, accessFlags := 25, slot := 9, constantValue := 0 }, { name := "LOG2_BYTE_BIT_SIZE", type := .int, accessFlags := 26, slot := 10, constantValue := 0 }, { name := "T_BOOLEAN", type := .int, accessFlags := 25, slot := 11, constantValue := 0 }, { name := "T_CHAR", type := .int, accessFlags := 25, slot := 12, constantValue := 0 }, { name := "T_FLOAT", type := .int, accessFlags := 25, slot := 13, constantValue := 0 }, { name := "T_DOUBLE", type := .int, accessFlags := 25, slot := 14, constantValue := 0 }, { name := "T_BYTE", type := .int, accessFlags := 25, slot := 15, constantValue := 0 }, { name := "T_SHORT", type := .int, accessFlags := 25, slot := 16, constantValue := 0 }, { name := "T_INT", type := .int, accessFlags := 25, slot := 17, constantValue := 0 }, { name := "T_LONG", type := .int, accessFlags := 25, slot := 18, constantValue := 0 }, { name := "JLA", type := (.object "jdk/internal/access/JavaLangAccess"), accessFlags := 26, slot := 19, constantValue := 0 }, { name := "SOFT_MAX_ARRAY_LENGTH", type := .int, accessFlags := 25, slot := 20, constantValue := 0 }]
  methods := #[k16m0, k16m1]
  instanceTypes := #[]
  staticTypes := #[(.object "jdk/internal/misc/Unsafe"), .boolean, .int, .int, .int, .int, .int, .int, .int, .int, .int, .int, .int, .int, .int, .int, .int, .int, .int, (.object "jdk/internal/access/JavaLangAccess"), .int]
  resolved := Array.replicate 378 none
  statics := none }

def pool17 : Array CpInfo := pool [(1, .class_ 2), (0, u "java/lang/Math"), (1, .class_ 6), (1, u "java/lang/Object"), (0, u "<init>"), (0, u "()V"), (89, .class_ 100), (1, u "java/lang/Math$RandomNumberGeneratorHolder"), (71, u "negativeZeroFloatBits"), (0, u "J"), (2, u "negativeZeroDoubleBits"), (21, u "max"), (2, u "min"), (43, u "$assertionsDisabled"), (0, u "Z"), (88, u "(II)I"), (2, u "twoToTheDoubleScaleDown"), (0, u "D"), (4, u "twoToTheDoubleScaleUp"), (9, u "E"), (3, u "PI"), (2, u "TAU"), (2, u "DEGREES_TO_RADIANS"), (0, u "RADIANS_TO_DEGREES")] 94

def k17m0 : Method := { name := "<init>", desc := "()V", sig := { parameters := [], returnType := none }, accessFlags := 2, code := none }
def k17c1 : Code := { maxStack := 2, maxLocals := 2, code := jdk_29_method_65_code, exceptionTable := #[], attributes := #[] }
def k17m1 : Method := { name := "max", desc := "(II)I", sig := { parameters := [.int, .int], returnType := some .int }, accessFlags := 9, code := some k17c1 }
def k17c2 : Code := { maxStack := 2, maxLocals := 2, code := jdk_29_method_69_code, exceptionTable := #[], attributes := #[] }
def k17m2 : Method := { name := "min", desc := "(II)I", sig := { parameters := [.int, .int], returnType := some .int }, accessFlags := 9, code := some k17c2 }
/-- java/lang/Math -/
def k17 : Class := { plain "java/lang/Math" (some 0) with
  accessFlags := 49
  interfaces := #[]
  cf := some (fileOf pool17 1 #[.nestMembers #[98]] #[{ accessFlags := 2, nameIndex := 7, descriptorIndex := 8, attributes := #[] }, { accessFlags := 9, nameIndex := 198, descriptorIndex := 335, attributes := #[] }, { accessFlags := 9, nameIndex := 201, descriptorIndex := 335, attributes := #[] }] 49 4 #[] #[{ accessFlags := 25, nameIndex := 354, descriptorIndex := 339, attributes := #[] }, { accessFlags := 25, nameIndex := 358, descriptorIndex := 339, attributes := #[] }, { accessFlags := 25, nameIndex := 361, descriptorIndex := 339, attributes := #[] }, { accessFlags := 26, nameIndex := 364, descriptorIndex := 339, attributes := #[] }, { accessFlags := 26, nameIndex := 365, descriptorIndex := 339, attributes := #[] }, { accessFlags := 26, nameIndex := 172, descriptorIndex := 173, attributes := #[] }, { accessFlags := 26, nameIndex := 176, descriptorIndex := 173, attributes := #[] }, { accessFlags := 8, nameIndex := 344, descriptorIndex := 339, attributes := #[] }, { accessFlags := 8, nameIndex := 338, descriptorIndex := 339, attributes := #[] }, { accessFlags := 4120, nameIndex := 245, descriptorIndex := 246, attributes := #[] }])
  fields := #[{ name := "E", type := .double, accessFlags := 25, slot := 0, constantValue := 0 }, { name := "PI", type := .double, accessFlags := 25, slot := 1, constantValue := 0 }, { name := "TAU", type := .double, accessFlags := 25, slot := 2, constantValue := 0 }, { name := "DEGREES_TO_RADIANS", type := .double, accessFlags := 26, slot := 3, constantValue := 0 }, { name := "RADIANS_TO_DEGREES", type := .double, accessFlags := 26, slot := 4, constantValue := 0 }, { name := "negativeZeroFloatBits", type := .long, accessFlags := 26, slot := 5, constantValue := 0 }, { name := "negativeZeroDoubleBits", type := .long, accessFlags := 26, slot := 6, constantValue := 0 }, { name := "twoToTheDoubleScaleUp", type := .double, accessFlags := 8, slot := 7, constantValue := 0 }, { name := "twoToTheDoubleScaleDown", type := .double, accessFlags := 8, slot := 8, constantValue := 0 }, { name := "$assertionsDisabled", type := .boolean, accessFlags := 4120, slot := 9, constantValue := 0 }]
  methods := #[k17m0, k17m1, k17m2]
  instanceTypes := #[]
  staticTypes := #[.double, .double, .double, .double, .double, .long, .long, .double, .double, .boolean]
  resolved := Array.replicate 460 none
  statics := none }

def pool18 : Array CpInfo := pool [(2, .class_ 4), (1, u "java/lang/Object"), (0, u "<init>"), (0, u "()V"), (7, .class_ 16), (1, u "java/util/Arrays"), (57, .class_ 76), (1, u "java/util/Arrays$NaturalOrder"), (36, .class_ 115), (1, u "java/util/Arrays$LegacyMergeSort"), (1, u "Z"), (21, u "copyOfRange"), (10, .methodref 151 152), (0, .class_ 153), (0, .nameAndType 154 155), (0, u "java/lang/System"), (0, u "arraycopy"), (0, u "(Ljava/lang/Object;ILjava/lang/Object;II)V"), (146, u "copyOf"), (1, .methodref 305 306), (0, .class_ 307), (0, .nameAndType 308 309), (0, u "java/lang/Math"), (0, u "min"), (0, u "(II)I"), (29, .methodref 14 340), (0, .nameAndType 341 342), (0, u "copyOfRangeByte"), (0, u "([BII)[B"), (0, .methodref 14 344), (0, .nameAndType 345 346), (0, u "checkLength"), (0, u "(II)V"), (28, .class_ 376), (0, u "java/util/Arrays$ArrayList"), (68, u "$assertionsDisabled"), (269, u "MIN_ARRAY_SORT_GRAN"), (0, u "I"), (2, u "INSERTIONSORT_THRESHOLD"), (149, u "([BI)[B"), (105, .class_ 976), (0, u "java/util/Arrays$ArrayItr")] 52

def k18m0 : Method := { name := "<init>", desc := "()V", sig := { parameters := [], returnType := none }, accessFlags := 2, code := none }
def k18c1 : Code := { maxStack := 6, maxLocals := 3, code := jdk_65_method_121_code, exceptionTable := #[], attributes := #[] }
def k18m1 : Method := { name := "copyOf", desc := "([BI)[B", sig := { parameters := [(.array .byte), .int], returnType := some (.array .byte) }, accessFlags := 9, code := some k18c1 }
def k18c2 : Code := { maxStack := 4, maxLocals := 2, code := jdk_65_method_131_code, exceptionTable := #[], attributes := #[] }
def k18m2 : Method := { name := "checkLength", desc := "(II)V", sig := { parameters := [.int, .int], returnType := none }, accessFlags := 10, code := some k18c2 }
def k18c3 : Code := { maxStack := 3, maxLocals := 3, code := jdk_65_method_132_code, exceptionTable := #[], attributes := #[] }
def k18m3 : Method := { name := "copyOfRange", desc := "([BII)[B", sig := { parameters := [(.array .byte), .int, .int], returnType := some (.array .byte) }, accessFlags := 9, code := some k18c3 }
def k18c4 : Code := { maxStack := 6, maxLocals := 5, code := jdk_65_method_133_code, exceptionTable := #[], attributes := #[] }
def k18m4 : Method := { name := "copyOfRangeByte", desc := "([BII)[B", sig := { parameters := [(.array .byte), .int, .int], returnType := some (.array .byte) }, accessFlags := 10, code := some k18c4 }
/-- java/util/Arrays -/
def k18 : Class := { plain "java/util/Arrays" (some 0) with
  accessFlags := 49
  interfaces := #[]
  cf := some (fileOf pool18 14 #[.nestMembers #[975, 375, 113, 74]] #[{ accessFlags := 2, nameIndex := 5, descriptorIndex := 6, attributes := #[] }, { accessFlags := 9, nameIndex := 302, descriptorIndex := 869, attributes := #[] }, { accessFlags := 10, nameIndex := 345, descriptorIndex := 346, attributes := #[] }, { accessFlags := 9, nameIndex := 139, descriptorIndex := 342, attributes := #[] }, { accessFlags := 10, nameIndex := 341, descriptorIndex := 342, attributes := #[] }] 49 2 #[] #[{ accessFlags := 26, nameIndex := 715, descriptorIndex := 716, attributes := #[] }, { accessFlags := 26, nameIndex := 719, descriptorIndex := 716, attributes := #[] }, { accessFlags := 4120, nameIndex := 445, descriptorIndex := 117, attributes := #[] }])
  fields := #[{ name := "MIN_ARRAY_SORT_GRAN", type := .int, accessFlags := 26, slot := 0, constantValue := 0 }, { name := "INSERTIONSORT_THRESHOLD", type := .int, accessFlags := 26, slot := 1, constantValue := 0 }, { name := "$assertionsDisabled", type := .boolean, accessFlags := 4120, slot := 2, constantValue := 0 }]
  methods := #[k18m0, k18m1, k18m2, k18m3, k18m4]
  instanceTypes := #[]
  staticTypes := #[.int, .int, .boolean]
  resolved := Array.replicate 1029 none
  statics := none }

def pool19 : Array CpInfo := pool [(2, .class_ 4), (1, u "java/lang/Object"), (0, u "<init>"), (0, u "()V"), (1, .class_ 10), (1, u "java/lang/System"), (0, u "allowSecurityManager"), (0, u "I"), (16, u "cons"), (0, u "Ljava/io/Console;"), (77, .class_ 110), (1, u "java/lang/System$CallersHolder"), (43, u "initialErrStream"), (0, u "Ljava/io/PrintStream;"), (19, u "security"), (0, u "Ljava/lang/SecurityManager;"), (31, .class_ 209), (0, u "java/lang/System$1"), (7, u "props"), (0, u "Ljava/util/Properties;"), (2, u "lineSeparator"), (0, u "Ljava/lang/String;"), (96, .class_ 321), (1, u "java/lang/System$LoggerFinder"), (5, .class_ 328), (0, u "java/lang/System$Logger"), (67, u "err"), (2, u "out"), (91, u "notSupportedJnuEncoding"), (15, u "in"), (17, u "initialIn"), (0, u "Ljava/io/InputStream;"), (35, u "bootLayer"), (0, u "Ljava/lang/ModuleLayer;"), (99, .class_ 664), (0, u "java/lang/System$2"), (9, u "NEVER"), (2, u "MAYBE"), (49, u "arraycopy"), (0, u "(Ljava/lang/Object;ILjava/lang/Object;II)V"), (72, .class_ 802), (0, u "java/lang/System$Logger$Level")] 31

def k19m0 : Method := { name := "<init>", desc := "()V", sig := { parameters := [], returnType := none }, accessFlags := 2, code := none }
def k19m1 : Method := { name := "arraycopy", desc := "(Ljava/lang/Object;ILjava/lang/Object;II)V", sig := { parameters := [(.object "java/lang/Object"), .int, (.object "java/lang/Object"), .int, .int], returnType := none }, accessFlags := 265, code := none }
/-- java/lang/System -/
def k19 : Class := { plain "java/lang/System" (some 0) with
  accessFlags := 49
  interfaces := #[]
  cf := some (fileOf pool19 8 #[.nestMembers #[319, 327, 801, 108, 663, 208]] #[{ accessFlags := 2, nameIndex := 5, descriptorIndex := 6, attributes := #[] }, { accessFlags := 265, nameIndex := 727, descriptorIndex := 728, attributes := #[] }] 49 2 #[] #[{ accessFlags := 25, nameIndex := 507, descriptorIndex := 526, attributes := #[] }, { accessFlags := 25, nameIndex := 399, descriptorIndex := 155, attributes := #[] }, { accessFlags := 25, nameIndex := 396, descriptorIndex := 155, attributes := #[] }, { accessFlags := 10, nameIndex := 525, descriptorIndex := 526, attributes := #[] }, { accessFlags := 26, nameIndex := 674, descriptorIndex := 12, attributes := #[] }, { accessFlags := 26, nameIndex := 677, descriptorIndex := 12, attributes := #[] }, { accessFlags := 10, nameIndex := 11, descriptorIndex := 12, attributes := #[] }, { accessFlags := 74, nameIndex := 175, descriptorIndex := 176, attributes := #[] }, { accessFlags := 10, nameIndex := 491, descriptorIndex := 222, attributes := #[] }, { accessFlags := 74, nameIndex := 29, descriptorIndex := 30, attributes := #[] }, { accessFlags := 74, nameIndex := 154, descriptorIndex := 155, attributes := #[] }, { accessFlags := 10, nameIndex := 217, descriptorIndex := 218, attributes := #[] }, { accessFlags := 10, nameIndex := 221, descriptorIndex := 222, attributes := #[] }, { accessFlags := 8, nameIndex := 562, descriptorIndex := 563, attributes := #[] }])
  fields := #[{ name := "in", type := (.object "java/io/InputStream"), accessFlags := 25, slot := 0, constantValue := 0 }, { name := "out", type := (.object "java/io/PrintStream"), accessFlags := 25, slot := 1, constantValue := 0 }, { name := "err", type := (.object "java/io/PrintStream"), accessFlags := 25, slot := 2, constantValue := 0 }, { name := "initialIn", type := (.object "java/io/InputStream"), accessFlags := 10, slot := 3, constantValue := 0 }, { name := "NEVER", type := .int, accessFlags := 26, slot := 4, constantValue := 0 }, { name := "MAYBE", type := .int, accessFlags := 26, slot := 5, constantValue := 0 }, { name := "allowSecurityManager", type := .int, accessFlags := 10, slot := 6, constantValue := 0 }, { name := "security", type := (.object "java/lang/SecurityManager"), accessFlags := 74, slot := 7, constantValue := 0 }, { name := "notSupportedJnuEncoding", type := (.object "java/lang/String"), accessFlags := 10, slot := 8, constantValue := 0 }, { name := "cons", type := (.object "java/io/Console"), accessFlags := 74, slot := 9, constantValue := 0 }, { name := "initialErrStream", type := (.object "java/io/PrintStream"), accessFlags := 74, slot := 10, constantValue := 0 }, { name := "props", type := (.object "java/util/Properties"), accessFlags := 10, slot := 11, constantValue := 0 }, { name := "lineSeparator", type := (.object "java/lang/String"), accessFlags := 10, slot := 12, constantValue := 0 }, { name := "bootLayer", type := (.object "java/lang/ModuleLayer"), accessFlags := 8, slot := 13, constantValue := 0 }]
  methods := #[k19m0, k19m1]
  instanceTypes := #[]
  staticTypes := #[(.object "java/io/InputStream"), (.object "java/io/PrintStream"), (.object "java/io/PrintStream"), (.object "java/io/InputStream"), .int, .int, .int, (.object "java/lang/SecurityManager"), (.object "java/lang/String"), (.object "java/io/Console"), (.object "java/io/PrintStream"), (.object "java/util/Properties"), (.object "java/lang/String"), (.object "java/lang/ModuleLayer")]
  resolved := Array.replicate 834 none
  statics := none }

def pool20 : Array CpInfo := pool [(1, .class_ 2), (0, u "java/lang/String"), (1, .class_ 6), (1, u "java/lang/Object"), (0, u "<init>"), (0, u "()V"), (0, .methodref 1 10), (0, .nameAndType 11 12), (0, u "checkIndex"), (0, u "(II)V"), (1, .class_ 16), (1, u "java/lang/StringLatin1"), (36, u "([BI)C"), (67, u "$assertionsDisabled"), (0, u "Z"), (98, .class_ 223), (1, u "java/lang/StringLatin1$LinesSpliterator"), (28, u "charAt"), (28, u "equals"), (0, u "([B[B)Z"), (107, .class_ 391), (0, u "java/lang/StringLatin1$CharsSpliterator")] 3

def k20m0 : Method := { name := "<init>", desc := "()V", sig := { parameters := [], returnType := none }, accessFlags := 0, code := none }
def k20c1 : Code := { maxStack := 2, maxLocals := 2, code := jdk_43_method_2_code, exceptionTable := #[], attributes := #[] }
def k20m1 : Method := { name := "charAt", desc := "([BI)C", sig := { parameters := [(.array .byte), .int], returnType := some .char }, accessFlags := 9, code := some k20c1 }
def k20c2 : Code := { maxStack := 3, maxLocals := 3, code := jdk_43_method_13_code, exceptionTable := #[], attributes := #[] }
def k20m2 : Method := { name := "equals", desc := "([B[B)Z", sig := { parameters := [(.array .byte), (.array .byte)], returnType := some .boolean }, accessFlags := 9, code := some k20c2 }
/-- java/lang/StringLatin1 -/
def k20 : Class := { plain "java/lang/StringLatin1" (some 0) with
  accessFlags := 48
  interfaces := #[]
  cf := some (fileOf pool20 14 #[.nestMembers #[390, 221]] #[{ accessFlags := 0, nameIndex := 7, descriptorIndex := 8, attributes := #[] }, { accessFlags := 9, nameIndex := 252, descriptorIndex := 53, attributes := #[] }, { accessFlags := 9, nameIndex := 281, descriptorIndex := 282, attributes := #[] }] 48 4 #[] #[{ accessFlags := 4120, nameIndex := 121, descriptorIndex := 122, attributes := #[] }])
  fields := #[{ name := "$assertionsDisabled", type := .boolean, accessFlags := 4120, slot := 0, constantValue := 0 }]
  methods := #[k20m0, k20m1, k20m2]
  instanceTypes := #[]
  staticTypes := #[.boolean]
  resolved := Array.replicate 395 none
  statics := none }

def pool21 : Array CpInfo := pool [(2, .class_ 4), (1, u "java/lang/Object"), (0, u "<init>"), (0, u "()V"), (17, .class_ 26), (1, u "jdk/internal/util/Preconditions"), (6, u "checkIndex"), (21, .class_ 56), (0, u "jdk/internal/util/Preconditions$4"), (57, .class_ 115), (0, u "jdk/internal/util/Preconditions$1"), (7, u "SIOOBE_FORMATTER"), (0, u "Ljava/util/function/BiFunction;"), (0, .class_ 126), (0, u "jdk/internal/util/Preconditions$2"), (3, u "AIOOBE_FORMATTER"), (0, .class_ 132), (0, u "jdk/internal/util/Preconditions$3"), (3, u "IOOBE_FORMATTER"), (41, u "(IILjava/util/function/BiFunction;)I")] 15

def k21m0 : Method := { name := "<init>", desc := "()V", sig := { parameters := [], returnType := none }, accessFlags := 1, code := none }
def k21c1 : Code := { maxStack := 3, maxLocals := 3, code := jdk_41_method_11_code, exceptionTable := #[], attributes := #[] }
def k21m1 : Method := { name := "checkIndex", desc := "(IILjava/util/function/BiFunction;)I", sig := { parameters := [.int, .int, (.object "java/util/function/BiFunction")], returnType := some .int }, accessFlags := 9, code := some k21c1 }
/-- jdk/internal/util/Preconditions -/
def k21 : Class := { plain "jdk/internal/util/Preconditions" (some 0) with
  accessFlags := 33
  interfaces := #[]
  cf := some (fileOf pool21 24 #[.nestMembers #[55, 131, 125, 114]] #[{ accessFlags := 1, nameIndex := 5, descriptorIndex := 6, attributes := #[] }, { accessFlags := 9, nameIndex := 33, descriptorIndex := 178, attributes := #[] }] 33 2 #[] #[{ accessFlags := 25, nameIndex := 123, descriptorIndex := 124, attributes := #[] }, { accessFlags := 25, nameIndex := 130, descriptorIndex := 124, attributes := #[] }, { accessFlags := 25, nameIndex := 136, descriptorIndex := 124, attributes := #[] }])
  fields := #[{ name := "SIOOBE_FORMATTER", type := (.object "java/util/function/BiFunction"), accessFlags := 25, slot := 0, constantValue := 0 }, { name := "AIOOBE_FORMATTER", type := (.object "java/util/function/BiFunction"), accessFlags := 25, slot := 1, constantValue := 0 }, { name := "IOOBE_FORMATTER", type := (.object "java/util/function/BiFunction"), accessFlags := 25, slot := 2, constantValue := 0 }]
  methods := #[k21m0, k21m1]
  instanceTypes := #[]
  staticTypes := #[(.object "java/util/function/BiFunction"), (.object "java/util/function/BiFunction"), (.object "java/util/function/BiFunction")]
  resolved := Array.replicate 194 none
  statics := some 2 }

def pool22 : Array CpInfo := pool [(6, .class_ 8), (1, u "java/lang/Object"), (0, u "<init>"), (0, u "()V"), (1, .class_ 14), (1, u "java/lang/StringUTF16"), (31, u "$assertionsDisabled"), (0, u "Z"), (13, u "HI_BYTE_SHIFT"), (0, u "I"), (2, u "LO_BYTE_SHIFT"), (49, .methodref 12 116), (0, .nameAndType 117 118), (0, u "compress"), (0, u "([CI[BII)I"), (3, u "([CII)[B"), (138, u "coderFromArrayLen"), (0, u "([BI)B"), (106, .class_ 371), (1, u "java/lang/StringUTF16$LinesSpliterator"), (58, u "MAX_LENGTH"), (196, .class_ 628), (0, u "java/lang/StringUTF16$CodePointsSpliterator"), (0, .class_ 630), (0, u "java/lang/StringUTF16$CharsSpliterator")] 4

def k22m0 : Method := { name := "<init>", desc := "()V", sig := { parameters := [], returnType := none }, accessFlags := 0, code := none }
def k22c1 : Code := { maxStack := 2, maxLocals := 2, code := jdk_52_method_15_code, exceptionTable := #[], attributes := #[] }
def k22m1 : Method := { name := "coderFromArrayLen", desc := "([BI)B", sig := { parameters := [(.array .byte), .int], returnType := some .byte }, accessFlags := 8, code := some k22c1 }
def k22c2 : Code := { maxStack := 5, maxLocals := 6, code := jdk_52_method_16_code, exceptionTable := #[], attributes := #[] }
def k22m2 : Method := { name := "compress", desc := "([CII)[B", sig := { parameters := [(.array .char), .int, .int], returnType := some (.array .byte) }, accessFlags := 9, code := some k22c2 }
def k22c3 : Code := { maxStack := 3, maxLocals := 7, code := jdk_52_method_21_code, exceptionTable := #[], attributes := #[] }
def k22m3 : Method := { name := "compress", desc := "([CI[BII)I", sig := { parameters := [(.array .char), .int, (.array .byte), .int, .int], returnType := some .int }, accessFlags := 9, code := some k22c3 }
/-- java/lang/StringUTF16 -/
def k22 : Class := { plain "java/lang/StringUTF16" (some 0) with
  accessFlags := 48
  interfaces := #[]
  cf := some (fileOf pool22 12 #[.nestMembers #[627, 629, 369]] #[{ accessFlags := 0, nameIndex := 9, descriptorIndex := 10, attributes := #[] }, { accessFlags := 8, nameIndex := 261, descriptorIndex := 262, attributes := #[] }, { accessFlags := 9, nameIndex := 117, descriptorIndex := 122, attributes := #[] }, { accessFlags := 9, nameIndex := 117, descriptorIndex := 118, attributes := #[] }] 48 6 #[] #[{ accessFlags := 26, nameIndex := 61, descriptorIndex := 62, attributes := #[] }, { accessFlags := 26, nameIndex := 65, descriptorIndex := 62, attributes := #[] }, { accessFlags := 24, nameIndex := 430, descriptorIndex := 62, attributes := #[] }, { accessFlags := 4120, nameIndex := 46, descriptorIndex := 47, attributes := #[] }])
  fields := #[{ name := "HI_BYTE_SHIFT", type := .int, accessFlags := 26, slot := 0, constantValue := 0 }, { name := "LO_BYTE_SHIFT", type := .int, accessFlags := 26, slot := 1, constantValue := 0 }, { name := "MAX_LENGTH", type := .int, accessFlags := 24, slot := 2, constantValue := 0 }, { name := "$assertionsDisabled", type := .boolean, accessFlags := 4120, slot := 3, constantValue := 0 }]
  methods := #[k22m0, k22m1, k22m2, k22m3]
  instanceTypes := #[]
  staticTypes := #[.int, .int, .int, .boolean]
  resolved := Array.replicate 635 none
  statics := none }

def pool23 : Array CpInfo := pool [(2, .class_ 4), (1, u "java/lang/Object"), (0, u "<init>"), (0, u "()V"), (12, .class_ 20), (0, u "java/util/Collections"), (63, u "r"), (0, u "Ljava/util/Random;"), (80, .class_ 167), (0, u "java/util/Collections$UnmodifiableCollection"), (6, .class_ 175), (0, u "java/util/Collections$UnmodifiableSequencedCollection"), (6, .class_ 183), (0, u "java/util/Collections$UnmodifiableSet"), (6, .class_ 191), (0, u "java/util/Collections$UnmodifiableSequencedSet"), (6, .class_ 199), (0, u "java/util/Collections$UnmodifiableSortedSet"), (6, .class_ 207), (0, u "java/util/Collections$UnmodifiableNavigableSet"), (4, .class_ 213), (0, u "java/util/Collections$UnmodifiableList"), (1, .class_ 216), (0, u "java/util/Collections$UnmodifiableRandomAccessList"), (6, .class_ 224), (0, u "java/util/Collections$UnmodifiableMap"), (6, .class_ 232), (0, u "java/util/Collections$UnmodifiableSequencedMap"), (4, .class_ 238), (0, u "java/util/Collections$UnmodifiableSortedMap"), (6, .class_ 246), (0, u "java/util/Collections$UnmodifiableNavigableMap"), (3, .class_ 251), (0, u "java/util/Collections$SynchronizedCollection"), (4, .class_ 257), (0, u "java/util/Collections$SynchronizedSet"), (4, .class_ 263), (0, u "java/util/Collections$SynchronizedSortedSet"), (1, .class_ 266), (0, u "java/util/Collections$SynchronizedNavigableSet"), (1, .class_ 269), (0, u "java/util/Collections$SynchronizedRandomAccessList"), (1, .class_ 272), (0, u "java/util/Collections$SynchronizedList"), (5, .class_ 279), (0, u "java/util/Collections$SynchronizedMap"), (1, .class_ 282), (0, u "java/util/Collections$SynchronizedSortedMap"), (1, .class_ 285), (0, u "java/util/Collections$SynchronizedNavigableMap"), (1, .class_ 288), (0, u "java/util/Collections$CheckedCollection"), (11, .class_ 301), (0, u "java/util/Collections$CheckedQueue"), (3, .class_ 306), (0, u "java/util/Collections$CheckedSet"), (3, .class_ 311), (0, u "java/util/Collections$CheckedSortedSet"), (3, .class_ 316), (0, u "java/util/Collections$CheckedNavigableSet"), (3, .class_ 321), (0, u "java/util/Collections$CheckedRandomAccessList"), (3, .class_ 326), (0, u "java/util/Collections$CheckedList"), (1, .class_ 329), (0, u "java/util/Collections$CheckedMap"), (3, .class_ 334), (0, u "java/util/Collections$CheckedSortedMap"), (3, .class_ 339), (0, u "java/util/Collections$CheckedNavigableMap"), (4, .class_ 346), (1, u "java/util/Collections$EmptyIterator"), (3, .class_ 352), (1, u "java/util/Collections$EmptyListIterator"), (2, .class_ 357), (1, u "java/util/Collections$EmptyEnumeration"), (4, u "EMPTY_SET"), (0, u "Ljava/util/Set;"), (6, u "EMPTY_LIST"), (0, u "Ljava/util/List;"), (2, u "EMPTY_MAP"), (0, u "Ljava/util/Map;"), (4, .class_ 381), (0, u "java/util/Collections$SingletonSet"), (2, .class_ 385), (0, u "java/util/Collections$1"), (1, .class_ 388), (0, u "java/util/Collections$2"), (1, .class_ 391), (0, u "java/util/Collections$SingletonList"), (1, .class_ 394), (0, u "java/util/Collections$SingletonMap"), (22, .class_ 418), (0, u "java/util/Collections$CopiesList"), (4, .class_ 425), (1, u "java/util/Collections$ReverseComparator"), (8, .class_ 435), (0, u "java/util/Collections$ReverseComparator2"), (6, .class_ 443), (0, u "java/util/Collections$3"), (25, .class_ 470), (0, u "java/util/Collections$SetFromMap"), (2, .class_ 474), (0, u "java/util/Collections$SequencedSetFromMap"), (3, .class_ 479), (0, u "java/util/Collections$AsLIFOQueue"), (11, .class_ 492), (0, u "java/util/Collections$EmptySet"), (1, .class_ 495), (0, u "java/util/Collections$EmptyList"), (1, .class_ 498), (0, u "java/util/Collections$EmptyMap"), (1, u "BINARYSEARCH_THRESHOLD"), (0, u "I"), (2, u "REVERSE_THRESHOLD"), (1, u "SHUFFLE_THRESHOLD"), (1, u "FILL_THRESHOLD"), (1, u "ROTATE_THRESHOLD"), (1, u "COPY_THRESHOLD"), (1, u "REPLACEALL_THRESHOLD"), (1, u "INDEXOFSUBLIST_THRESHOLD"), (333, .class_ 851), (0, u "java/util/Collections$CheckedMap$CheckedEntrySet"), (0, .class_ 853), (0, u "java/util/Collections$CheckedMap$CheckedEntrySet$CheckedEntry"), (0, .class_ 855), (0, u "java/util/Collections$CheckedMap$CheckedEntrySet$1"), (0, .class_ 857), (0, u "java/util/Collections$CheckedList$1"), (0, .class_ 859), (0, u "java/util/Collections$CheckedCollection$1"), (0, .class_ 861), (0, u "java/util/Collections$UnmodifiableNavigableMap$EmptyNavigableMap"), (0, .class_ 863), (0, u "java/util/Collections$UnmodifiableMap$UnmodifiableEntrySet"), (0, .class_ 865), (0, u "java/util/Collections$UnmodifiableMap$UnmodifiableEntrySet$UnmodifiableEntry"), (0, .class_ 867), (0, u "java/util/Collections$UnmodifiableMap$UnmodifiableEntrySet$UnmodifiableEntrySetSpliterator"), (0, .class_ 869), (0, u "java/util/Collections$UnmodifiableMap$UnmodifiableEntrySet$1"), (0, .class_ 871), (0, u "java/util/Collections$UnmodifiableList$1"), (0, .class_ 873), (0, u "java/util/Collections$UnmodifiableNavigableSet$EmptyNavigableSet"), (0, .class_ 875), (0, u "java/util/Collections$UnmodifiableCollection$1")] 57

def k23m0 : Method := { name := "<init>", desc := "()V", sig := { parameters := [], returnType := none }, accessFlags := 2, code := none }
/-- java/util/Collections -/
def k23 : Class := { plain "java/util/Collections" (some 0) with
  accessFlags := 33
  interfaces := #[]
  cf := some (fileOf pool23 19 #[.nestMembers #[478, 473, 469, 434, 423, 417, 393, 390, 380, 497, 494, 491, 355, 350, 344, 338, 333, 328, 850, 852, 854, 320, 325, 856, 315, 310, 305, 300, 287, 858, 284, 281, 278, 268, 271, 265, 262, 256, 250, 245, 860, 237, 231, 223, 862, 864, 866, 868, 215, 212, 870, 206, 872, 198, 190, 182, 174, 166, 874, 442, 387, 384]] #[{ accessFlags := 2, nameIndex := 5, descriptorIndex := 6, attributes := #[] }] 33 2 #[] #[{ accessFlags := 26, nameIndex := 500, descriptorIndex := 501, attributes := #[] }, { accessFlags := 26, nameIndex := 504, descriptorIndex := 501, attributes := #[] }, { accessFlags := 26, nameIndex := 506, descriptorIndex := 501, attributes := #[] }, { accessFlags := 26, nameIndex := 508, descriptorIndex := 501, attributes := #[] }, { accessFlags := 26, nameIndex := 510, descriptorIndex := 501, attributes := #[] }, { accessFlags := 26, nameIndex := 512, descriptorIndex := 501, attributes := #[] }, { accessFlags := 26, nameIndex := 514, descriptorIndex := 501, attributes := #[] }, { accessFlags := 26, nameIndex := 516, descriptorIndex := 501, attributes := #[] }, { accessFlags := 10, nameIndex := 84, descriptorIndex := 85, attributes := #[] }, { accessFlags := 25, nameIndex := 362, descriptorIndex := 363, attributes := #[] }, { accessFlags := 25, nameIndex := 370, descriptorIndex := 371, attributes := #[] }, { accessFlags := 25, nameIndex := 374, descriptorIndex := 375, attributes := #[] }])
  fields := #[{ name := "BINARYSEARCH_THRESHOLD", type := .int, accessFlags := 26, slot := 0, constantValue := 0 }, { name := "REVERSE_THRESHOLD", type := .int, accessFlags := 26, slot := 1, constantValue := 0 }, { name := "SHUFFLE_THRESHOLD", type := .int, accessFlags := 26, slot := 2, constantValue := 0 }, { name := "FILL_THRESHOLD", type := .int, accessFlags := 26, slot := 3, constantValue := 0 }, { name := "ROTATE_THRESHOLD", type := .int, accessFlags := 26, slot := 4, constantValue := 0 }, { name := "COPY_THRESHOLD", type := .int, accessFlags := 26, slot := 5, constantValue := 0 }, { name := "REPLACEALL_THRESHOLD", type := .int, accessFlags := 26, slot := 6, constantValue := 0 }, { name := "INDEXOFSUBLIST_THRESHOLD", type := .int, accessFlags := 26, slot := 7, constantValue := 0 }, { name := "r", type := (.object "java/util/Random"), accessFlags := 10, slot := 8, constantValue := 0 }, { name := "EMPTY_SET", type := (.object "java/util/Set"), accessFlags := 25, slot := 9, constantValue := 0 }, { name := "EMPTY_LIST", type := (.object "java/util/List"), accessFlags := 25, slot := 10, constantValue := 0 }, { name := "EMPTY_MAP", type := (.object "java/util/Map"), accessFlags := 25, slot := 11, constantValue := 0 }]
  methods := #[k23m0]
  instanceTypes := #[]
  staticTypes := #[.int, .int, .int, .int, .int, .int, .int, .int, (.object "java/util/Random"), (.object "java/util/Set"), (.object "java/util/List"), (.object "java/util/Map")]
  resolved := Array.replicate 933 none
  statics := some 3 }

def pool24 : Array CpInfo := pool [(8, .class_ 10), (1, u "java/lang/Iterable"), (24, .class_ 36), (0, u "java/lang/Object")] 25

/-- java/lang/Iterable -/
def k24 : Class := { plain "java/lang/Iterable" (some 0) with
  accessFlags := 1537
  interfaces := #[]
  cf := some (fileOf pool24 8 #[] #[] 1537 35 #[] #[])
  fields := #[]
  methods := #[]
  instanceTypes := #[]
  staticTypes := #[]
  resolved := Array.replicate 62 none
  statics := none }

def pool25 : Array CpInfo := pool [(10, .class_ 12), (1, u "java/util/Collection"), (47, .class_ 61), (0, u "java/lang/Object"), (0, .class_ 63), (0, u "java/lang/Iterable")] 51

/-- java/util/Collection -/
def k25 : Class := { plain "java/util/Collection" (some 0) with
  accessFlags := 1537
  interfaces := #[24]
  cf := some (fileOf pool25 10 #[] #[] 1537 60 #[62] #[])
  fields := #[]
  methods := #[]
  instanceTypes := #[]
  staticTypes := #[]
  resolved := Array.replicate 115 none
  statics := none }

def pool26 : Array CpInfo := pool [(2, .class_ 4), (1, u "java/lang/Object"), (0, u "<init>"), (0, u "()V"), (1, .class_ 10), (1, u "java/util/AbstractCollection"), (66, .class_ 78), (0, u "java/util/Collection")] 81

def k26m0 : Method := { name := "<init>", desc := "()V", sig := { parameters := [], returnType := none }, accessFlags := 4, code := none }
/-- java/util/AbstractCollection -/
def k26 : Class := { plain "java/util/AbstractCollection" (some 0) with
  accessFlags := 1057
  interfaces := #[25]
  cf := some (fileOf pool26 8 #[] #[{ accessFlags := 4, nameIndex := 5, descriptorIndex := 6, attributes := #[] }] 1057 2 #[77] #[])
  fields := #[]
  methods := #[k26m0]
  instanceTypes := #[]
  staticTypes := #[]
  resolved := Array.replicate 160 none
  statics := none }

def pool27 : Array CpInfo := pool [(8, .class_ 10), (1, u "java/util/SequencedCollection"), (15, .class_ 27), (0, u "java/lang/Object"), (0, .class_ 29), (0, u "java/util/Collection")] 27

/-- java/util/SequencedCollection -/
def k27 : Class := { plain "java/util/SequencedCollection" (some 0) with
  accessFlags := 1537
  interfaces := #[25]
  cf := some (fileOf pool27 8 #[] #[] 1537 26 #[28] #[])
  fields := #[]
  methods := #[]
  instanceTypes := #[]
  staticTypes := #[]
  resolved := Array.replicate 57 none
  statics := none }

def pool28 : Array CpInfo := pool [(8, .class_ 10), (1, u "java/util/List"), (92, .class_ 104), (0, u "java/lang/Object"), (15, .class_ 121), (0, u "java/util/SequencedCollection")] 129

/-- java/util/List -/
def k28 : Class := { plain "java/util/List" (some 0) with
  accessFlags := 1537
  interfaces := #[27]
  cf := some (fileOf pool28 8 #[] #[] 1537 103 #[120] #[])
  fields := #[]
  methods := #[]
  instanceTypes := #[]
  staticTypes := #[]
  resolved := Array.replicate 251 none
  statics := none }

def pool29 : Array CpInfo := pool [(2, .class_ 4), (1, u "java/util/AbstractCollection"), (0, u "<init>"), (0, u "()V"), (1, .class_ 10), (1, u "java/util/AbstractList"), (0, u "modCount"), (0, u "I"), (64, .class_ 78), (0, u "java/util/AbstractList$Itr"), (3, .class_ 83), (0, u "java/util/AbstractList$ListItr"), (9, .class_ 94), (0, u "java/util/AbstractList$RandomAccessSubList"), (3, .class_ 99), (0, u "java/util/AbstractList$SubList"), (33, .class_ 134), (0, u "java/util/List"), (73, .class_ 209), (0, u "java/util/AbstractList$SubList$1"), (0, .class_ 211), (0, u "java/util/AbstractList$RandomAccessSpliterator")] 6

def k29m0 : Method := { name := "<init>", desc := "()V", sig := { parameters := [], returnType := none }, accessFlags := 4, code := none }
/-- java/util/AbstractList -/
def k29 : Class := { plain "java/util/AbstractList" (some 26) with
  accessFlags := 1057
  interfaces := #[28]
  cf := some (fileOf pool29 8 #[.nestMembers #[93, 98, 208, 210, 82, 77]] #[{ accessFlags := 4, nameIndex := 5, descriptorIndex := 6, attributes := #[] }] 1057 2 #[133] #[{ accessFlags := 132, nameIndex := 11, descriptorIndex := 12, attributes := #[] }])
  fields := #[{ name := "modCount", type := .int, accessFlags := 132, slot := 0, constantValue := 0 }]
  methods := #[k29m0]
  instanceTypes := #[.int]
  staticTypes := #[]
  resolved := Array.replicate 218 none
  statics := none }

def pool30 : Array CpInfo := pool [(1, .class_ 2), (0, u "java/util/RandomAccess"), (0, .class_ 4), (0, u "java/lang/Object")] 2

/-- java/util/RandomAccess -/
def k30 : Class := { plain "java/util/RandomAccess" (some 0) with
  accessFlags := 1537
  interfaces := #[]
  cf := some (fileOf pool30 1 #[] #[] 1537 3 #[] #[])
  fields := #[]
  methods := #[]
  instanceTypes := #[]
  staticTypes := #[]
  resolved := Array.replicate 7 none
  statics := none }

def pool31 : Array CpInfo := pool [(2, .class_ 4), (1, u "java/util/AbstractList"), (0, u "<init>"), (0, u "()V"), (1, .class_ 10), (1, u "java/util/Collections"), (54, .class_ 66), (0, u "java/util/Collections$EmptyList"), (0, .class_ 68), (0, u "java/util/RandomAccess"), (0, .class_ 70), (0, u "java/io/Serializable"), (0, u "serialVersionUID"), (0, u "J")] 77

def k31m0 : Method := { name := "<init>", desc := "()V", sig := { parameters := [], returnType := none }, accessFlags := 2, code := none }
/-- java/util/Collections$EmptyList -/
def k31 : Class := { plain "java/util/Collections$EmptyList" (some 29) with
  accessFlags := 32
  interfaces := #[30, 2]
  cf := some (fileOf pool31 65 #[.nestHost 8] #[{ accessFlags := 2, nameIndex := 5, descriptorIndex := 6, attributes := #[] }] 32 2 #[67, 69] #[{ accessFlags := 26, nameIndex := 71, descriptorIndex := 72, attributes := #[] }])
  fields := #[{ name := "serialVersionUID", type := .long, accessFlags := 26, slot := 0, constantValue := 0 }]
  methods := #[k31m0]
  instanceTypes := #[.int]
  staticTypes := #[.long]
  resolved := Array.replicate 150 none
  statics := none }

def pool32 : Array CpInfo := pool [(2, .class_ 4), (1, u "java/lang/StackTraceElement"), (0, u "<init>"), (2, .class_ 10), (1, u "java/lang/Object"), (0, u "()V"), (2, u "format"), (0, u "B"), (2, u "classLoaderName"), (0, u "Ljava/lang/String;"), (2, u "moduleName"), (2, u "moduleVersion"), (12, u "declaringClass"), (4, u "methodName"), (2, u "fileName"), (2, u "lineNumber"), (0, u "I"), (65, u "declaringClassObject"), (0, u "Ljava/lang/Class;"), (33, .class_ 153), (1, u "java/lang/StackTraceElement$HashedModules"), (17, .class_ 172), (0, u "java/io/Serializable"), (0, u "NATIVE_METHOD"), (1, u "UNKNOWN_SOURCE"), (2, u "BUILTIN_CLASS_LOADER"), (1, u "JDK_NON_UPGRADEABLE_MODULE"), (1, u "serialVersionUID"), (0, u "J")] 51

def k32m0 : Method := { name := "<init>", desc := "()V", sig := { parameters := [], returnType := none }, accessFlags := 2, code := none }
/-- java/lang/StackTraceElement -/
def k32 : Class := { plain "java/lang/StackTraceElement" (some 0) with
  accessFlags := 49
  interfaces := #[2]
  cf := some (fileOf pool32 2 #[.nestMembers #[151]] #[{ accessFlags := 2, nameIndex := 5, descriptorIndex := 11, attributes := #[] }] 49 8 #[171] #[{ accessFlags := 26, nameIndex := 173, descriptorIndex := 19, attributes := #[] }, { accessFlags := 26, nameIndex := 175, descriptorIndex := 19, attributes := #[] }, { accessFlags := 130, nameIndex := 116, descriptorIndex := 117, attributes := #[] }, { accessFlags := 2, nameIndex := 18, descriptorIndex := 19, attributes := #[] }, { accessFlags := 2, nameIndex := 22, descriptorIndex := 19, attributes := #[] }, { accessFlags := 2, nameIndex := 25, descriptorIndex := 19, attributes := #[] }, { accessFlags := 2, nameIndex := 38, descriptorIndex := 19, attributes := #[] }, { accessFlags := 2, nameIndex := 43, descriptorIndex := 19, attributes := #[] }, { accessFlags := 2, nameIndex := 46, descriptorIndex := 19, attributes := #[] }, { accessFlags := 2, nameIndex := 49, descriptorIndex := 50, attributes := #[] }, { accessFlags := 2, nameIndex := 14, descriptorIndex := 15, attributes := #[] }, { accessFlags := 26, nameIndex := 178, descriptorIndex := 15, attributes := #[] }, { accessFlags := 26, nameIndex := 180, descriptorIndex := 15, attributes := #[] }, { accessFlags := 26, nameIndex := 182, descriptorIndex := 183, attributes := #[] }])
  fields := #[{ name := "NATIVE_METHOD", type := (.object "java/lang/String"), accessFlags := 26, slot := 0, constantValue := 0 }, { name := "UNKNOWN_SOURCE", type := (.object "java/lang/String"), accessFlags := 26, slot := 1, constantValue := 0 }, { name := "declaringClassObject", type := (.object "java/lang/Class"), accessFlags := 130, slot := 0, constantValue := 0 }, { name := "classLoaderName", type := (.object "java/lang/String"), accessFlags := 2, slot := 1, constantValue := 0 }, { name := "moduleName", type := (.object "java/lang/String"), accessFlags := 2, slot := 2, constantValue := 0 }, { name := "moduleVersion", type := (.object "java/lang/String"), accessFlags := 2, slot := 3, constantValue := 0 }, { name := "declaringClass", type := (.object "java/lang/String"), accessFlags := 2, slot := 4, constantValue := 0 }, { name := "methodName", type := (.object "java/lang/String"), accessFlags := 2, slot := 5, constantValue := 0 }, { name := "fileName", type := (.object "java/lang/String"), accessFlags := 2, slot := 6, constantValue := 0 }, { name := "lineNumber", type := .int, accessFlags := 2, slot := 7, constantValue := 0 }, { name := "format", type := .byte, accessFlags := 2, slot := 8, constantValue := 0 }, { name := "BUILTIN_CLASS_LOADER", type := .byte, accessFlags := 26, slot := 2, constantValue := 0 }, { name := "JDK_NON_UPGRADEABLE_MODULE", type := .byte, accessFlags := 26, slot := 3, constantValue := 0 }, { name := "serialVersionUID", type := .long, accessFlags := 26, slot := 4, constantValue := 0 }]
  methods := #[k32m0]
  instanceTypes := #[(.object "java/lang/Class"), (.object "java/lang/String"), (.object "java/lang/String"), (.object "java/lang/String"), (.object "java/lang/String"), (.object "java/lang/String"), (.object "java/lang/String"), .int, .byte]
  staticTypes := #[(.object "java/lang/String"), (.object "java/lang/String"), .byte, .byte, .long]
  resolved := Array.replicate 235 none
  statics := none }

def pool33 : Array CpInfo := pool [(1, u "java/lang/Cloneable"), (0, .class_ 1), (0, u "java/lang/Object"), (0, .class_ 3)] 3

/-- java/lang/Cloneable -/
def k33 : Class := { plain "java/lang/Cloneable" (some 0) with
  accessFlags := 1537
  interfaces := #[]
  cf := some (fileOf pool33 2 #[] #[] 1537 4 #[] #[])
  fields := #[]
  methods := #[]
  instanceTypes := #[]
  staticTypes := #[]
  resolved := Array.replicate 8 none
  statics := none }

/-- the primitive byte -/
def k34 : Class := { plain "byte" none with kind := .primitive 'B', accessFlags := 0x411 }
/-- [B -/
def k35 : Class := { plain "[B" (some 0) with kind := .array 34 .byte, interfaces := #[33, 2], accessFlags := 1041 }

/-- the primitive char -/
def k36 : Class := { plain "char" none with kind := .primitive 'C', accessFlags := 0x411 }
/-- [C -/
def k37 : Class := { plain "[C" (some 0) with kind := .array 36 .char, interfaces := #[33, 2], accessFlags := 1041 }

/-- the primitive int -/
def k38 : Class := { plain "int" none with kind := .primitive 'I', accessFlags := 0x411 }
/-- [I -/
def k39 : Class := { plain "[I" (some 0) with kind := .array 38 .int, interfaces := #[33, 2], accessFlags := 1041 }

/-- [Ljava/lang/Object; -/
def k40 : Class := { plain "[Ljava/lang/Object;" (some 0) with kind := .array 0 (.object "java/lang/Object"), interfaces := #[33, 2], accessFlags := 1041 }

/-- [Ljava/lang/StackTraceElement; -/
def k41 : Class := { plain "[Ljava/lang/StackTraceElement;" (some 0) with kind := .array 32 (.object "java/lang/StackTraceElement"), interfaces := #[33, 2], accessFlags := 1041 }

/-- [Ljava/lang/Throwable; -/
def k42 : Class := { plain "[Ljava/lang/Throwable;" (some 0) with kind := .array 8 (.object "java/lang/Throwable"), interfaces := #[33, 2], accessFlags := 1041 }

def heap : Heap := #[{ cls := 7, slots := #[.long 0, .int 1, .null, .int 0, .null, .int 0, .int 0], vm := .statics 7 },
  { cls := 8, slots := #[.long 0, .ref 4, .ref 5, .null, .null, .null, .null, .ref 6, .int 1], vm := .statics 8 },
  { cls := 21, slots := #[.null, .null, .null], vm := .statics 21 },
  { cls := 23, slots := #[.int 0, .int 0, .int 0, .int 0, .int 0, .int 0, .int 0, .int 0, .null, .null, .ref 5, .null], vm := .statics 23 },
  { cls := 41, slots := #[], vm := .none },
  { cls := 31, slots := #[.int 0], vm := .none },
  { cls := 42, slots := #[], vm := .none }]
def classes : Array Class := #[k0, k1, k2, k3, k4, k5, k6, k7, k8, k9, k10, k11, k12, k13, k14, k15, k16, k17, k18, k19, k20, k21, k22, k23, k24, k25, k26, k27, k28, k29, k30, k31, k32, k33, k34, k35, k36, k37, k38, k39, k40, k41, k42]
def interned : List (Array UInt16 × Addr) := []
def slotsUsed : Nat := 32
def theMethod : MethodId := ⟨1, 3⟩
def args0 : Array Value := #[.int 5, .int 5, .int 5, .int 5, .int 5]
def aboutOver (below : List Frame) : State where
  vm := { classes := classes, interned := interned.toArray }
  heap := heap
  slotsUsed := slotsUsed
  threads := #[{ frames := .invoking theMethod args0 :: below }]
def below0 : List Frame := [.native { method := ⟨0, 0⟩, args := #[] }]
def about1 : State := aboutOver below0
def p0 : Program := .bare "" "" ""
def e0 : Env := launch0.env 0 0 0
theorem w_frames : about1.frames = Frame.invoking theMethod args0 :: below0 := rfl
set_option maxRecDepth 65536 in
theorem w_args : argsFit about1.vm theMethod args0 = true := by decide +kernel
set_option maxRecDepth 65536 in
theorem w_heap : heapFits about1 = true := by decide +kernel
set_option maxRecDepth 65536 in
theorem w_runnable : about1.curStatus? = some .runnable := by decide +kernel
set_option maxRecDepth 65536 in
theorem w_alone : about1.alone = true := by decide +kernel
set_option maxRecDepth 65536 in
theorem w_named : about1.methodNamed? x = some theMethod := by decide +kernel
set_option maxRecDepth 65536 in
theorem w_hears : about1.hears theMethod below0 = true := by decide +kernel
set_option maxRecDepth 65536 in
theorem w_ripe : about1.ripe theMethod args0 below0 = true := by decide +kernel
theorem w_running : about1.status = .running := rfl
set_option maxRecDepth 65536 in
theorem w_room : about1.hasRoom e0.platform room_1 = true :=
  launch0.hasRoom_least _ room_1 (by decide +kernel) (by decide +kernel) (by decide +kernel) (by decide +kernel) (by decide +kernel) (by decide +kernel)
theorem allAtoms_all (ts : List Jvm.Cond) (a : Array Jvm.Value) (st : Jvm.State) : (allAtoms ts).before a st = ts.all (fun c => c.before a st) := by
  induction ts with
  | nil => rfl
  | cons c t ih =>
    show (Jvm.Cond.and c (allAtoms t)).before a st = _
    rw [Jvm.Cond.before_and, ih, List.all_cons]
def words1 : List Jvm.Cond := Jvm.Cond.code x code maxLocals ret :: tables_1
/-- a 'code' word, met by the world's own term for the bytes: nothing is compared byte by byte -/
theorem code_word {y : MethodName} {bytes : ByteArray} {mx : Nat} {rt : Option FieldType} {a : Array Value} {s : State} {m : MethodId} {meth : Method} {c : Code} (h1 : s.methodNamed? y = some m) (h2 : s.vm.method? m = some meth) (h3 : meth.code = some c) (h4 : c.code = bytes)
    (h5 : (c.maxLocals == mx && c.exceptionTable.isEmpty && decide (c.maxStack ≤ mostOperands) && decide (meth.sig.returnType = rt) && !meth.locks && decide (parseMethodDescriptor y.desc = some meth.sig)) = true) : (Jvm.Cond.code y bytes mx rt).before a s = true := by
  simp only [Bool.and_eq_true, beq_iff_eq, Bool.not_eq_true', decide_eq_true_eq] at h5
  obtain ⟨⟨⟨⟨⟨g1, g2⟩, g3⟩, g4⟩, g5⟩, g6⟩ := h5
  simp [Cond.before, Cond.holds, Cond.value, h1, h2, h3, h4, g1, g2, g3, g4, g5, g6]
def isCode : Jvm.Cond → Bool
  | .code _ _ _ _ => true
  | _ => false
theorem all_split {L : List Jvm.Cond} {P : Jvm.Cond → Bool} (h1 : L.all (fun c => isCode c || P c) = true) (h2 : ∀ c ∈ L.filter isCode, P c = true) : L.all P = true := by
  refine List.all_eq_true.mpr fun c hc => ?_
  have h := List.all_eq_true.mp h1 c hc
  rcases Bool.eq_false_or_eq_true (isCode c) with hi | hi
  · exact h2 c (List.mem_filter.mpr ⟨hc, hi⟩)
  · simpa [hi] using h
set_option maxRecDepth 65536 in
theorem w_c0 : (Jvm.Cond.code x code maxLocals ret).before args0 about1 = true := code_word (m := ⟨1, 3⟩) (meth := k1m3) (c := k1c3) (by decide +kernel) rfl rfl rfl (by decide +kernel)
set_option maxRecDepth 65536 in
theorem w_c1 : (Jvm.Cond.code ({ cls := "com/example/capsa/capsa/BeanNameInUseExceptionAliasPinLaw", name := "str", desc := "(ICC)Ljava/lang/String;" } : Jvm.MethodName) method_2_code (3 : Nat) (Option.some (Jvm.ClassFile.FieldType.object "java/lang/String"))).before args0 about1 = true := code_word (m := ⟨1, 1⟩) (meth := k1m1) (c := k1c1) (by decide +kernel) rfl rfl rfl (by decide +kernel)
set_option maxRecDepth 65536 in
theorem w_c2 : (Jvm.Cond.code ({ cls := "java/lang/String", name := "<init>", desc := "([C)V" } : Jvm.MethodName) jdk_42_method_3_code (2 : Nat) (Option.none : Option Jvm.ClassFile.FieldType)).before args0 about1 = true := code_word (m := ⟨7, 1⟩) (meth := k7m1) (c := k7c1) (by decide +kernel) rfl rfl rfl (by decide +kernel)
set_option maxRecDepth 65536 in
theorem w_c3 : (Jvm.Cond.code ({ cls := "java/lang/String", name := "<init>", desc := "([CIILjava/lang/Void;)V" } : Jvm.MethodName) jdk_42_method_149_code (6 : Nat) (Option.none : Option Jvm.ClassFile.FieldType)).before args0 about1 = true := code_word (m := ⟨7, 7⟩) (meth := k7m7) (c := k7c7) (by decide +kernel) rfl rfl rfl (by decide +kernel)
set_option maxRecDepth 65536 in
theorem w_c4 : (Jvm.Cond.code ({ cls := "java/lang/Object", name := "<init>", desc := "()V" } : Jvm.MethodName) object_method_1_code (1 : Nat) (Option.none : Option Jvm.ClassFile.FieldType)).before args0 about1 = true := code_word (m := ⟨0, 0⟩) (meth := k0m0) (c := k0c0) (by decide +kernel) rfl rfl rfl (by decide +kernel)
set_option maxRecDepth 65536 in
theorem w_c5 : (Jvm.Cond.code ({ cls := "com/example/capsa/capsa/BeanNameInUseException", name := "alias", desc := "(Ljava/lang/String;Ljava/lang/String;)Lcom/example/capsa/capsa/BeanNameInUseException;" } : Jvm.MethodName) prog_2_method_3_code (2 : Nat) (Option.some (Jvm.ClassFile.FieldType.object "com/example/capsa/capsa/BeanNameInUseException"))).before args0 about1 = true := code_word (m := ⟨12, 1⟩) (meth := k12m1) (c := k12c1) (by decide +kernel) rfl rfl rfl (by decide +kernel)
set_option maxRecDepth 65536 in
theorem w_c6 : (Jvm.Cond.code ({ cls := "java/lang/StringBuilder", name := "<init>", desc := "()V" } : Jvm.MethodName) jdk_67_method_1_code (1 : Nat) (Option.none : Option Jvm.ClassFile.FieldType)).before args0 about1 = true := code_word (m := ⟨15, 0⟩) (meth := k15m0) (c := k15c0) (by decide +kernel) rfl rfl rfl (by decide +kernel)
set_option maxRecDepth 65536 in
theorem w_c7 : (Jvm.Cond.code ({ cls := "java/lang/AbstractStringBuilder", name := "<init>", desc := "(I)V" } : Jvm.MethodName) jdk_68_method_2_code (2 : Nat) (Option.none : Option Jvm.ClassFile.FieldType)).before args0 about1 = true := code_word (m := ⟨14, 1⟩) (meth := k14m1) (c := k14c1) (by decide +kernel) rfl rfl rfl (by decide +kernel)
set_option maxRecDepth 65536 in
theorem w_c8 : (Jvm.Cond.code ({ cls := "java/lang/StringBuilder", name := "append", desc := "(Ljava/lang/String;)Ljava/lang/StringBuilder;" } : Jvm.MethodName) jdk_67_method_7_code (2 : Nat) (Option.some (Jvm.ClassFile.FieldType.object "java/lang/StringBuilder"))).before args0 about1 = true := code_word (m := ⟨15, 1⟩) (meth := k15m1) (c := k15c1) (by decide +kernel) rfl rfl rfl (by decide +kernel)
set_option maxRecDepth 65536 in
theorem w_c9 : (Jvm.Cond.code ({ cls := "java/lang/AbstractStringBuilder", name := "append", desc := "(Ljava/lang/String;)Ljava/lang/AbstractStringBuilder;" } : Jvm.MethodName) jdk_68_method_22_code (3 : Nat) (Option.some (Jvm.ClassFile.FieldType.object "java/lang/AbstractStringBuilder"))).before args0 about1 = true := code_word (m := ⟨14, 5⟩) (meth := k14m5) (c := k14c5) (by decide +kernel) rfl rfl rfl (by decide +kernel)
set_option maxRecDepth 65536 in
theorem w_c10 : (Jvm.Cond.code ({ cls := "java/lang/String", name := "length", desc := "()I" } : Jvm.MethodName) jdk_42_method_54_code (1 : Nat) (Option.some Jvm.ClassFile.FieldType.int)).before args0 about1 = true := code_word (m := ⟨7, 3⟩) (meth := k7m3) (c := k7c3) (by decide +kernel) rfl rfl rfl (by decide +kernel)
set_option maxRecDepth 65536 in
theorem w_c11 : (Jvm.Cond.code ({ cls := "java/lang/String", name := "coder", desc := "()B" } : Jvm.MethodName) jdk_42_method_152_code (1 : Nat) (Option.some Jvm.ClassFile.FieldType.byte)).before args0 about1 = true := code_word (m := ⟨7, 9⟩) (meth := k7m9) (c := k7c9) (by decide +kernel) rfl rfl rfl (by decide +kernel)
set_option maxRecDepth 65536 in
theorem w_c12 : (Jvm.Cond.code ({ cls := "java/lang/AbstractStringBuilder", name := "ensureCapacityInternal", desc := "(I)V" } : Jvm.MethodName) jdk_68_method_9_code (3 : Nat) (Option.none : Option Jvm.ClassFile.FieldType)).before args0 about1 = true := code_word (m := ⟨14, 3⟩) (meth := k14m3) (c := k14c3) (by decide +kernel) rfl rfl rfl (by decide +kernel)
set_option maxRecDepth 65536 in
theorem w_c13 : (Jvm.Cond.code ({ cls := "java/lang/AbstractStringBuilder", name := "newCapacity", desc := "(I)I" } : Jvm.MethodName) jdk_68_method_10_code (6 : Nat) (Option.some Jvm.ClassFile.FieldType.int)).before args0 about1 = true := code_word (m := ⟨14, 4⟩) (meth := k14m4) (c := k14c4) (by decide +kernel) rfl rfl rfl (by decide +kernel)
set_option maxRecDepth 65536 in
theorem w_c14 : (Jvm.Cond.code ({ cls := "jdk/internal/util/ArraysSupport", name := "newLength", desc := "(III)I" } : Jvm.MethodName) jdk_48_method_27_code (4 : Nat) (Option.some Jvm.ClassFile.FieldType.int)).before args0 about1 = true := code_word (m := ⟨16, 1⟩) (meth := k16m1) (c := k16c1) (by decide +kernel) rfl rfl rfl (by decide +kernel)
set_option maxRecDepth 65536 in
theorem w_c15 : (Jvm.Cond.code ({ cls := "java/lang/Math", name := "max", desc := "(II)I" } : Jvm.MethodName) jdk_29_method_65_code (2 : Nat) (Option.some Jvm.ClassFile.FieldType.int)).before args0 about1 = true := code_word (m := ⟨17, 1⟩) (meth := k17m1) (c := k17c1) (by decide +kernel) rfl rfl rfl (by decide +kernel)
set_option maxRecDepth 65536 in
theorem w_c16 : (Jvm.Cond.code ({ cls := "java/util/Arrays", name := "copyOf", desc := "([BI)[B" } : Jvm.MethodName) jdk_65_method_121_code (3 : Nat) (Option.some (Jvm.ClassFile.FieldType.array Jvm.ClassFile.FieldType.byte))).before args0 about1 = true := code_word (m := ⟨18, 1⟩) (meth := k18m1) (c := k18c1) (by decide +kernel) rfl rfl rfl (by decide +kernel)
set_option maxRecDepth 65536 in
theorem w_c17 : (Jvm.Cond.code ({ cls := "java/lang/Math", name := "min", desc := "(II)I" } : Jvm.MethodName) jdk_29_method_69_code (2 : Nat) (Option.some Jvm.ClassFile.FieldType.int)).before args0 about1 = true := code_word (m := ⟨17, 2⟩) (meth := k17m2) (c := k17c2) (by decide +kernel) rfl rfl rfl (by decide +kernel)
set_option maxRecDepth 65536 in
theorem w_c18 : (Jvm.Cond.code ({ cls := "java/lang/AbstractStringBuilder", name := "putStringAt", desc := "(ILjava/lang/String;)V" } : Jvm.MethodName) jdk_68_method_73_code (3 : Nat) (Option.none : Option Jvm.ClassFile.FieldType)).before args0 about1 = true := code_word (m := ⟨14, 9⟩) (meth := k14m9) (c := k14c9) (by decide +kernel) rfl rfl rfl (by decide +kernel)
set_option maxRecDepth 65536 in
theorem w_c19 : (Jvm.Cond.code ({ cls := "java/lang/AbstractStringBuilder", name := "inflateIfNeededFor", desc := "(Ljava/lang/String;)V" } : Jvm.MethodName) jdk_68_method_71_code (2 : Nat) (Option.none : Option Jvm.ClassFile.FieldType)).before args0 about1 = true := code_word (m := ⟨14, 8⟩) (meth := k14m8) (c := k14c8) (by decide +kernel) rfl rfl rfl (by decide +kernel)
set_option maxRecDepth 65536 in
theorem w_c20 : (Jvm.Cond.code ({ cls := "java/lang/String", name := "getBytes", desc := "([BIB)V" } : Jvm.MethodName) jdk_42_method_147_code (4 : Nat) (Option.none : Option Jvm.ClassFile.FieldType)).before args0 about1 = true := code_word (m := ⟨7, 6⟩) (meth := k7m6) (c := k7c6) (by decide +kernel) rfl rfl rfl (by decide +kernel)
set_option maxRecDepth 65536 in
theorem w_c21 : (Jvm.Cond.code ({ cls := "java/lang/StringBuilder", name := "toString", desc := "()Ljava/lang/String;" } : Jvm.MethodName) jdk_67_method_42_code (1 : Nat) (Option.some (Jvm.ClassFile.FieldType.object "java/lang/String"))).before args0 about1 = true := code_word (m := ⟨15, 2⟩) (meth := k15m2) (c := k15c2) (by decide +kernel) rfl rfl rfl (by decide +kernel)
set_option maxRecDepth 65536 in
theorem w_c22 : (Jvm.Cond.code ({ cls := "java/lang/String", name := "<init>", desc := "(Ljava/lang/StringBuilder;)V" } : Jvm.MethodName) jdk_42_method_53_code (2 : Nat) (Option.none : Option Jvm.ClassFile.FieldType)).before args0 about1 = true := code_word (m := ⟨7, 2⟩) (meth := k7m2) (c := k7c2) (by decide +kernel) rfl rfl rfl (by decide +kernel)
set_option maxRecDepth 65536 in
theorem w_c23 : (Jvm.Cond.code ({ cls := "java/lang/String", name := "<init>", desc := "(Ljava/lang/AbstractStringBuilder;Ljava/lang/Void;)V" } : Jvm.MethodName) jdk_42_method_150_code (5 : Nat) (Option.none : Option Jvm.ClassFile.FieldType)).before args0 about1 = true := code_word (m := ⟨7, 8⟩) (meth := k7m8) (c := k7c8) (by decide +kernel) rfl rfl rfl (by decide +kernel)
set_option maxRecDepth 65536 in
theorem w_c24 : (Jvm.Cond.code ({ cls := "java/lang/AbstractStringBuilder", name := "getValue", desc := "()[B" } : Jvm.MethodName) jdk_68_method_64_code (1 : Nat) (Option.some (Jvm.ClassFile.FieldType.array Jvm.ClassFile.FieldType.byte))).before args0 about1 = true := code_word (m := ⟨14, 6⟩) (meth := k14m6) (c := k14c6) (by decide +kernel) rfl rfl rfl (by decide +kernel)
set_option maxRecDepth 65536 in
theorem w_c25 : (Jvm.Cond.code ({ cls := "java/lang/StringBuilder", name := "length", desc := "()I" } : Jvm.MethodName) jdk_67_method_93_code (1 : Nat) (Option.some Jvm.ClassFile.FieldType.int)).before args0 about1 = true := code_word (m := ⟨15, 3⟩) (meth := k15m3) (c := k15c3) (by decide +kernel) rfl rfl rfl (by decide +kernel)
set_option maxRecDepth 65536 in
theorem w_c26 : (Jvm.Cond.code ({ cls := "java/lang/AbstractStringBuilder", name := "length", desc := "()I" } : Jvm.MethodName) jdk_68_method_6_code (1 : Nat) (Option.some Jvm.ClassFile.FieldType.int)).before args0 about1 = true := code_word (m := ⟨14, 2⟩) (meth := k14m2) (c := k14c2) (by decide +kernel) rfl rfl rfl (by decide +kernel)
set_option maxRecDepth 65536 in
theorem w_c27 : (Jvm.Cond.code ({ cls := "java/lang/AbstractStringBuilder", name := "isLatin1", desc := "()Z" } : Jvm.MethodName) jdk_68_method_68_code (1 : Nat) (Option.some Jvm.ClassFile.FieldType.boolean)).before args0 about1 = true := code_word (m := ⟨14, 7⟩) (meth := k14m7) (c := k14c7) (by decide +kernel) rfl rfl rfl (by decide +kernel)
set_option maxRecDepth 65536 in
theorem w_c28 : (Jvm.Cond.code ({ cls := "java/util/Arrays", name := "copyOfRange", desc := "([BII)[B" } : Jvm.MethodName) jdk_65_method_132_code (3 : Nat) (Option.some (Jvm.ClassFile.FieldType.array Jvm.ClassFile.FieldType.byte))).before args0 about1 = true := code_word (m := ⟨18, 3⟩) (meth := k18m3) (c := k18c3) (by decide +kernel) rfl rfl rfl (by decide +kernel)
set_option maxRecDepth 65536 in
theorem w_c29 : (Jvm.Cond.code ({ cls := "java/util/Arrays", name := "copyOfRangeByte", desc := "([BII)[B" } : Jvm.MethodName) jdk_65_method_133_code (5 : Nat) (Option.some (Jvm.ClassFile.FieldType.array Jvm.ClassFile.FieldType.byte))).before args0 about1 = true := code_word (m := ⟨18, 4⟩) (meth := k18m4) (c := k18c4) (by decide +kernel) rfl rfl rfl (by decide +kernel)
set_option maxRecDepth 65536 in
theorem w_c30 : (Jvm.Cond.code ({ cls := "java/util/Arrays", name := "checkLength", desc := "(II)V" } : Jvm.MethodName) jdk_65_method_131_code (2 : Nat) (Option.none : Option Jvm.ClassFile.FieldType)).before args0 about1 = true := code_word (m := ⟨18, 2⟩) (meth := k18m2) (c := k18c2) (by decide +kernel) rfl rfl rfl (by decide +kernel)
set_option maxRecDepth 65536 in
theorem w_c31 : (Jvm.Cond.code ({ cls := "com/example/capsa/capsa/BeanNameInUseException", name := "<init>", desc := "(Ljava/lang/String;)V" } : Jvm.MethodName) prog_2_method_2_code (2 : Nat) (Option.none : Option Jvm.ClassFile.FieldType)).before args0 about1 = true := code_word (m := ⟨12, 0⟩) (meth := k12m0) (c := k12c0) (by decide +kernel) rfl rfl rfl (by decide +kernel)
set_option maxRecDepth 65536 in
theorem w_c32 : (Jvm.Cond.code ({ cls := "com/example/capsa/capsa/CapsaException", name := "<init>", desc := "(Ljava/lang/String;)V" } : Jvm.MethodName) prog_7_method_1_code (2 : Nat) (Option.none : Option Jvm.ClassFile.FieldType)).before args0 about1 = true := code_word (m := ⟨11, 0⟩) (meth := k11m0) (c := k11c0) (by decide +kernel) rfl rfl rfl (by decide +kernel)
set_option maxRecDepth 65536 in
theorem w_c33 : (Jvm.Cond.code ({ cls := "java/lang/RuntimeException", name := "<init>", desc := "(Ljava/lang/String;)V" } : Jvm.MethodName) jdk_58_method_2_code (2 : Nat) (Option.none : Option Jvm.ClassFile.FieldType)).before args0 about1 = true := code_word (m := ⟨10, 1⟩) (meth := k10m1) (c := k10c1) (by decide +kernel) rfl rfl rfl (by decide +kernel)
set_option maxRecDepth 65536 in
theorem w_c34 : (Jvm.Cond.code ({ cls := "java/lang/Exception", name := "<init>", desc := "(Ljava/lang/String;)V" } : Jvm.MethodName) jdk_59_method_2_code (2 : Nat) (Option.none : Option Jvm.ClassFile.FieldType)).before args0 about1 = true := code_word (m := ⟨9, 1⟩) (meth := k9m1) (c := k9c1) (by decide +kernel) rfl rfl rfl (by decide +kernel)
set_option maxRecDepth 65536 in
theorem w_c35 : (Jvm.Cond.code ({ cls := "java/lang/Throwable", name := "<init>", desc := "(Ljava/lang/String;)V" } : Jvm.MethodName) jdk_78_method_2_code (2 : Nat) (Option.none : Option Jvm.ClassFile.FieldType)).before args0 about1 = true := code_word (m := ⟨8, 1⟩) (meth := k8m1) (c := k8c1) (by decide +kernel) rfl rfl rfl (by decide +kernel)
set_option maxRecDepth 65536 in
theorem w_c36 : (Jvm.Cond.code ({ cls := "java/lang/Throwable", name := "<init>", desc := "()V" } : Jvm.MethodName) jdk_78_method_1_code (1 : Nat) (Option.none : Option Jvm.ClassFile.FieldType)).before args0 about1 = true := code_word (m := ⟨8, 0⟩) (meth := k8m0) (c := k8c0) (by decide +kernel) rfl rfl rfl (by decide +kernel)
set_option maxRecDepth 65536 in
theorem w_c37 : (Jvm.Cond.code ({ cls := "java/lang/Throwable", name := "getMessage", desc := "()Ljava/lang/String;" } : Jvm.MethodName) jdk_78_method_6_code (1 : Nat) (Option.some (Jvm.ClassFile.FieldType.object "java/lang/String"))).before args0 about1 = true := code_word (m := ⟨8, 2⟩) (meth := k8m2) (c := k8c2) (by decide +kernel) rfl rfl rfl (by decide +kernel)
set_option maxRecDepth 65536 in
theorem w_c38 : (Jvm.Cond.code ({ cls := "java/lang/String", name := "equals", desc := "(Ljava/lang/Object;)Z" } : Jvm.MethodName) jdk_42_method_66_code (3 : Nat) (Option.some Jvm.ClassFile.FieldType.boolean)).before args0 about1 = true := code_word (m := ⟨7, 5⟩) (meth := k7m5) (c := k7c5) (by decide +kernel) rfl rfl rfl (by decide +kernel)
set_option maxRecDepth 65536 in
theorem w_c39 : (Jvm.Cond.code ({ cls := "java/lang/StringLatin1", name := "equals", desc := "([B[B)Z" } : Jvm.MethodName) jdk_43_method_13_code (3 : Nat) (Option.some Jvm.ClassFile.FieldType.boolean)).before args0 about1 = true := code_word (m := ⟨20, 2⟩) (meth := k20m2) (c := k20c2) (by decide +kernel) rfl rfl rfl (by decide +kernel)
set_option maxRecDepth 65536 in
theorem w_c40 : (Jvm.Cond.code ({ cls := "com/example/capsa/capsa/BeanNameInUseExceptionAliasPinLaw", name := "at", desc := "(Ljava/lang/String;IC)Z" } : Jvm.MethodName) method_3_code (3 : Nat) (Option.some Jvm.ClassFile.FieldType.boolean)).before args0 about1 = true := code_word (m := ⟨1, 2⟩) (meth := k1m2) (c := k1c2) (by decide +kernel) rfl rfl rfl (by decide +kernel)
set_option maxRecDepth 65536 in
theorem w_c41 : (Jvm.Cond.code ({ cls := "java/lang/String", name := "charAt", desc := "(I)C" } : Jvm.MethodName) jdk_42_method_56_code (2 : Nat) (Option.some Jvm.ClassFile.FieldType.char)).before args0 about1 = true := code_word (m := ⟨7, 4⟩) (meth := k7m4) (c := k7c4) (by decide +kernel) rfl rfl rfl (by decide +kernel)
set_option maxRecDepth 65536 in
theorem w_c42 : (Jvm.Cond.code ({ cls := "java/lang/String", name := "isLatin1", desc := "()Z" } : Jvm.MethodName) jdk_42_method_154_code (1 : Nat) (Option.some Jvm.ClassFile.FieldType.boolean)).before args0 about1 = true := code_word (m := ⟨7, 10⟩) (meth := k7m10) (c := k7c10) (by decide +kernel) rfl rfl rfl (by decide +kernel)
set_option maxRecDepth 65536 in
theorem w_c43 : (Jvm.Cond.code ({ cls := "java/lang/StringLatin1", name := "charAt", desc := "([BI)C" } : Jvm.MethodName) jdk_43_method_2_code (2 : Nat) (Option.some Jvm.ClassFile.FieldType.char)).before args0 about1 = true := code_word (m := ⟨20, 1⟩) (meth := k20m1) (c := k20c1) (by decide +kernel) rfl rfl rfl (by decide +kernel)
set_option maxRecDepth 65536 in
theorem w_c44 : (Jvm.Cond.code ({ cls := "java/lang/String", name := "checkIndex", desc := "(II)V" } : Jvm.MethodName) jdk_42_method_155_code (2 : Nat) (Option.none : Option Jvm.ClassFile.FieldType)).before args0 about1 = true := code_word (m := ⟨7, 11⟩) (meth := k7m11) (c := k7c11) (by decide +kernel) rfl rfl rfl (by decide +kernel)
set_option maxRecDepth 65536 in
theorem w_c45 : (Jvm.Cond.code ({ cls := "jdk/internal/util/Preconditions", name := "checkIndex", desc := "(IILjava/util/function/BiFunction;)I" } : Jvm.MethodName) jdk_41_method_11_code (3 : Nat) (Option.some Jvm.ClassFile.FieldType.int)).before args0 about1 = true := code_word (m := ⟨21, 1⟩) (meth := k21m1) (c := k21c1) (by decide +kernel) rfl rfl rfl (by decide +kernel)
set_option maxRecDepth 65536 in
theorem w_c46 : (Jvm.Cond.code ({ cls := "java/lang/StringUTF16", name := "compress", desc := "([CII)[B" } : Jvm.MethodName) jdk_52_method_16_code (6 : Nat) (Option.some (Jvm.ClassFile.FieldType.array Jvm.ClassFile.FieldType.byte))).before args0 about1 = true := code_word (m := ⟨22, 2⟩) (meth := k22m2) (c := k22c2) (by decide +kernel) rfl rfl rfl (by decide +kernel)
set_option maxRecDepth 65536 in
theorem w_c47 : (Jvm.Cond.code ({ cls := "java/lang/StringUTF16", name := "compress", desc := "([CI[BII)I" } : Jvm.MethodName) jdk_52_method_21_code (7 : Nat) (Option.some Jvm.ClassFile.FieldType.int)).before args0 about1 = true := code_word (m := ⟨22, 3⟩) (meth := k22m3) (c := k22c3) (by decide +kernel) rfl rfl rfl (by decide +kernel)
set_option maxRecDepth 65536 in
theorem w_c48 : (Jvm.Cond.code ({ cls := "java/lang/StringUTF16", name := "coderFromArrayLen", desc := "([BI)B" } : Jvm.MethodName) jdk_52_method_15_code (2 : Nat) (Option.some Jvm.ClassFile.FieldType.byte)).before args0 about1 = true := code_word (m := ⟨22, 1⟩) (meth := k22m1) (c := k22c1) (by decide +kernel) rfl rfl rfl (by decide +kernel)
def codes1 : List Jvm.Cond := [Jvm.Cond.code x code maxLocals ret, Jvm.Cond.code ({ cls := "com/example/capsa/capsa/BeanNameInUseExceptionAliasPinLaw", name := "str", desc := "(ICC)Ljava/lang/String;" } : Jvm.MethodName) method_2_code (3 : Nat) (Option.some (Jvm.ClassFile.FieldType.object "java/lang/String")), Jvm.Cond.code ({ cls := "java/lang/String", name := "<init>", desc := "([C)V" } : Jvm.MethodName) jdk_42_method_3_code (2 : Nat) (Option.none : Option Jvm.ClassFile.FieldType), Jvm.Cond.code ({ cls := "java/lang/String", name := "<init>", desc := "([CIILjava/lang/Void;)V" } : Jvm.MethodName) jdk_42_method_149_code (6 : Nat) (Option.none : Option Jvm.ClassFile.FieldType), Jvm.Cond.code ({ cls := "java/lang/Object", name := "<init>", desc := "()V" } : Jvm.MethodName) object_method_1_code (1 : Nat) (Option.none : Option Jvm.ClassFile.FieldType), Jvm.Cond.code ({ cls := "com/example/capsa/capsa/BeanNameInUseException", name := "alias", desc := "(Ljava/lang/String;Ljava/lang/String;)Lcom/example/capsa/capsa/BeanNameInUseException;" } : Jvm.MethodName) prog_2_method_3_code (2 : Nat) (Option.some (Jvm.ClassFile.FieldType.object "com/example/capsa/capsa/BeanNameInUseException")), Jvm.Cond.code ({ cls := "java/lang/StringBuilder", name := "<init>", desc := "()V" } : Jvm.MethodName) jdk_67_method_1_code (1 : Nat) (Option.none : Option Jvm.ClassFile.FieldType), Jvm.Cond.code ({ cls := "java/lang/AbstractStringBuilder", name := "<init>", desc := "(I)V" } : Jvm.MethodName) jdk_68_method_2_code (2 : Nat) (Option.none : Option Jvm.ClassFile.FieldType), Jvm.Cond.code ({ cls := "java/lang/StringBuilder", name := "append", desc := "(Ljava/lang/String;)Ljava/lang/StringBuilder;" } : Jvm.MethodName) jdk_67_method_7_code (2 : Nat) (Option.some (Jvm.ClassFile.FieldType.object "java/lang/StringBuilder")), Jvm.Cond.code ({ cls := "java/lang/AbstractStringBuilder", name := "append", desc := "(Ljava/lang/String;)Ljava/lang/AbstractStringBuilder;" } : Jvm.MethodName) jdk_68_method_22_code (3 : Nat) (Option.some (Jvm.ClassFile.FieldType.object "java/lang/AbstractStringBuilder")), Jvm.Cond.code ({ cls := "java/lang/String", name := "length", desc := "()I" } : Jvm.MethodName) jdk_42_method_54_code (1 : Nat) (Option.some Jvm.ClassFile.FieldType.int), Jvm.Cond.code ({ cls := "java/lang/String", name := "coder", desc := "()B" } : Jvm.MethodName) jdk_42_method_152_code (1 : Nat) (Option.some Jvm.ClassFile.FieldType.byte), Jvm.Cond.code ({ cls := "java/lang/AbstractStringBuilder", name := "ensureCapacityInternal", desc := "(I)V" } : Jvm.MethodName) jdk_68_method_9_code (3 : Nat) (Option.none : Option Jvm.ClassFile.FieldType), Jvm.Cond.code ({ cls := "java/lang/AbstractStringBuilder", name := "newCapacity", desc := "(I)I" } : Jvm.MethodName) jdk_68_method_10_code (6 : Nat) (Option.some Jvm.ClassFile.FieldType.int), Jvm.Cond.code ({ cls := "jdk/internal/util/ArraysSupport", name := "newLength", desc := "(III)I" } : Jvm.MethodName) jdk_48_method_27_code (4 : Nat) (Option.some Jvm.ClassFile.FieldType.int), Jvm.Cond.code ({ cls := "java/lang/Math", name := "max", desc := "(II)I" } : Jvm.MethodName) jdk_29_method_65_code (2 : Nat) (Option.some Jvm.ClassFile.FieldType.int), Jvm.Cond.code ({ cls := "java/util/Arrays", name := "copyOf", desc := "([BI)[B" } : Jvm.MethodName) jdk_65_method_121_code (3 : Nat) (Option.some (Jvm.ClassFile.FieldType.array Jvm.ClassFile.FieldType.byte)), Jvm.Cond.code ({ cls := "java/lang/Math", name := "min", desc := "(II)I" } : Jvm.MethodName) jdk_29_method_69_code (2 : Nat) (Option.some Jvm.ClassFile.FieldType.int), Jvm.Cond.code ({ cls := "java/lang/AbstractStringBuilder", name := "putStringAt", desc := "(ILjava/lang/String;)V" } : Jvm.MethodName) jdk_68_method_73_code (3 : Nat) (Option.none : Option Jvm.ClassFile.FieldType), Jvm.Cond.code ({ cls := "java/lang/AbstractStringBuilder", name := "inflateIfNeededFor", desc := "(Ljava/lang/String;)V" } : Jvm.MethodName) jdk_68_method_71_code (2 : Nat) (Option.none : Option Jvm.ClassFile.FieldType), Jvm.Cond.code ({ cls := "java/lang/String", name := "getBytes", desc := "([BIB)V" } : Jvm.MethodName) jdk_42_method_147_code (4 : Nat) (Option.none : Option Jvm.ClassFile.FieldType), Jvm.Cond.code ({ cls := "java/lang/StringBuilder", name := "toString", desc := "()Ljava/lang/String;" } : Jvm.MethodName) jdk_67_method_42_code (1 : Nat) (Option.some (Jvm.ClassFile.FieldType.object "java/lang/String")), Jvm.Cond.code ({ cls := "java/lang/String", name := "<init>", desc := "(Ljava/lang/StringBuilder;)V" } : Jvm.MethodName) jdk_42_method_53_code (2 : Nat) (Option.none : Option Jvm.ClassFile.FieldType), Jvm.Cond.code ({ cls := "java/lang/String", name := "<init>", desc := "(Ljava/lang/AbstractStringBuilder;Ljava/lang/Void;)V" } : Jvm.MethodName) jdk_42_method_150_code (5 : Nat) (Option.none : Option Jvm.ClassFile.FieldType), Jvm.Cond.code ({ cls := "java/lang/AbstractStringBuilder", name := "getValue", desc := "()[B" } : Jvm.MethodName) jdk_68_method_64_code (1 : Nat) (Option.some (Jvm.ClassFile.FieldType.array Jvm.ClassFile.FieldType.byte)), Jvm.Cond.code ({ cls := "java/lang/StringBuilder", name := "length", desc := "()I" } : Jvm.MethodName) jdk_67_method_93_code (1 : Nat) (Option.some Jvm.ClassFile.FieldType.int), Jvm.Cond.code ({ cls := "java/lang/AbstractStringBuilder", name := "length", desc := "()I" } : Jvm.MethodName) jdk_68_method_6_code (1 : Nat) (Option.some Jvm.ClassFile.FieldType.int), Jvm.Cond.code ({ cls := "java/lang/AbstractStringBuilder", name := "isLatin1", desc := "()Z" } : Jvm.MethodName) jdk_68_method_68_code (1 : Nat) (Option.some Jvm.ClassFile.FieldType.boolean), Jvm.Cond.code ({ cls := "java/util/Arrays", name := "copyOfRange", desc := "([BII)[B" } : Jvm.MethodName) jdk_65_method_132_code (3 : Nat) (Option.some (Jvm.ClassFile.FieldType.array Jvm.ClassFile.FieldType.byte)), Jvm.Cond.code ({ cls := "java/util/Arrays", name := "copyOfRangeByte", desc := "([BII)[B" } : Jvm.MethodName) jdk_65_method_133_code (5 : Nat) (Option.some (Jvm.ClassFile.FieldType.array Jvm.ClassFile.FieldType.byte)), Jvm.Cond.code ({ cls := "java/util/Arrays", name := "checkLength", desc := "(II)V" } : Jvm.MethodName) jdk_65_method_131_code (2 : Nat) (Option.none : Option Jvm.ClassFile.FieldType), Jvm.Cond.code ({ cls := "com/example/capsa/capsa/BeanNameInUseException", name := "<init>", desc := "(Ljava/lang/String;)V" } : Jvm.MethodName) prog_2_method_2_code (2 : Nat) (Option.none : Option Jvm.ClassFile.FieldType), Jvm.Cond.code ({ cls := "com/example/capsa/capsa/CapsaException", name := "<init>", desc := "(Ljava/lang/String;)V" } : Jvm.MethodName) prog_7_method_1_code (2 : Nat) (Option.none : Option Jvm.ClassFile.FieldType), Jvm.Cond.code ({ cls := "java/lang/RuntimeException", name := "<init>", desc := "(Ljava/lang/String;)V" } : Jvm.MethodName) jdk_58_method_2_code (2 : Nat) (Option.none : Option Jvm.ClassFile.FieldType), Jvm.Cond.code ({ cls := "java/lang/Exception", name := "<init>", desc := "(Ljava/lang/String;)V" } : Jvm.MethodName) jdk_59_method_2_code (2 : Nat) (Option.none : Option Jvm.ClassFile.FieldType), Jvm.Cond.code ({ cls := "java/lang/Throwable", name := "<init>", desc := "(Ljava/lang/String;)V" } : Jvm.MethodName) jdk_78_method_2_code (2 : Nat) (Option.none : Option Jvm.ClassFile.FieldType), Jvm.Cond.code ({ cls := "java/lang/Throwable", name := "<init>", desc := "()V" } : Jvm.MethodName) jdk_78_method_1_code (1 : Nat) (Option.none : Option Jvm.ClassFile.FieldType), Jvm.Cond.code ({ cls := "java/lang/Throwable", name := "getMessage", desc := "()Ljava/lang/String;" } : Jvm.MethodName) jdk_78_method_6_code (1 : Nat) (Option.some (Jvm.ClassFile.FieldType.object "java/lang/String")), Jvm.Cond.code ({ cls := "java/lang/String", name := "equals", desc := "(Ljava/lang/Object;)Z" } : Jvm.MethodName) jdk_42_method_66_code (3 : Nat) (Option.some Jvm.ClassFile.FieldType.boolean), Jvm.Cond.code ({ cls := "java/lang/StringLatin1", name := "equals", desc := "([B[B)Z" } : Jvm.MethodName) jdk_43_method_13_code (3 : Nat) (Option.some Jvm.ClassFile.FieldType.boolean), Jvm.Cond.code ({ cls := "com/example/capsa/capsa/BeanNameInUseExceptionAliasPinLaw", name := "at", desc := "(Ljava/lang/String;IC)Z" } : Jvm.MethodName) method_3_code (3 : Nat) (Option.some Jvm.ClassFile.FieldType.boolean), Jvm.Cond.code ({ cls := "java/lang/String", name := "charAt", desc := "(I)C" } : Jvm.MethodName) jdk_42_method_56_code (2 : Nat) (Option.some Jvm.ClassFile.FieldType.char), Jvm.Cond.code ({ cls := "java/lang/String", name := "isLatin1", desc := "()Z" } : Jvm.MethodName) jdk_42_method_154_code (1 : Nat) (Option.some Jvm.ClassFile.FieldType.boolean), Jvm.Cond.code ({ cls := "java/lang/StringLatin1", name := "charAt", desc := "([BI)C" } : Jvm.MethodName) jdk_43_method_2_code (2 : Nat) (Option.some Jvm.ClassFile.FieldType.char), Jvm.Cond.code ({ cls := "java/lang/String", name := "checkIndex", desc := "(II)V" } : Jvm.MethodName) jdk_42_method_155_code (2 : Nat) (Option.none : Option Jvm.ClassFile.FieldType), Jvm.Cond.code ({ cls := "jdk/internal/util/Preconditions", name := "checkIndex", desc := "(IILjava/util/function/BiFunction;)I" } : Jvm.MethodName) jdk_41_method_11_code (3 : Nat) (Option.some Jvm.ClassFile.FieldType.int), Jvm.Cond.code ({ cls := "java/lang/StringUTF16", name := "compress", desc := "([CII)[B" } : Jvm.MethodName) jdk_52_method_16_code (6 : Nat) (Option.some (Jvm.ClassFile.FieldType.array Jvm.ClassFile.FieldType.byte)), Jvm.Cond.code ({ cls := "java/lang/StringUTF16", name := "compress", desc := "([CI[BII)I" } : Jvm.MethodName) jdk_52_method_21_code (7 : Nat) (Option.some Jvm.ClassFile.FieldType.int), Jvm.Cond.code ({ cls := "java/lang/StringUTF16", name := "coderFromArrayLen", desc := "([BI)B" } : Jvm.MethodName) jdk_52_method_15_code (2 : Nat) (Option.some Jvm.ClassFile.FieldType.byte)]
set_option maxRecDepth 65536 in
theorem codes_eq : words1.filter isCode = codes1 := rfl
theorem w_codes : ∀ c ∈ words1.filter isCode, c.before args0 about1 = true := by
  rw [codes_eq]
  intro c hc
  simp only [codes1, List.mem_cons, List.not_mem_nil, or_false] at hc
  rcases hc with rfl | rfl | rfl | rfl | rfl | rfl | rfl | rfl | rfl | rfl | rfl | rfl | rfl | rfl | rfl | rfl | rfl | rfl | rfl | rfl | rfl | rfl | rfl | rfl | rfl | rfl | rfl | rfl | rfl | rfl | rfl | rfl | rfl | rfl | rfl | rfl | rfl | rfl | rfl | rfl | rfl | rfl | rfl | rfl | rfl | rfl | rfl | rfl | rfl
  · exact w_c0
  · exact w_c1
  · exact w_c2
  · exact w_c3
  · exact w_c4
  · exact w_c5
  · exact w_c6
  · exact w_c7
  · exact w_c8
  · exact w_c9
  · exact w_c10
  · exact w_c11
  · exact w_c12
  · exact w_c13
  · exact w_c14
  · exact w_c15
  · exact w_c16
  · exact w_c17
  · exact w_c18
  · exact w_c19
  · exact w_c20
  · exact w_c21
  · exact w_c22
  · exact w_c23
  · exact w_c24
  · exact w_c25
  · exact w_c26
  · exact w_c27
  · exact w_c28
  · exact w_c29
  · exact w_c30
  · exact w_c31
  · exact w_c32
  · exact w_c33
  · exact w_c34
  · exact w_c35
  · exact w_c36
  · exact w_c37
  · exact w_c38
  · exact w_c39
  · exact w_c40
  · exact w_c41
  · exact w_c42
  · exact w_c43
  · exact w_c44
  · exact w_c45
  · exact w_c46
  · exact w_c47
  · exact w_c48
set_option maxRecDepth 65536 in
theorem w_t1 : (words1.take 24).all (fun c => isCode c || c.before args0 about1) = true := by decide +kernel
set_option maxRecDepth 65536 in
theorem w_t2 : ((words1.drop 24).take 24).all (fun c => isCode c || c.before args0 about1) = true := by decide +kernel
set_option maxRecDepth 65536 in
theorem w_t3 : (((words1.drop 24).drop 24).take 24).all (fun c => isCode c || c.before args0 about1) = true := by decide +kernel
set_option maxRecDepth 65536 in
theorem w_t4 : ((((words1.drop 24).drop 24).drop 24).take 24).all (fun c => isCode c || c.before args0 about1) = true := by decide +kernel
set_option maxRecDepth 65536 in
theorem w_t5 : (((((words1.drop 24).drop 24).drop 24).drop 24).take 24).all (fun c => isCode c || c.before args0 about1) = true := by decide +kernel
set_option maxRecDepth 65536 in
theorem w_t6 : ((((((words1.drop 24).drop 24).drop 24).drop 24).drop 24).take 24).all (fun c => isCode c || c.before args0 about1) = true := by decide +kernel
set_option maxRecDepth 65536 in
theorem w_t7 : (((((((words1.drop 24).drop 24).drop 24).drop 24).drop 24).drop 24).take 24).all (fun c => isCode c || c.before args0 about1) = true := by decide +kernel
set_option maxRecDepth 65536 in
theorem w_t8 : ((((((((words1.drop 24).drop 24).drop 24).drop 24).drop 24).drop 24).drop 24).take 24).all (fun c => isCode c || c.before args0 about1) = true := by decide +kernel
set_option maxRecDepth 65536 in
theorem w_t9 : (((((((((words1.drop 24).drop 24).drop 24).drop 24).drop 24).drop 24).drop 24).drop 24).take 24).all (fun c => isCode c || c.before args0 about1) = true := by decide +kernel
set_option maxRecDepth 65536 in
theorem w_t10 : ((((((((((words1.drop 24).drop 24).drop 24).drop 24).drop 24).drop 24).drop 24).drop 24).drop 24).take 24).all (fun c => isCode c || c.before args0 about1) = true := by decide +kernel
set_option maxRecDepth 65536 in
theorem w_t11 : (((((((((((words1.drop 24).drop 24).drop 24).drop 24).drop 24).drop 24).drop 24).drop 24).drop 24).drop 24).take 24).all (fun c => isCode c || c.before args0 about1) = true := by decide +kernel
set_option maxRecDepth 65536 in
theorem w_t12 : (((((((((((words1.drop 24).drop 24).drop 24).drop 24).drop 24).drop 24).drop 24).drop 24).drop 24).drop 24).drop 24).all (fun c => isCode c || c.before args0 about1) = true := by decide +kernel
theorem w_tables : (allAtoms (Jvm.Cond.code x code maxLocals ret :: tables_1)).before args0 about1 = true := by
  rw [allAtoms_all]
  show words1.all (fun c => c.before args0 about1) = true
  refine all_split ?_ w_codes
  rw [← List.take_append_drop 24 words1, List.all_append, w_t1, ← List.take_append_drop 24 (words1.drop 24), List.all_append, w_t2, ← List.take_append_drop 24 ((words1.drop 24).drop 24), List.all_append, w_t3, ← List.take_append_drop 24 (((words1.drop 24).drop 24).drop 24), List.all_append, w_t4, ← List.take_append_drop 24 ((((words1.drop 24).drop 24).drop 24).drop 24), List.all_append, w_t5, ← List.take_append_drop 24 (((((words1.drop 24).drop 24).drop 24).drop 24).drop 24), List.all_append, w_t6, ← List.take_append_drop 24 ((((((words1.drop 24).drop 24).drop 24).drop 24).drop 24).drop 24), List.all_append, w_t7, ← List.take_append_drop 24 (((((((words1.drop 24).drop 24).drop 24).drop 24).drop 24).drop 24).drop 24), List.all_append, w_t8, ← List.take_append_drop 24 ((((((((words1.drop 24).drop 24).drop 24).drop 24).drop 24).drop 24).drop 24).drop 24), List.all_append, w_t9, ← List.take_append_drop 24 (((((((((words1.drop 24).drop 24).drop 24).drop 24).drop 24).drop 24).drop 24).drop 24).drop 24), List.all_append, w_t10, ← List.take_append_drop 24 ((((((((((words1.drop 24).drop 24).drop 24).drop 24).drop 24).drop 24).drop 24).drop 24).drop 24).drop 24), List.all_append, w_t11, w_t12]
  rfl
set_option maxRecDepth 65536 in
theorem w_rest : rest_1_c.before args0 about1 = true := by decide +kernel
set_option maxRecDepth 65536 in
theorem w_case : (Jvm.Cond.and given_1 narrow_1).before args0 about1 = true := by decide +kernel
set_option maxRecDepth 65536 in
theorem w_consts : constsHeld consts_1 about1 := Jvm.Lit.constsHeldB_iff.mp (by decide +kernel)
theorem w_applies : (headSpec (Jvm.Cond.code x code maxLocals ret :: tables_1) room_1).applies x e0.platform about1 = true :=
  (Spec.applies_iff w_frames).mpr ⟨w_running, w_runnable, w_alone, w_named, w_hears, w_ripe, w_room, w_tables⟩
theorem atStart : AtStart classFile x code maxLocals ret World_1 tables_1 room_1 Calls_1 rest_1 Pre_1 launch0 p0 e0 about1 theMethod args0 below0 :=
  ⟨lists_1, trivial, launch0.admits_env _ _ _, launch0.least_env, fairChoices_fair.cas, fairChoices_fair.clock, w_frames, w_args, w_heap, w_applies, ⟨(by decide +kernel : framesKnown about1 = true), ⟨(by decide +kernel : tablesKnown about1 = true), ⟨w_consts, trivial⟩⟩⟩, w_rest, w_case⟩
end start1
theorem witness_1 : WitnessClaimed_1 := ⟨start1.p0, start1.e0, start1.about1, start1.theMethod, start1.args0, start1.below0, start1.atStart⟩
end Jvm.Pilot.@@N@@
