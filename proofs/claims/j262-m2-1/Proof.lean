import JvmDerived
import JvmDerived.Pilot.@@N@@Statement
import JvmDerived.Pilot.@@N@@Code
set_option linter.unusedVariables false
set_option linter.unusedSimpArgs false
namespace Jvm.Pilot.@@N@@
open Jvm Jvm.ClassFile Sem Op Lib Jvm.Free Jvm.Stand Jvm.LawKit Jvm.RoadKit Bundle Jvm.Pilot.@@N@@.Jvm.D
section OwnKit
variable {p : Program} {l : Launch} {e : Env} {R : Room} {s : State} {m : MethodId} {args : Array Value} {below : List Frame} {meth : Method} {c : Code} {T : State} {cells slots cells' slots' : Nat} {Z : State} {a0 : Array Value} {h h' : Heap} {n0 : Nat} {Q : Option Value → Heap → Prop} {own nm : String} {bytes : ByteArray} {maxL : Nat} {ret : Option FieldType} {pc pc' pt : Nat} {Ls : Array Slot} {stk : List Value}

/-- what stays true all through a body's walk -/
def Ctx (p : Program) (s : State) (m : MethodId) (meth : Method) (c : Code) (Z : State) (own nm : String) (bytes : ByteArray) (maxL : Nat) (ret : Option FieldType) : Prop :=
  (p.tables.exec = Jvm.exec ∧ True) ∧ (c.code = bytes ∧ c.maxLocals = maxL) ∧ (True ∧ meth.name = nm) ∧ (meth.sig.returnType = ret ∧ meth.locks = false)
theorem Ctx.hx (K : Ctx p s m meth c Z own nm bytes maxL ret) : p.tables.exec = Jvm.exec := K.1.1
theorem Ctx.by' (K : Ctx p s m meth c Z own nm bytes maxL ret) : c.code = bytes := K.2.1.1
theorem Ctx.ml (K : Ctx p s m meth c Z own nm bytes maxL ret) : c.maxLocals = maxL := K.2.1.2
theorem Ctx.nm' (K : Ctx p s m meth c Z own nm bytes maxL ret) : meth.name = nm := K.2.2.1.2
theorem Ctx.ret' (K : Ctx p s m meth c Z own nm bytes maxL ret) : meth.sig.returnType = ret := K.2.2.2.1
theorem Ctx.locks (K : Ctx p s m meth c Z own nm bytes maxL ret) : meth.locks = false := K.2.2.2.2

/-- where the walk stands; what it has written lies at or above n0 -/
def St (p : Program) (l : Launch) (e : Env) (R : Room) (s : State) (m : MethodId) (args : Array Value) (below : List Frame) (meth : Method) (c : Code) (Z : State) (own : String) (n0 : Nat) (T : State) (cells slots : Nat) : Prop :=
  ∃ vm0 k0 locs, Stand p l e R (s.setVm vm0) m args below meth c T locs cells slots ∧ s.Since vm0 k0 ∧ k0 ≤ T.heap.size ∧ Z.Warmed39 vm0 ∧ vm0.findClass own = some m.cls ∧ Fr n0 locs
theorem St.mono (X : St p l e R s m args below meth c Z own n0 T cells slots) (hc : cells ≤ cells') (hs : slots ≤ slots') : St p l e R s m args below meth c Z own n0 T cells' slots' := by
  obtain ⟨vm0, k0, locs, X, hS, r⟩ := X
  exact ⟨vm0, k0, locs, { X with same := X.same.mono hc hs }, hS, r⟩

/-- from the state st the body returns, and what it leaves is as Q says -/
def Go (p : Program) (e : Env) (below : List Frame) (s : State) (R : Room) (n0 : Nat) (Q : Option Value → Heap → Prop) (st : State) : Prop :=
  ∃ s₂ o, Steps p.tables e below st s₂ ∧ s₂.status = .running ∧ Ended s₂ below o ∧ ∃ v L, o = .returned v ∧ (Q v s₂.heap ∧ Fr n0 L) ∧ ReturnedEndW s o s₂ L R.cells R.slots
theorem go_by {st st' : State} (h : ∀ t, Steps p.tables e below st' t → Steps p.tables e below st t) (k : Go p e below s R n0 Q st') : Go p e below s R n0 Q st := by
  obtain ⟨s₂, o, h1, h2⟩ := k
  exact ⟨s₂, o, h _ h1, h2⟩
theorem own_cut {α : Sort _} {P : α → Prop} {S : α → State} {st : State} (h1 : (∀ b, P b → Go p e below s R n0 Q (S b)) → Go p e below s R n0 Q st) (h2 : ∀ b, P b → Go p e below s R n0 Q (S b)) : Go p e below s R n0 Q st := h1 h2
theorem go_mono {Q' : Option Value → Heap → Prop} {st : State} (k : Go p e below s R n0 Q st) (h : ∀ v u, Q v u → Q' v u) : Go p e below s R n0 Q' st := by
  obtain ⟨s₂, o, h1, h2, h3, v, L, h4, h5, h6⟩ := k
  exact ⟨s₂, o, h1, h2, h3, v, L, h4, ⟨h _ _ h5.1, h5.2⟩, h6⟩

/-- a body's contract at the arguments as' and the heap h0 -/
def Con (l : Launch) (Z : State) (n0 : Nat) (y : MethodName) (bytes : ByteArray) (maxL : Nat) (ret : Option FieldType) (rm : Room) (as' : Array Value) (h0 : Heap) (Q : Option Value → Heap → Prop) : Prop :=
  ∀ ws : List Jvm.Cond, MetFree l y (head1 (Jvm.Cond.code y bytes maxL ret :: ws) rm) (fun a U => a = as' ∧ Z.Warmed39 U.vm ∧ U.heap = h0) (fun _ _ _ _ _ => True) (fun _ U o U' => ∃ v L, o = .returned v ∧ (Q v U'.heap ∧ Fr n0 L) ∧ ReturnedEndW U o U' L rm.cells rm.slots)
theorem con_of {y : MethodName} {rm : Room} {as' : Array Value} {h0 : Heap} (hx : plainFor y = true)
    (body : ∀ p e s m below meth c T, Ctx p s m meth c Z y.cls y.name bytes maxL ret → St p l e rm s m as' below meth c Z y.cls n0 T 0 0 → T.heap = h0 → Go p e below s rm n0 Q (T.setTop (entryFrame m as' maxL))) :
    Con l Z n0 y bytes maxL ret rm as' h0 Q := by
  intro ws
  refine MetFree.of_bodySF hx hisR ?_
  intro p e s m args below meth c s₁ Bd hml0 hP hK
  obtain ⟨hargs, hZ, hh⟩ := hP
  have X0 := Stand.of_body Bd
  have hnm := (name_of_methodNamed Bd.named Bd.method).1
  rw [hargs] at X0 ⊢
  obtain ⟨s₂, o, h1, h2, h3, v, L, h4, h5, h6⟩ := body p e s m below meth c s₁ ⟨⟨Bd.exec, trivial⟩, ⟨Bd.bytes, hml0⟩, ⟨trivial, hnm⟩, ⟨Bd.returns, BodyLoose.notSynchronized Bd⟩⟩ ⟨s.vm, 0, [], X0, (State.WarmedH.refl s).since 0, Nat.zero_le _, hZ, findClass_of_methodNamed Bd.named, Fr.nil n0⟩ (by rw [← hh, Bd.state]; rfl)
  exact ⟨s₂, o, h1, h2, h3, v, L, h4, h5, h6⟩
theorem con_mono {y : MethodName} {rm : Room} {as' : Array Value} {h0 : Heap} {Q' : Option Value → Heap → Prop} (C : Con l Z n0 y bytes maxL ret rm as' h0 Q) (h : ∀ v u, Q v u → Q' v u) : Con l Z n0 y bytes maxL ret rm as' h0 Q' := by
  intro ws p e ha hc hk s m args below hf happ hP hK
  obtain ⟨n, o, h1, h2, h3, v, L, h4, h5, h6⟩ := C ws p e ha hc hk s m args below hf happ hP hK
  exact ⟨n, o, h1, h2, h3, v, L, h4, ⟨h _ _ h5.1, h5.2⟩, h6⟩
theorem go_entry {as' : Array Value} {g : JFrame} (q : entryFrame m as' maxL = g) (k : Go p e below s R n0 Q (T.setTop g)) : Go p e below s R n0 Q (T.setTop (entryFrame m as' maxL)) := by rw [q]; exact k
theorem wd (hw : ∀ d ∈ tables_1, d.before a0 Z = true) (i : Nat) {d : Jvm.Cond} (q : tables_1[i]? = some d) : d.before a0 Z = true := hw d (List.mem_of_getElem? q)

theorem go_iloadN (K : Ctx p s m meth c Z own nm bytes maxL ret) (X : St p l e R s m args below meth c Z own n0 T cells slots) {k0 : Fin 4} {v : Int32} (hd : decode bytes pc = .ok (.iload_n k0, 1)) (hl : Ls[k0.val]? = some (.val (.int v))) (hp : pc + 1 = pc')
    (k : Go p e below s R n0 Q (T.setTop (mkF m pc' Ls (.int v :: stk)))) : Go p e below s R n0 Q (T.setTop (mkF m pc Ls (stk))) := by
  subst hp; obtain ⟨vm0, k0, locs, X, hS, hk, hZ0, hown0, N⟩ := X
  exact go_by (fun t k => XS.iloadN X.here K.hx rfl (hb K.by' hd) hl k) k

theorem go_iload (K : Ctx p s m meth c Z own nm bytes maxL ret) (X : St p l e R s m args below meth c Z own n0 T cells slots) {k0 : Nat} {v : Int32} (hd : decode bytes pc = .ok (.iload k0, 2)) (hl : Ls[k0]? = some (.val (.int v))) (hp : pc + 2 = pc')
    (k : Go p e below s R n0 Q (T.setTop (mkF m pc' Ls (.int v :: stk)))) : Go p e below s R n0 Q (T.setTop (mkF m pc Ls (stk))) := by
  subst hp; obtain ⟨vm0, k0, locs, X, hS, hk, hZ0, hown0, N⟩ := X
  exact go_by (fun t k => XS.iload X.here K.hx rfl (hb K.by' hd) hl k) k

theorem go_lloadN (K : Ctx p s m meth c Z own nm bytes maxL ret) (X : St p l e R s m args below meth c Z own n0 T cells slots) {k0 : Fin 4} {v : Int64} (hd : decode bytes pc = .ok (.lload_n k0, 1)) (hl : Ls[k0.val]? = some (.val (.long v))) (hp : pc + 1 = pc')
    (k : Go p e below s R n0 Q (T.setTop (mkF m pc' Ls (.long v :: stk)))) : Go p e below s R n0 Q (T.setTop (mkF m pc Ls (stk))) := by
  subst hp; obtain ⟨vm0, k0, locs, X, hS, hk, hZ0, hown0, N⟩ := X
  exact go_by (fun t k => XS.lloadN X.here K.hx rfl (hb K.by' hd) hl k) k

theorem go_lload (K : Ctx p s m meth c Z own nm bytes maxL ret) (X : St p l e R s m args below meth c Z own n0 T cells slots) {k0 : Nat} {v : Int64} (hd : decode bytes pc = .ok (.lload k0, 2)) (hl : Ls[k0]? = some (.val (.long v))) (hp : pc + 2 = pc')
    (k : Go p e below s R n0 Q (T.setTop (mkF m pc' Ls (.long v :: stk)))) : Go p e below s R n0 Q (T.setTop (mkF m pc Ls (stk))) := by
  subst hp; obtain ⟨vm0, k0, locs, X, hS, hk, hZ0, hown0, N⟩ := X
  exact go_by (fun t k => XS.lload X.here K.hx rfl (hb K.by' hd) hl k) k

theorem go_aloadN (K : Ctx p s m meth c Z own nm bytes maxL ret) (X : St p l e R s m args below meth c Z own n0 T cells slots) {k0 : Fin 4} {v : Value} (hd : decode bytes pc = .ok (.aload_n k0, 1)) (hl : Ls[k0.val]? = some (.val v)) (hv : v.isRef = true) (hp : pc + 1 = pc')
    (k : Go p e below s R n0 Q (T.setTop (mkF m pc' Ls (v :: stk)))) : Go p e below s R n0 Q (T.setTop (mkF m pc Ls (stk))) := by
  subst hp; obtain ⟨vm0, k0, locs, X, hS, hk, hZ0, hown0, N⟩ := X
  exact go_by (fun t k => XS.aloadN X.here K.hx rfl (hb K.by' hd) hl hv k) k

theorem go_aload (K : Ctx p s m meth c Z own nm bytes maxL ret) (X : St p l e R s m args below meth c Z own n0 T cells slots) {k0 : Nat} {v : Value} (hd : decode bytes pc = .ok (.aload k0, 2)) (hl : Ls[k0]? = some (.val v)) (hv : v.isRef = true) (hp : pc + 2 = pc')
    (k : Go p e below s R n0 Q (T.setTop (mkF m pc' Ls (v :: stk)))) : Go p e below s R n0 Q (T.setTop (mkF m pc Ls (stk))) := by
  subst hp; obtain ⟨vm0, k0, locs, X, hS, hk, hZ0, hown0, N⟩ := X
  exact go_by (fun t k => XS.aload X.here K.hx rfl (hb K.by' hd) hl hv k) k

theorem go_iconst (K : Ctx p s m meth c Z own nm bytes maxL ret) (X : St p l e R s m args below meth c Z own n0 T cells slots) {i : Int} (v : Int32) (hd : decode bytes pc = .ok (.iconst i, 1)) (hv : Int32.ofInt i = v) (hp : pc + 1 = pc')
    (k : Go p e below s R n0 Q (T.setTop (mkF m pc' Ls (.int v :: stk)))) : Go p e below s R n0 Q (T.setTop (mkF m pc Ls (stk))) := by
  subst hp; obtain ⟨vm0, k0, locs, X, hS, hk, hZ0, hown0, N⟩ := X
  exact go_by (fun t k => XT.iconstV X.here K.hx rfl v (hb K.by' hd) hv k) k

theorem go_bipush (K : Ctx p s m meth c Z own nm bytes maxL ret) (X : St p l e R s m args below meth c Z own n0 T cells slots) {i : Int} (v : Int32) (hd : decode bytes pc = .ok (.bipush i, 2)) (hv : (Int8.ofInt i).toInt32 = v) (hp : pc + 2 = pc')
    (k : Go p e below s R n0 Q (T.setTop (mkF m pc' Ls (.int v :: stk)))) : Go p e below s R n0 Q (T.setTop (mkF m pc Ls (stk))) := by
  subst hp; obtain ⟨vm0, k0, locs, X, hS, hk, hZ0, hown0, N⟩ := X
  exact go_by (fun t k => XT.bipushV X.here K.hx rfl v (hb K.by' hd) hv k) k

theorem go_sipush (K : Ctx p s m meth c Z own nm bytes maxL ret) (X : St p l e R s m args below meth c Z own n0 T cells slots) {i : Int} (v : Int32) (hd : decode bytes pc = .ok (.sipush i, 3)) (hv : (Int16.ofInt i).toInt32 = v) (hp : pc + 3 = pc')
    (k : Go p e below s R n0 Q (T.setTop (mkF m pc' Ls (.int v :: stk)))) : Go p e below s R n0 Q (T.setTop (mkF m pc Ls (stk))) := by
  subst hp; obtain ⟨vm0, k0, locs, X, hS, hk, hZ0, hown0, N⟩ := X
  exact go_by (fun t k => XT.sipushV X.here K.hx rfl v (hb K.by' hd) hv k) k

theorem go_lconst (K : Ctx p s m meth c Z own nm bytes maxL ret) (X : St p l e R s m args below meth c Z own n0 T cells slots) {i : Fin 2} (v : Int64) (hd : decode bytes pc = .ok (.lconst i, 1)) (hv : Int64.ofNat i = v) (hp : pc + 1 = pc')
    (k : Go p e below s R n0 Q (T.setTop (mkF m pc' Ls (.long v :: stk)))) : Go p e below s R n0 Q (T.setTop (mkF m pc Ls (stk))) := by
  subst hp; obtain ⟨vm0, k0, locs, X, hS, hk, hZ0, hown0, N⟩ := X
  exact go_by (fun t k => XT.lconstV X.here K.hx rfl v (hb K.by' hd) hv k) k

theorem go_null (K : Ctx p s m meth c Z own nm bytes maxL ret) (X : St p l e R s m args below meth c Z own n0 T cells slots)  (hd : decode bytes pc = .ok (.aconst_null, 1)) (hp : pc + 1 = pc')
    (k : Go p e below s R n0 Q (T.setTop (mkF m pc' Ls (.null :: stk)))) : Go p e below s R n0 Q (T.setTop (mkF m pc Ls (stk))) := by
  subst hp; obtain ⟨vm0, k0, locs, X, hS, hk, hZ0, hown0, N⟩ := X
  exact go_by (fun t k => XS.aconstNull X.here K.hx rfl (hb K.by' hd) k) k

theorem go_ldcI (K : Ctx p s m meth c Z own nm bytes maxL ret) (X : St p l e R s m args below meth c Z own n0 T cells slots) {index : Nat} {v : Int32} (w : (Cond.constant own index v).before a0 Z = true) (hd : decode bytes pc = .ok (.ldc index, 2)) (hp : pc + 2 = pc')
    (k : Go p e below s R n0 Q (T.setTop (mkF m pc' Ls (.int v :: stk)))) : Go p e below s R n0 Q (T.setTop (mkF m pc Ls (stk))) := by
  subst hp; obtain ⟨vm0, k0, locs, X, hS, hk, hZ0, hown0, N⟩ := X
  exact go_by (fun t k => X.ldcI K.hx hown0 (mvT hZ0 w) rfl (hb K.by' hd) k) k

theorem go_ldcWI (K : Ctx p s m meth c Z own nm bytes maxL ret) (X : St p l e R s m args below meth c Z own n0 T cells slots) {index : Nat} {v : Int32} (w : (Cond.constant own index v).before a0 Z = true) (hd : decode bytes pc = .ok (.ldc_w index, 3)) (hp : pc + 3 = pc')
    (k : Go p e below s R n0 Q (T.setTop (mkF m pc' Ls (.int v :: stk)))) : Go p e below s R n0 Q (T.setTop (mkF m pc Ls (stk))) := by
  subst hp; obtain ⟨vm0, k0, locs, X, hS, hk, hZ0, hown0, N⟩ := X
  exact go_by (fun t k => X.ldcWI K.hx hown0 (mvT hZ0 w) rfl (hb K.by' hd) k) k

theorem go_ldc2J (K : Ctx p s m meth c Z own nm bytes maxL ret) (X : St p l e R s m args below meth c Z own n0 T cells slots) {index : Nat} {v : Int64} (w : (Cond.constantLong own index v).before a0 Z = true) (hd : decode bytes pc = .ok (.ldc2_w index, 3)) (hp : pc + 3 = pc')
    (k : Go p e below s R n0 Q (T.setTop (mkF m pc' Ls (.long v :: stk)))) : Go p e below s R n0 Q (T.setTop (mkF m pc Ls (stk))) := by
  subst hp; obtain ⟨vm0, k0, locs, X, hS, hk, hZ0, hown0, N⟩ := X
  exact go_by (fun t k => X.ldc2J K.hx hown0 (mvT hZ0 w) rfl (hb K.by' hd) k) k

theorem go_iadd (K : Ctx p s m meth c Z own nm bytes maxL ret) (X : St p l e R s m args below meth c Z own n0 T cells slots) {x y : Int32} (hd : decode bytes pc = .ok (.iadd, 1)) (hp : pc + 1 = pc')
    (k : Go p e below s R n0 Q (T.setTop (mkF m pc' Ls (.int (x + y) :: stk)))) : Go p e below s R n0 Q (T.setTop (mkF m pc Ls (.int y :: .int x :: stk))) := by
  subst hp; obtain ⟨vm0, k0, locs, X, hS, hk, hZ0, hown0, N⟩ := X
  exact go_by (fun t k => XS.iadd X.here K.hx rfl (hb K.by' hd) rfl k) k

theorem go_isub (K : Ctx p s m meth c Z own nm bytes maxL ret) (X : St p l e R s m args below meth c Z own n0 T cells slots) {x y : Int32} (hd : decode bytes pc = .ok (.isub, 1)) (hp : pc + 1 = pc')
    (k : Go p e below s R n0 Q (T.setTop (mkF m pc' Ls (.int (x - y) :: stk)))) : Go p e below s R n0 Q (T.setTop (mkF m pc Ls (.int y :: .int x :: stk))) := by
  subst hp; obtain ⟨vm0, k0, locs, X, hS, hk, hZ0, hown0, N⟩ := X
  exact go_by (fun t k => XS.isub X.here K.hx rfl (hb K.by' hd) rfl k) k

theorem go_imul (K : Ctx p s m meth c Z own nm bytes maxL ret) (X : St p l e R s m args below meth c Z own n0 T cells slots) {x y : Int32} (hd : decode bytes pc = .ok (.imul, 1)) (hp : pc + 1 = pc')
    (k : Go p e below s R n0 Q (T.setTop (mkF m pc' Ls (.int (x * y) :: stk)))) : Go p e below s R n0 Q (T.setTop (mkF m pc Ls (.int y :: .int x :: stk))) := by
  subst hp; obtain ⟨vm0, k0, locs, X, hS, hk, hZ0, hown0, N⟩ := X
  exact go_by (fun t k => XS.imul X.here K.hx rfl (hb K.by' hd) rfl k) k

theorem go_iand (K : Ctx p s m meth c Z own nm bytes maxL ret) (X : St p l e R s m args below meth c Z own n0 T cells slots) {x y : Int32} (hd : decode bytes pc = .ok (.iand, 1)) (hp : pc + 1 = pc')
    (k : Go p e below s R n0 Q (T.setTop (mkF m pc' Ls (.int (x &&& y) :: stk)))) : Go p e below s R n0 Q (T.setTop (mkF m pc Ls (.int y :: .int x :: stk))) := by
  subst hp; obtain ⟨vm0, k0, locs, X, hS, hk, hZ0, hown0, N⟩ := X
  exact go_by (fun t k => XS.iand X.here K.hx rfl (hb K.by' hd) rfl k) k

theorem go_ior (K : Ctx p s m meth c Z own nm bytes maxL ret) (X : St p l e R s m args below meth c Z own n0 T cells slots) {x y : Int32} (hd : decode bytes pc = .ok (.ior, 1)) (hp : pc + 1 = pc')
    (k : Go p e below s R n0 Q (T.setTop (mkF m pc' Ls (.int (x ||| y) :: stk)))) : Go p e below s R n0 Q (T.setTop (mkF m pc Ls (.int y :: .int x :: stk))) := by
  subst hp; obtain ⟨vm0, k0, locs, X, hS, hk, hZ0, hown0, N⟩ := X
  exact go_by (fun t k => XS.ior X.here K.hx rfl (hb K.by' hd) rfl k) k

theorem go_ixor (K : Ctx p s m meth c Z own nm bytes maxL ret) (X : St p l e R s m args below meth c Z own n0 T cells slots) {x y : Int32} (hd : decode bytes pc = .ok (.ixor, 1)) (hp : pc + 1 = pc')
    (k : Go p e below s R n0 Q (T.setTop (mkF m pc' Ls (.int (x ^^^ y) :: stk)))) : Go p e below s R n0 Q (T.setTop (mkF m pc Ls (.int y :: .int x :: stk))) := by
  subst hp; obtain ⟨vm0, k0, locs, X, hS, hk, hZ0, hown0, N⟩ := X
  exact go_by (fun t k => XS.ixor X.here K.hx rfl (hb K.by' hd) rfl k) k

theorem go_ishl (K : Ctx p s m meth c Z own nm bytes maxL ret) (X : St p l e R s m args below meth c Z own n0 T cells slots) {x y : Int32} (hd : decode bytes pc = .ok (.ishl, 1)) (hp : pc + 1 = pc')
    (k : Go p e below s R n0 Q (T.setTop (mkF m pc' Ls (.int (x <<< (y &&& 31)) :: stk)))) : Go p e below s R n0 Q (T.setTop (mkF m pc Ls (.int y :: .int x :: stk))) := by
  subst hp; obtain ⟨vm0, k0, locs, X, hS, hk, hZ0, hown0, N⟩ := X
  exact go_by (fun t k => XS.ishl X.here K.hx rfl (hb K.by' hd) rfl k) k

theorem go_ishr (K : Ctx p s m meth c Z own nm bytes maxL ret) (X : St p l e R s m args below meth c Z own n0 T cells slots) {x y : Int32} (hd : decode bytes pc = .ok (.ishr, 1)) (hp : pc + 1 = pc')
    (k : Go p e below s R n0 Q (T.setTop (mkF m pc' Ls (.int (x >>> (y &&& 31)) :: stk)))) : Go p e below s R n0 Q (T.setTop (mkF m pc Ls (.int y :: .int x :: stk))) := by
  subst hp; obtain ⟨vm0, k0, locs, X, hS, hk, hZ0, hown0, N⟩ := X
  exact go_by (fun t k => XS.ishr X.here K.hx rfl (hb K.by' hd) rfl k) k

theorem go_iushr (K : Ctx p s m meth c Z own nm bytes maxL ret) (X : St p l e R s m args below meth c Z own n0 T cells slots) {x y : Int32} (hd : decode bytes pc = .ok (.iushr, 1)) (hp : pc + 1 = pc')
    (k : Go p e below s R n0 Q (T.setTop (mkF m pc' Ls (.int ((x.toUInt32 >>> (y &&& 31).toUInt32).toInt32) :: stk)))) : Go p e below s R n0 Q (T.setTop (mkF m pc Ls (.int y :: .int x :: stk))) := by
  subst hp; obtain ⟨vm0, k0, locs, X, hS, hk, hZ0, hown0, N⟩ := X
  exact go_by (fun t k => XS.iushr X.here K.hx rfl (hb K.by' hd) rfl k) k

theorem go_ladd (K : Ctx p s m meth c Z own nm bytes maxL ret) (X : St p l e R s m args below meth c Z own n0 T cells slots) {x y : Int64} (hd : decode bytes pc = .ok (.ladd, 1)) (hp : pc + 1 = pc')
    (k : Go p e below s R n0 Q (T.setTop (mkF m pc' Ls (.long (x + y) :: stk)))) : Go p e below s R n0 Q (T.setTop (mkF m pc Ls (.long y :: .long x :: stk))) := by
  subst hp; obtain ⟨vm0, k0, locs, X, hS, hk, hZ0, hown0, N⟩ := X
  exact go_by (fun t k => XS.ladd X.here K.hx rfl (hb K.by' hd) rfl k) k

theorem go_lsub (K : Ctx p s m meth c Z own nm bytes maxL ret) (X : St p l e R s m args below meth c Z own n0 T cells slots) {x y : Int64} (hd : decode bytes pc = .ok (.lsub, 1)) (hp : pc + 1 = pc')
    (k : Go p e below s R n0 Q (T.setTop (mkF m pc' Ls (.long (x - y) :: stk)))) : Go p e below s R n0 Q (T.setTop (mkF m pc Ls (.long y :: .long x :: stk))) := by
  subst hp; obtain ⟨vm0, k0, locs, X, hS, hk, hZ0, hown0, N⟩ := X
  exact go_by (fun t k => XS.lsub X.here K.hx rfl (hb K.by' hd) rfl k) k

theorem go_lmul (K : Ctx p s m meth c Z own nm bytes maxL ret) (X : St p l e R s m args below meth c Z own n0 T cells slots) {x y : Int64} (hd : decode bytes pc = .ok (.lmul, 1)) (hp : pc + 1 = pc')
    (k : Go p e below s R n0 Q (T.setTop (mkF m pc' Ls (.long (x * y) :: stk)))) : Go p e below s R n0 Q (T.setTop (mkF m pc Ls (.long y :: .long x :: stk))) := by
  subst hp; obtain ⟨vm0, k0, locs, X, hS, hk, hZ0, hown0, N⟩ := X
  exact go_by (fun t k => XS.lmul X.here K.hx rfl (hb K.by' hd) rfl k) k

theorem go_land (K : Ctx p s m meth c Z own nm bytes maxL ret) (X : St p l e R s m args below meth c Z own n0 T cells slots) {x y : Int64} (hd : decode bytes pc = .ok (.land, 1)) (hp : pc + 1 = pc')
    (k : Go p e below s R n0 Q (T.setTop (mkF m pc' Ls (.long (x &&& y) :: stk)))) : Go p e below s R n0 Q (T.setTop (mkF m pc Ls (.long y :: .long x :: stk))) := by
  subst hp; obtain ⟨vm0, k0, locs, X, hS, hk, hZ0, hown0, N⟩ := X
  exact go_by (fun t k => XS.land X.here K.hx rfl (hb K.by' hd) rfl k) k

theorem go_lor (K : Ctx p s m meth c Z own nm bytes maxL ret) (X : St p l e R s m args below meth c Z own n0 T cells slots) {x y : Int64} (hd : decode bytes pc = .ok (.lor, 1)) (hp : pc + 1 = pc')
    (k : Go p e below s R n0 Q (T.setTop (mkF m pc' Ls (.long (x ||| y) :: stk)))) : Go p e below s R n0 Q (T.setTop (mkF m pc Ls (.long y :: .long x :: stk))) := by
  subst hp; obtain ⟨vm0, k0, locs, X, hS, hk, hZ0, hown0, N⟩ := X
  exact go_by (fun t k => XS.lor X.here K.hx rfl (hb K.by' hd) rfl k) k

theorem go_lxor (K : Ctx p s m meth c Z own nm bytes maxL ret) (X : St p l e R s m args below meth c Z own n0 T cells slots) {x y : Int64} (hd : decode bytes pc = .ok (.lxor, 1)) (hp : pc + 1 = pc')
    (k : Go p e below s R n0 Q (T.setTop (mkF m pc' Ls (.long (x ^^^ y) :: stk)))) : Go p e below s R n0 Q (T.setTop (mkF m pc Ls (.long y :: .long x :: stk))) := by
  subst hp; obtain ⟨vm0, k0, locs, X, hS, hk, hZ0, hown0, N⟩ := X
  exact go_by (fun t k => XS.lxor X.here K.hx rfl (hb K.by' hd) rfl k) k

theorem go_lshl (K : Ctx p s m meth c Z own nm bytes maxL ret) (X : St p l e R s m args below meth c Z own n0 T cells slots) {x : Int64} {y : Int32} (hd : decode bytes pc = .ok (.lshl, 1)) (hp : pc + 1 = pc')
    (k : Go p e below s R n0 Q (T.setTop (mkF m pc' Ls (.long (x <<< (y &&& 0x3f).toInt64) :: stk)))) : Go p e below s R n0 Q (T.setTop (mkF m pc Ls (.int y :: .long x :: stk))) := by
  subst hp; obtain ⟨vm0, k0, locs, X, hS, hk, hZ0, hown0, N⟩ := X
  exact go_by (fun t k => XS.lshl X.here K.hx rfl (hb K.by' hd) rfl k) k

theorem go_lshr (K : Ctx p s m meth c Z own nm bytes maxL ret) (X : St p l e R s m args below meth c Z own n0 T cells slots) {x : Int64} {y : Int32} (hd : decode bytes pc = .ok (.lshr, 1)) (hp : pc + 1 = pc')
    (k : Go p e below s R n0 Q (T.setTop (mkF m pc' Ls (.long (x >>> (y &&& 0x3f).toInt64) :: stk)))) : Go p e below s R n0 Q (T.setTop (mkF m pc Ls (.int y :: .long x :: stk))) := by
  subst hp; obtain ⟨vm0, k0, locs, X, hS, hk, hZ0, hown0, N⟩ := X
  exact go_by (fun t k => XS.lshr X.here K.hx rfl (hb K.by' hd) rfl k) k

theorem go_lushr (K : Ctx p s m meth c Z own nm bytes maxL ret) (X : St p l e R s m args below meth c Z own n0 T cells slots) {x : Int64} {y : Int32} (hd : decode bytes pc = .ok (.lushr, 1)) (hp : pc + 1 = pc')
    (k : Go p e below s R n0 Q (T.setTop (mkF m pc' Ls (.long ((x.toUInt64 >>> (y &&& 0x3f).toInt64.toUInt64).toInt64) :: stk)))) : Go p e below s R n0 Q (T.setTop (mkF m pc Ls (.int y :: .long x :: stk))) := by
  subst hp; obtain ⟨vm0, k0, locs, X, hS, hk, hZ0, hown0, N⟩ := X
  exact go_by (fun t k => XS.lushr X.here K.hx rfl (hb K.by' hd) rfl k) k

theorem go_idiv (K : Ctx p s m meth c Z own nm bytes maxL ret) (X : St p l e R s m args below meth c Z own n0 T cells slots) {x y : Int32} (hd : decode bytes pc = .ok (.idiv, 1)) (hy : y ≠ 0) (hp : pc + 1 = pc')
    (k : Go p e below s R n0 Q (T.setTop (mkF m pc' Ls (.int (x / y) :: stk)))) : Go p e below s R n0 Q (T.setTop (mkF m pc Ls (.int y :: .int x :: stk))) := by
  subst hp; obtain ⟨vm0, k0, locs, X, hS, hk, hZ0, hown0, N⟩ := X
  exact go_by (fun t k => XS.idiv X.here K.hx rfl (hb K.by' hd) rfl hy k) k

theorem go_irem (K : Ctx p s m meth c Z own nm bytes maxL ret) (X : St p l e R s m args below meth c Z own n0 T cells slots) {x y : Int32} (hd : decode bytes pc = .ok (.irem, 1)) (hy : y ≠ 0) (hp : pc + 1 = pc')
    (k : Go p e below s R n0 Q (T.setTop (mkF m pc' Ls (.int (x % y) :: stk)))) : Go p e below s R n0 Q (T.setTop (mkF m pc Ls (.int y :: .int x :: stk))) := by
  subst hp; obtain ⟨vm0, k0, locs, X, hS, hk, hZ0, hown0, N⟩ := X
  exact go_by (fun t k => iremM X K.hx rfl (hb K.by' hd) rfl hy k) k

theorem go_ldiv (K : Ctx p s m meth c Z own nm bytes maxL ret) (X : St p l e R s m args below meth c Z own n0 T cells slots) {x y : Int64} (hd : decode bytes pc = .ok (.ldiv, 1)) (hy : y ≠ 0) (hp : pc + 1 = pc')
    (k : Go p e below s R n0 Q (T.setTop (mkF m pc' Ls (.long (x / y) :: stk)))) : Go p e below s R n0 Q (T.setTop (mkF m pc Ls (.long y :: .long x :: stk))) := by
  subst hp; obtain ⟨vm0, k0, locs, X, hS, hk, hZ0, hown0, N⟩ := X
  exact go_by (fun t k => XS.ldiv X.here K.hx rfl (hb K.by' hd) rfl hy k) k

theorem go_lrem (K : Ctx p s m meth c Z own nm bytes maxL ret) (X : St p l e R s m args below meth c Z own n0 T cells slots) {x y : Int64} (hd : decode bytes pc = .ok (.lrem, 1)) (hy : y ≠ 0) (hp : pc + 1 = pc')
    (k : Go p e below s R n0 Q (T.setTop (mkF m pc' Ls (.long (x - (x / y) * y) :: stk)))) : Go p e below s R n0 Q (T.setTop (mkF m pc Ls (.long y :: .long x :: stk))) := by
  subst hp; obtain ⟨vm0, k0, locs, X, hS, hk, hZ0, hown0, N⟩ := X
  exact go_by (fun t k => XS.lrem X.here K.hx rfl (hb K.by' hd) rfl hy k) k

theorem go_ineg (K : Ctx p s m meth c Z own nm bytes maxL ret) (X : St p l e R s m args below meth c Z own n0 T cells slots) {x : Int32} (hd : decode bytes pc = .ok (.ineg, 1)) (hp : pc + 1 = pc')
    (k : Go p e below s R n0 Q (T.setTop (mkF m pc' Ls (.int (-x) :: stk)))) : Go p e below s R n0 Q (T.setTop (mkF m pc Ls (.int x :: stk))) := by
  subst hp; obtain ⟨vm0, k0, locs, X, hS, hk, hZ0, hown0, N⟩ := X
  exact go_by (fun t k => XS.ineg X.here K.hx rfl (hb K.by' hd) rfl k) k

theorem go_lneg (K : Ctx p s m meth c Z own nm bytes maxL ret) (X : St p l e R s m args below meth c Z own n0 T cells slots) {x : Int64} (hd : decode bytes pc = .ok (.lneg, 1)) (hp : pc + 1 = pc')
    (k : Go p e below s R n0 Q (T.setTop (mkF m pc' Ls (.long (-x) :: stk)))) : Go p e below s R n0 Q (T.setTop (mkF m pc Ls (.long x :: stk))) := by
  subst hp; obtain ⟨vm0, k0, locs, X, hS, hk, hZ0, hown0, N⟩ := X
  exact go_by (fun t k => XS.lneg X.here K.hx rfl (hb K.by' hd) rfl k) k

theorem go_i2b (K : Ctx p s m meth c Z own nm bytes maxL ret) (X : St p l e R s m args below meth c Z own n0 T cells slots) {x : Int32} (hd : decode bytes pc = .ok (.i2b, 1)) (hp : pc + 1 = pc')
    (k : Go p e below s R n0 Q (T.setTop (mkF m pc' Ls (.int (x.toInt8.toInt32) :: stk)))) : Go p e below s R n0 Q (T.setTop (mkF m pc Ls (.int x :: stk))) := by
  subst hp; obtain ⟨vm0, k0, locs, X, hS, hk, hZ0, hown0, N⟩ := X
  exact go_by (fun t k => XS.i2b X.here K.hx rfl (hb K.by' hd) rfl k) k

theorem go_i2c (K : Ctx p s m meth c Z own nm bytes maxL ret) (X : St p l e R s m args below meth c Z own n0 T cells slots) {x : Int32} (hd : decode bytes pc = .ok (.i2c, 1)) (hp : pc + 1 = pc')
    (k : Go p e below s R n0 Q (T.setTop (mkF m pc' Ls (.int (x.toUInt32.toUInt16.toUInt32.toInt32) :: stk)))) : Go p e below s R n0 Q (T.setTop (mkF m pc Ls (.int x :: stk))) := by
  subst hp; obtain ⟨vm0, k0, locs, X, hS, hk, hZ0, hown0, N⟩ := X
  exact go_by (fun t k => XS.i2c X.here K.hx rfl (hb K.by' hd) rfl k) k

theorem go_i2s (K : Ctx p s m meth c Z own nm bytes maxL ret) (X : St p l e R s m args below meth c Z own n0 T cells slots) {x : Int32} (hd : decode bytes pc = .ok (.i2s, 1)) (hp : pc + 1 = pc')
    (k : Go p e below s R n0 Q (T.setTop (mkF m pc' Ls (.int (x.toInt16.toInt32) :: stk)))) : Go p e below s R n0 Q (T.setTop (mkF m pc Ls (.int x :: stk))) := by
  subst hp; obtain ⟨vm0, k0, locs, X, hS, hk, hZ0, hown0, N⟩ := X
  exact go_by (fun t k => XS.i2s X.here K.hx rfl (hb K.by' hd) rfl k) k

theorem go_i2l (K : Ctx p s m meth c Z own nm bytes maxL ret) (X : St p l e R s m args below meth c Z own n0 T cells slots) {x : Int32} (hd : decode bytes pc = .ok (.i2l, 1)) (hp : pc + 1 = pc')
    (k : Go p e below s R n0 Q (T.setTop (mkF m pc' Ls (.long x.toInt64 :: stk)))) : Go p e below s R n0 Q (T.setTop (mkF m pc Ls (.int x :: stk))) := by
  subst hp; obtain ⟨vm0, k0, locs, X, hS, hk, hZ0, hown0, N⟩ := X
  exact go_by (fun t k => XS.i2l X.here K.hx rfl (hb K.by' hd) rfl k) k

theorem go_l2i (K : Ctx p s m meth c Z own nm bytes maxL ret) (X : St p l e R s m args below meth c Z own n0 T cells slots) {x : Int64} (hd : decode bytes pc = .ok (.l2i, 1)) (hp : pc + 1 = pc')
    (k : Go p e below s R n0 Q (T.setTop (mkF m pc' Ls (.int x.toInt32 :: stk)))) : Go p e below s R n0 Q (T.setTop (mkF m pc Ls (.long x :: stk))) := by
  subst hp; obtain ⟨vm0, k0, locs, X, hS, hk, hZ0, hown0, N⟩ := X
  exact go_by (fun t k => XS.l2i X.here K.hx rfl (hb K.by' hd) rfl k) k

theorem go_istoreN (K : Ctx p s m meth c Z own nm bytes maxL ret) (X : St p l e R s m args below meth c Z own n0 T cells slots) {k0 : Fin 4} {v : Int32} (Ls' : Array Slot) (hd : decode bytes pc = .ok (.istore_n k0, 1)) (hl : storeLocals Ls k0.val (.int v) = some Ls') (hp : pc + 1 = pc')
    (k : Go p e below s R n0 Q (T.setTop (mkF m pc' Ls' (stk)))) : Go p e below s R n0 Q (T.setTop (mkF m pc Ls (.int v :: stk))) := by
  subst hp; obtain ⟨vm0, k0, locs, X, hS, hk, hZ0, hown0, N⟩ := X
  exact go_by (fun t k => XS.istoreN X.here K.hx rfl (hb K.by' hd) rfl hl k) k

theorem go_istore (K : Ctx p s m meth c Z own nm bytes maxL ret) (X : St p l e R s m args below meth c Z own n0 T cells slots) {k0 : Nat} {v : Int32} (Ls' : Array Slot) (hd : decode bytes pc = .ok (.istore k0, 2)) (hl : storeLocals Ls k0 (.int v) = some Ls') (hp : pc + 2 = pc')
    (k : Go p e below s R n0 Q (T.setTop (mkF m pc' Ls' (stk)))) : Go p e below s R n0 Q (T.setTop (mkF m pc Ls (.int v :: stk))) := by
  subst hp; obtain ⟨vm0, k0, locs, X, hS, hk, hZ0, hown0, N⟩ := X
  exact go_by (fun t k => XS.istore X.here K.hx rfl (hb K.by' hd) rfl hl k) k

theorem go_lstoreN (K : Ctx p s m meth c Z own nm bytes maxL ret) (X : St p l e R s m args below meth c Z own n0 T cells slots) {k0 : Fin 4} {v : Int64} (Ls' : Array Slot) (hd : decode bytes pc = .ok (.lstore_n k0, 1)) (hl : storeLocals Ls k0.val (.long v) = some Ls') (hp : pc + 1 = pc')
    (k : Go p e below s R n0 Q (T.setTop (mkF m pc' Ls' (stk)))) : Go p e below s R n0 Q (T.setTop (mkF m pc Ls (.long v :: stk))) := by
  subst hp; obtain ⟨vm0, k0, locs, X, hS, hk, hZ0, hown0, N⟩ := X
  exact go_by (fun t k => XS.lstoreN X.here K.hx rfl (hb K.by' hd) rfl hl k) k

theorem go_lstore (K : Ctx p s m meth c Z own nm bytes maxL ret) (X : St p l e R s m args below meth c Z own n0 T cells slots) {k0 : Nat} {v : Int64} (Ls' : Array Slot) (hd : decode bytes pc = .ok (.lstore k0, 2)) (hl : storeLocals Ls k0 (.long v) = some Ls') (hp : pc + 2 = pc')
    (k : Go p e below s R n0 Q (T.setTop (mkF m pc' Ls' (stk)))) : Go p e below s R n0 Q (T.setTop (mkF m pc Ls (.long v :: stk))) := by
  subst hp; obtain ⟨vm0, k0, locs, X, hS, hk, hZ0, hown0, N⟩ := X
  exact go_by (fun t k => XS.lstore X.here K.hx rfl (hb K.by' hd) rfl hl k) k

theorem go_astoreN (K : Ctx p s m meth c Z own nm bytes maxL ret) (X : St p l e R s m args below meth c Z own n0 T cells slots) {k0 : Fin 4} {v : Value} (Ls' : Array Slot) (hd : decode bytes pc = .ok (.astore_n k0, 1)) (hv : v.isRef = true) (hl : storeLocals Ls k0.val v = some Ls') (hp : pc + 1 = pc')
    (k : Go p e below s R n0 Q (T.setTop (mkF m pc' Ls' (stk)))) : Go p e below s R n0 Q (T.setTop (mkF m pc Ls (v :: stk))) := by
  subst hp; obtain ⟨vm0, k0, locs, X, hS, hk, hZ0, hown0, N⟩ := X
  exact go_by (fun t k => XS.astoreN X.here K.hx rfl (hb K.by' hd) rfl hv hl k) k

theorem go_astore (K : Ctx p s m meth c Z own nm bytes maxL ret) (X : St p l e R s m args below meth c Z own n0 T cells slots) {k0 : Nat} {v : Value} (Ls' : Array Slot) (hd : decode bytes pc = .ok (.astore k0, 2)) (hv : v.isRef = true) (hl : storeLocals Ls k0 v = some Ls') (hp : pc + 2 = pc')
    (k : Go p e below s R n0 Q (T.setTop (mkF m pc' Ls' (stk)))) : Go p e below s R n0 Q (T.setTop (mkF m pc Ls (v :: stk))) := by
  subst hp; obtain ⟨vm0, k0, locs, X, hS, hk, hZ0, hown0, N⟩ := X
  exact go_by (fun t k => XS.astore X.here K.hx rfl (hb K.by' hd) rfl hv hl k) k

theorem go_iinc (K : Ctx p s m meth c Z own nm bytes maxL ret) (X : St p l e R s m args below meth c Z own n0 T cells slots) {k0 : Nat} {cst : Int} {x : Int32} (v : Int32) (Ls' : Array Slot) (hd : decode bytes pc = .ok (.iinc k0 cst, 3)) (hv : Int32.ofInt cst = v) (hl : Ls[k0]? = some (.val (.int x))) (hl' : storeLocals Ls k0 (.int (x + v)) = some Ls') (hp : pc + 3 = pc')
    (k : Go p e below s R n0 Q (T.setTop (mkF m pc' Ls' (stk)))) : Go p e below s R n0 Q (T.setTop (mkF m pc Ls (stk))) := by
  subst hp; obtain ⟨vm0, k0, locs, X, hS, hk, hZ0, hown0, N⟩ := X
  exact go_by (fun t k => XT.iincV X.here K.hx rfl v (hb K.by' hd) hv hl hl' k) k

theorem go_dup (K : Ctx p s m meth c Z own nm bytes maxL ret) (X : St p l e R s m args below meth c Z own n0 T cells slots) {x : Value} (hd : decode bytes pc = .ok (.dup, 1)) (hc : x.category = 1) (hp : pc + 1 = pc')
    (k : Go p e below s R n0 Q (T.setTop (mkF m pc' Ls (x :: x :: stk)))) : Go p e below s R n0 Q (T.setTop (mkF m pc Ls (x :: stk))) := by
  subst hp; obtain ⟨vm0, k0, locs, X, hS, hk, hZ0, hown0, N⟩ := X
  exact go_by (fun t k => XS.dup X.here K.hx rfl (hb K.by' hd) rfl hc k) k

theorem go_pop (K : Ctx p s m meth c Z own nm bytes maxL ret) (X : St p l e R s m args below meth c Z own n0 T cells slots) {x : Value} (hd : decode bytes pc = .ok (.pop, 1)) (hc : x.category = 1) (hp : pc + 1 = pc')
    (k : Go p e below s R n0 Q (T.setTop (mkF m pc' Ls (stk)))) : Go p e below s R n0 Q (T.setTop (mkF m pc Ls (x :: stk))) := by
  subst hp; obtain ⟨vm0, k0, locs, X, hS, hk, hZ0, hown0, N⟩ := X
  exact go_by (fun t k => XS.pop X.here K.hx rfl (hb K.by' hd) rfl hc k) k

theorem go_dupX1 (K : Ctx p s m meth c Z own nm bytes maxL ret) (X : St p l e R s m args below meth c Z own n0 T cells slots) {x y : Value} (hd : decode bytes pc = .ok (.dup_x1, 1)) (hc : x.category = 1) (hc' : y.category = 1) (hp : pc + 1 = pc')
    (k : Go p e below s R n0 Q (T.setTop (mkF m pc' Ls (x :: y :: x :: stk)))) : Go p e below s R n0 Q (T.setTop (mkF m pc Ls (x :: y :: stk))) := by
  subst hp; obtain ⟨vm0, k0, locs, X, hS, hk, hZ0, hown0, N⟩ := X
  exact go_by (fun t k => XS.dupX1 X.here K.hx rfl (hb K.by' hd) rfl hc hc' k) k

theorem go_dup2 (K : Ctx p s m meth c Z own nm bytes maxL ret) (X : St p l e R s m args below meth c Z own n0 T cells slots) {x y : Value} (hd : decode bytes pc = .ok (.dup2, 1)) (hc : x.category = 1) (hc' : y.category = 1) (hp : pc + 1 = pc')
    (k : Go p e below s R n0 Q (T.setTop (mkF m pc' Ls (x :: y :: x :: y :: stk)))) : Go p e below s R n0 Q (T.setTop (mkF m pc Ls (x :: y :: stk))) := by
  subst hp; obtain ⟨vm0, k0, locs, X, hS, hk, hZ0, hown0, N⟩ := X
  exact go_by (fun t k => XT.dup2 X.here K.hx rfl (hb K.by' hd) rfl hc hc' k) k

theorem go_dup2L (K : Ctx p s m meth c Z own nm bytes maxL ret) (X : St p l e R s m args below meth c Z own n0 T cells slots) {x : Int64} (hd : decode bytes pc = .ok (.dup2, 1)) (hp : pc + 1 = pc')
    (k : Go p e below s R n0 Q (T.setTop (mkF m pc' Ls (.long x :: .long x :: stk)))) : Go p e below s R n0 Q (T.setTop (mkF m pc Ls (.long x :: stk))) := by
  subst hp; obtain ⟨vm0, k0, locs, X, hS, hk, hZ0, hown0, N⟩ := X
  exact go_by (fun t k => XT.dup2L X.here K.hx rfl (hb K.by' hd) rfl k) k

theorem go_goto (K : Ctx p s m meth c Z own nm bytes maxL ret) (X : St p l e R s m args below meth c Z own n0 T cells slots) {o : Int} (hd : decode bytes pc = .ok (.goto o, 3)) (ho : 0 ≤ (pc : Int) + o) (hp : ((pc : Int) + o).toNat = pt)
    (k : Go p e below s R n0 Q (T.setTop (mkF m pt Ls stk))) : Go p e below s R n0 Q (T.setTop (mkF m pc Ls stk)) := by
  obtain ⟨vm0, k0, locs, X, hS, hk, hZ0, hown0, N⟩ := X
  exact go_by (fun t k => XS.goto X.here K.hx rfl (pc0 := pc) rfl (hb K.by' hd) ho hp k) k
/-- what a taken branch says, and what one says that isn't -/
def cT : ClassFile.Cond → Int32 → Int32 → Prop
  | .eq, x, y => x = y | .ne, x, y => ¬ x = y | .lt, x, y => x < y | .ge, x, y => ¬ x < y | .gt, x, y => y < x | .le, x, y => ¬ y < x
def cF : ClassFile.Cond → Int32 → Int32 → Prop
  | .eq, x, y => ¬ x = y | .ne, x, y => x = y | .lt, x, y => ¬ x < y | .ge, x, y => x < y | .gt, x, y => ¬ y < x | .le, x, y => y < x
theorem cT_or (cd : ClassFile.Cond) (x y : Int32) : cT cd x y ∨ cF cd x y := by
  cases cd <;> simp only [cT, cF] <;> first | exact Decidable.em _ | exact (Decidable.em _).symm
theorem cT_holds {cd : ClassFile.Cond} {x y : Int32} (q : cT cd x y) : if_icmp.holds cd x y = true := by
  cases cd
  · exact XT.ii_eq_t q
  · exact XT.ii_ne_t q
  · exact XT.ii_lt_t q
  · exact XT.ii_ge_t q
  · exact XT.ii_gt_t q
  · exact XT.ii_le_t q
theorem cF_holds {cd : ClassFile.Cond} {x y : Int32} (q : cF cd x y) : if_icmp.holds cd x y = false := by
  cases cd
  · exact XT.ii_eq_f q
  · exact XT.ii_ne_f q
  · exact XT.ii_lt_f q
  · exact XT.ii_ge_f q
  · exact XT.ii_gt_f q
  · exact XT.ii_le_f q
def lT : ClassFile.Cond → Int64 → Int64 → Prop
  | .eq, x, y => x = y | .ne, x, y => ¬ x = y | .lt, x, y => x < y | .ge, x, y => ¬ x < y | .gt, x, y => y < x | .le, x, y => ¬ y < x
def lF : ClassFile.Cond → Int64 → Int64 → Prop
  | .eq, x, y => ¬ x = y | .ne, x, y => x = y | .lt, x, y => ¬ x < y | .ge, x, y => x < y | .gt, x, y => ¬ y < x | .le, x, y => y < x
theorem lT_or (cd : ClassFile.Cond) (x y : Int64) : lT cd x y ∨ lF cd x y := by
  cases cd <;> simp only [lT, lF] <;> first | exact Decidable.em _ | exact (Decidable.em _).symm
theorem lT_holds {cd : ClassFile.Cond} {x y : Int64} (q : lT cd x y) : ifCond.holds cd (XT.cmpL x y) = true := by
  cases cd
  · exact XT.ll_eq_t q
  · exact XT.ll_ne_t q
  · exact XT.ll_lt_t q
  · exact XT.ll_ge_t q
  · exact XT.ll_gt_t q
  · exact XT.ll_le_t q
theorem lF_holds {cd : ClassFile.Cond} {x y : Int64} (q : lF cd x y) : ifCond.holds cd (XT.cmpL x y) = false := by
  cases cd
  · exact XT.ll_eq_f q
  · exact XT.ll_ne_f q
  · exact XT.ll_lt_f q
  · exact XT.ll_ge_f q
  · exact XT.ll_gt_f q
  · exact XT.ll_le_f q

theorem go_icmpT (K : Ctx p s m meth c Z own nm bytes maxL ret) (X : St p l e R s m args below meth c Z own n0 T cells slots) {cd : ClassFile.Cond} {o : Int} {x y : Int32} (hd : decode bytes pc = .ok (.if_icmp cd o, 3)) (ho : 0 ≤ (pc : Int) + o) (hp : ((pc : Int) + o).toNat = pt) (q : cT cd x y)
    (k : Go p e below s R n0 Q (T.setTop (mkF m pt Ls stk))) : Go p e below s R n0 Q (T.setTop (mkF m pc Ls (.int y :: .int x :: stk))) := by
  obtain ⟨vm0, k0, locs, X, hS, hk, hZ0, hown0, N⟩ := X
  exact go_by (fun t k => XS.icmpYes X.here K.hx rfl (pc0 := pc) rfl (hb K.by' hd) rfl (cT_holds q) ho hp k) k
theorem go_icmpF (K : Ctx p s m meth c Z own nm bytes maxL ret) (X : St p l e R s m args below meth c Z own n0 T cells slots) {cd : ClassFile.Cond} {o : Int} {x y : Int32} (hd : decode bytes pc = .ok (.if_icmp cd o, 3)) (hp : pc + 3 = pc') (q : cF cd x y)
    (k : Go p e below s R n0 Q (T.setTop (mkF m pc' Ls stk))) : Go p e below s R n0 Q (T.setTop (mkF m pc Ls (.int y :: .int x :: stk))) := by
  subst hp; obtain ⟨vm0, k0, locs, X, hS, hk, hZ0, hown0, N⟩ := X
  exact go_by (fun t k => XS.icmpNo X.here K.hx rfl (hb K.by' hd) rfl (cF_holds q) k) k
theorem go_icmp (K : Ctx p s m meth c Z own nm bytes maxL ret) (X : St p l e R s m args below meth c Z own n0 T cells slots) {cd : ClassFile.Cond} {o : Int} {x y : Int32} (hd : decode bytes pc = .ok (.if_icmp cd o, 3)) (ho : 0 ≤ (pc : Int) + o) (ht : ((pc : Int) + o).toNat = pt) (hp : pc + 3 = pc')
    (k1 : cT cd x y → Go p e below s R n0 Q (T.setTop (mkF m pt Ls stk))) (k2 : cF cd x y → Go p e below s R n0 Q (T.setTop (mkF m pc' Ls stk))) : Go p e below s R n0 Q (T.setTop (mkF m pc Ls (.int y :: .int x :: stk))) :=
  (cT_or cd _ _).elim (fun q => go_icmpT K X hd ho ht q (k1 q)) (fun q => go_icmpF K X hd hp q (k2 q))

theorem go_ifT (K : Ctx p s m meth c Z own nm bytes maxL ret) (X : St p l e R s m args below meth c Z own n0 T cells slots) {cd : ClassFile.Cond} {o : Int} {x : Int32} (hd : decode bytes pc = .ok (.ifCond cd o, 3)) (ho : 0 ≤ (pc : Int) + o) (hp : ((pc : Int) + o).toNat = pt) (q : cT cd x 0)
    (k : Go p e below s R n0 Q (T.setTop (mkF m pt Ls stk))) : Go p e below s R n0 Q (T.setTop (mkF m pc Ls (.int x :: stk))) := by
  obtain ⟨vm0, k0, locs, X, hS, hk, hZ0, hown0, N⟩ := X
  exact go_by (fun t k => XS.ifYes X.here K.hx rfl (pc0 := pc) rfl (hb K.by' hd) rfl ((if0 _ _).trans (cT_holds q)) ho hp k) k
theorem go_ifF (K : Ctx p s m meth c Z own nm bytes maxL ret) (X : St p l e R s m args below meth c Z own n0 T cells slots) {cd : ClassFile.Cond} {o : Int} {x : Int32} (hd : decode bytes pc = .ok (.ifCond cd o, 3)) (hp : pc + 3 = pc') (q : cF cd x 0)
    (k : Go p e below s R n0 Q (T.setTop (mkF m pc' Ls stk))) : Go p e below s R n0 Q (T.setTop (mkF m pc Ls (.int x :: stk))) := by
  subst hp; obtain ⟨vm0, k0, locs, X, hS, hk, hZ0, hown0, N⟩ := X
  exact go_by (fun t k => XS.ifNo X.here K.hx rfl (hb K.by' hd) rfl ((if0 _ _).trans (cF_holds q)) k) k
theorem go_if (K : Ctx p s m meth c Z own nm bytes maxL ret) (X : St p l e R s m args below meth c Z own n0 T cells slots) {cd : ClassFile.Cond} {o : Int} {x : Int32} (hd : decode bytes pc = .ok (.ifCond cd o, 3)) (ho : 0 ≤ (pc : Int) + o) (ht : ((pc : Int) + o).toNat = pt) (hp : pc + 3 = pc')
    (k1 : cT cd x 0 → Go p e below s R n0 Q (T.setTop (mkF m pt Ls stk))) (k2 : cF cd x 0 → Go p e below s R n0 Q (T.setTop (mkF m pc' Ls stk))) : Go p e below s R n0 Q (T.setTop (mkF m pc Ls (.int x :: stk))) :=
  (cT_or cd _ _).elim (fun q => go_ifT K X hd ho ht q (k1 q)) (fun q => go_ifF K X hd hp q (k2 q))

theorem go_lifT (K : Ctx p s m meth c Z own nm bytes maxL ret) (X : St p l e R s m args below meth c Z own n0 T cells slots) {cd : ClassFile.Cond} {o : Int} {x y : Int64} (hd1 : decode bytes pc = .ok (.lcmp, 1)) (hp : pc + 1 = pc') (hd : decode bytes pc' = .ok (.ifCond cd o, 3)) (ho : 0 ≤ (pc' : Int) + o) (ht : ((pc' : Int) + o).toNat = pt) (q : lT cd x y)
    (k : Go p e below s R n0 Q (T.setTop (mkF m pt Ls stk))) : Go p e below s R n0 Q (T.setTop (mkF m pc Ls (.long y :: .long x :: stk))) := by
  subst hp; obtain ⟨vm0, k0, locs, X, hS, hk, hZ0, hown0, N⟩ := X
  exact go_by (fun t k => XT.lcmp X.here K.hx rfl (hb K.by' hd1) rfl (XS.ifYes X.here K.hx rfl (pc0 := pc + 1) rfl (hb K.by' hd) rfl (lT_holds q) ho ht k)) k
theorem go_lifF (K : Ctx p s m meth c Z own nm bytes maxL ret) (X : St p l e R s m args below meth c Z own n0 T cells slots) {cd : ClassFile.Cond} {o : Int} {x y : Int64} {pn : Nat} (hd1 : decode bytes pc = .ok (.lcmp, 1)) (hp : pc + 1 = pc') (hd : decode bytes pc' = .ok (.ifCond cd o, 3)) (hn : pc' + 3 = pn) (q : lF cd x y)
    (k : Go p e below s R n0 Q (T.setTop (mkF m pn Ls stk))) : Go p e below s R n0 Q (T.setTop (mkF m pc Ls (.long y :: .long x :: stk))) := by
  subst hp hn; obtain ⟨vm0, k0, locs, X, hS, hk, hZ0, hown0, N⟩ := X
  exact go_by (fun t k => XT.lcmp X.here K.hx rfl (hb K.by' hd1) rfl (XS.ifNo X.here K.hx rfl (hb K.by' hd) rfl (lF_holds q) k)) k
theorem go_lif (K : Ctx p s m meth c Z own nm bytes maxL ret) (X : St p l e R s m args below meth c Z own n0 T cells slots) {cd : ClassFile.Cond} {o : Int} {x y : Int64} {pn : Nat} (hd1 : decode bytes pc = .ok (.lcmp, 1)) (hp : pc + 1 = pc') (hd : decode bytes pc' = .ok (.ifCond cd o, 3)) (ho : 0 ≤ (pc' : Int) + o) (ht : ((pc' : Int) + o).toNat = pt) (hn : pc' + 3 = pn)
    (k1 : lT cd x y → Go p e below s R n0 Q (T.setTop (mkF m pt Ls stk))) (k2 : lF cd x y → Go p e below s R n0 Q (T.setTop (mkF m pn Ls stk))) : Go p e below s R n0 Q (T.setTop (mkF m pc Ls (.long y :: .long x :: stk))) :=
  (lT_or cd _ _).elim (fun q => go_lifT K X hd1 hp hd ho ht q (k1 q)) (fun q => go_lifF K X hd1 hp hd hn q (k2 q))
theorem go_nullT (K : Ctx p s m meth c Z own nm bytes maxL ret) (X : St p l e R s m args below meth c Z own n0 T cells slots) {o : Int} (hd : decode bytes pc = .ok (.ifnull o, 3)) (ho : 0 ≤ (pc : Int) + o) (hp : ((pc : Int) + o).toNat = pt)
    (k : Go p e below s R n0 Q (T.setTop (mkF m pt Ls stk))) : Go p e below s R n0 Q (T.setTop (mkF m pc Ls (.null :: stk))) := by
  obtain ⟨vm0, k0, locs, X, hS, hk, hZ0, hown0, N⟩ := X
  exact go_by (fun t k => XS.ifnullYes X.here K.hx rfl (pc0 := pc) rfl (hb K.by' hd) rfl ho hp k) k
theorem go_nullF (K : Ctx p s m meth c Z own nm bytes maxL ret) (X : St p l e R s m args below meth c Z own n0 T cells slots) {o : Int} {a : Addr} (hd : decode bytes pc = .ok (.ifnull o, 3)) (hp : pc + 3 = pc')
    (k : Go p e below s R n0 Q (T.setTop (mkF m pc' Ls stk))) : Go p e below s R n0 Q (T.setTop (mkF m pc Ls (.ref a :: stk))) := by
  subst hp; obtain ⟨vm0, k0, locs, X, hS, hk, hZ0, hown0, N⟩ := X
  exact go_by (fun t k => XS.ifnullNo X.here K.hx rfl (hb K.by' hd) rfl k) k
theorem go_nonnullT (K : Ctx p s m meth c Z own nm bytes maxL ret) (X : St p l e R s m args below meth c Z own n0 T cells slots) {o : Int} {a : Addr} (hd : decode bytes pc = .ok (.ifnonnull o, 3)) (ho : 0 ≤ (pc : Int) + o) (hp : ((pc : Int) + o).toNat = pt)
    (k : Go p e below s R n0 Q (T.setTop (mkF m pt Ls stk))) : Go p e below s R n0 Q (T.setTop (mkF m pc Ls (.ref a :: stk))) := by
  obtain ⟨vm0, k0, locs, X, hS, hk, hZ0, hown0, N⟩ := X
  exact go_by (fun t k => XS.ifnonnullYes X.here K.hx rfl (pc0 := pc) rfl (hb K.by' hd) rfl ho hp k) k
theorem go_nonnullF (K : Ctx p s m meth c Z own nm bytes maxL ret) (X : St p l e R s m args below meth c Z own n0 T cells slots) {o : Int} (hd : decode bytes pc = .ok (.ifnonnull o, 3)) (hp : pc + 3 = pc')
    (k : Go p e below s R n0 Q (T.setTop (mkF m pc' Ls stk))) : Go p e below s R n0 Q (T.setTop (mkF m pc Ls (.null :: stk))) := by
  subst hp; obtain ⟨vm0, k0, locs, X, hS, hk, hZ0, hown0, N⟩ := X
  exact go_by (fun t k => XS.ifnonnullNo X.here K.hx rfl (hb K.by' hd) rfl k) k
theorem go_acmpT (K : Ctx p s m meth c Z own nm bytes maxL ret) (X : St p l e R s m args below meth c Z own n0 T cells slots) {cd : ClassFile.ACond} {o : Int} {x y : Value} (hd : decode bytes pc = .ok (.if_acmp cd o, 3)) (ho : 0 ≤ (pc : Int) + o) (hp : ((pc : Int) + o).toNat = pt) (h1 : x.isRef = true) (h2 : y.isRef = true) (q : XT.acmp cd x y = true)
    (k : Go p e below s R n0 Q (T.setTop (mkF m pt Ls stk))) : Go p e below s R n0 Q (T.setTop (mkF m pc Ls (y :: x :: stk))) := by
  obtain ⟨vm0, k0, locs, X, hS, hk, hZ0, hown0, N⟩ := X
  exact go_by (fun t k => XT.acmpYes X.here K.hx rfl (pc0 := pc) rfl (hb K.by' hd) rfl h1 h2 q ho hp k) k
theorem go_acmpF (K : Ctx p s m meth c Z own nm bytes maxL ret) (X : St p l e R s m args below meth c Z own n0 T cells slots) {cd : ClassFile.ACond} {o : Int} {x y : Value} (hd : decode bytes pc = .ok (.if_acmp cd o, 3)) (hp : pc + 3 = pc') (h1 : x.isRef = true) (h2 : y.isRef = true) (q : XT.acmp cd x y = false)
    (k : Go p e below s R n0 Q (T.setTop (mkF m pc' Ls stk))) : Go p e below s R n0 Q (T.setTop (mkF m pc Ls (y :: x :: stk))) := by
  subst hp; obtain ⟨vm0, k0, locs, X, hS, hk, hZ0, hown0, N⟩ := X
  exact go_by (fun t k => XT.acmpNo X.here K.hx rfl (hb K.by' hd) rfl h1 h2 q k) k
/-- the return -/
theorem go_retV (K : Ctx p s m meth c Z own nm bytes maxL ret) (X : St p l e R s m args below meth c Z own n0 T cells slots) {w : Value} {t : FieldType} {i : Instr} (hret : ret = some t) (hn : narrow t w = w)
    (hi : (i = .ireturn ∧ (t = .int ∨ t = .boolean ∨ t = .byte ∨ t = .char ∨ t = .short) ∧ ∃ z, w = .int z) ∨ (i = .lreturn ∧ t = .long ∧ ∃ z, w = .long z) ∨ (i = .dreturn ∧ t = .double ∧ ∃ z, w = .double z) ∨ (i = .freturn ∧ t = .float ∧ ∃ z, w = .float z) ∨ (i = .areturn ∧ t.isReference = true ∧ w.isRef = true))
    (hd : decode bytes pc = .ok (i, 1)) (hc : cells ≤ R.cells) (hs : slots ≤ R.slots) (q : Q (some w) T.heap) : Go p e below s R n0 Q (T.setTop (mkF m pc Ls (w :: stk))) := by
  obtain ⟨vm0, k0, locs, X, hS, hk, hZ0, hown0, N⟩ := X
  obtain ⟨fs, hr, hrun, hended, -, hW, hbk, hsame⟩ := X.leaveW hS hk (v := some w) (fun h => by rw [K.ret', hret] at h; cases h) K.locks
  exact ⟨_, _, retOut X K.hx (K.ret'.trans hret) hn hi (hb K.by' hd) hr, hrun, hended, _, _, rfl, ⟨q, N⟩, ⟨_, rfl⟩, hW, hbk, hsame.mono hc hs⟩
theorem go_retI (K : Ctx p s m meth c Z own nm bytes maxL (some .int)) (X : St p l e R s m args below meth c Z own n0 T cells slots) {z : Int32} (hd : decode bytes pc = .ok (.ireturn, 1)) (hc : cells ≤ R.cells) (hs : slots ≤ R.slots) (q : Q (some (.int z)) T.heap) : Go p e below s R n0 Q (T.setTop (mkF m pc Ls (.int z :: stk))) :=
  go_retV K X rfl rfl (Or.inl ⟨rfl, Or.inl rfl, z, rfl⟩) hd hc hs q
theorem go_retZ (K : Ctx p s m meth c Z own nm bytes maxL (some .boolean)) (X : St p l e R s m args below meth c Z own n0 T cells slots) {z : Int32} (hz : z = 0 ∨ z = 1) (hd : decode bytes pc = .ok (.ireturn, 1)) (hc : cells ≤ R.cells) (hs : slots ≤ R.slots) (q : Q (some (.int z)) T.heap) : Go p e below s R n0 Q (T.setTop (mkF m pc Ls (.int z :: stk))) :=
  go_retV K X rfl (by rcases hz with rfl | rfl <;> rfl) (Or.inl ⟨rfl, Or.inr (Or.inl rfl), z, rfl⟩) hd hc hs q
theorem go_retJ (K : Ctx p s m meth c Z own nm bytes maxL (some .long)) (X : St p l e R s m args below meth c Z own n0 T cells slots) {z : Int64} (hd : decode bytes pc = .ok (.lreturn, 1)) (hc : cells ≤ R.cells) (hs : slots ≤ R.slots) (q : Q (some (.long z)) T.heap) : Go p e below s R n0 Q (T.setTop (mkF m pc Ls (.long z :: stk))) :=
  go_retV K X rfl rfl (Or.inr (Or.inl ⟨rfl, rfl, z, rfl⟩)) hd hc hs q
theorem go_retA (K : Ctx p s m meth c Z own nm bytes maxL (some t)) (X : St p l e R s m args below meth c Z own n0 T cells slots) {w : Value} (ht : t.isReference = true) (hw : w.isRef = true) (hn : narrow t w = w) (hd : decode bytes pc = .ok (.areturn, 1)) (hc : cells ≤ R.cells) (hs : slots ≤ R.slots) (q : Q (some w) T.heap) : Go p e below s R n0 Q (T.setTop (mkF m pc Ls (w :: stk))) :=
  go_retV K X rfl hn (Or.inr (Or.inr (Or.inr (Or.inr ⟨rfl, ht, hw⟩)))) hd hc hs q
theorem go_ret (K : Ctx p s m meth c Z own nm bytes maxL none) (X : St p l e R s m args below meth c Z own n0 T cells slots) (hd : decode bytes pc = .ok (.return_, 1)) (hc : cells ≤ R.cells) (hs : slots ≤ R.slots) (q : Q none T.heap) : Go p e below s R n0 Q (T.setTop (mkF m pc Ls [])) := by
  obtain ⟨vm0, k0, locs, X, hS, hk, hZ0, hown0, N⟩ := X
  obtain ⟨fs, hr, hrun, hended, -, hW, hbk, hsame⟩ := X.leaveW hS hk (v := none) (fun _ => rfl) K.locks
  exact ⟨_, _, X.returnOut K.hx K.ret' (hb K.by' hd) hr, hrun, hended, _, _, rfl, ⟨q, N⟩, ⟨_, rfl⟩, hW, hbk, hsame.mono hc hs⟩

/-! ## the heap -/
theorem go_getF (K : Ctx p s m meth c Z own nm bytes maxL ret) (X : St p l e R s m args below meth c Z own n0 T cells slots) {R0 O n d host : String} {index : Nat} (w : (Cond.fieldLink own index R0 n d).before a0 Z = true ∨ (Cond.fieldLinkNest own index R0 n d host).before a0 Z = true) (via : Via Z R0 O n d) (eT : T.heap = h) {a : Addr} {v : Value} (F : Fld Z h a O n d v) (hd : decode bytes pc = .ok (.getfield index, 3)) (hp : pc + 3 = pc')
    (k : ∀ T', St p l e R s m args below meth c Z own n0 T' cells slots → T'.heap = h → Go p e below s R n0 Q (T'.setTop (mkF m pc' Ls (v :: stk)))) : Go p e below s R n0 Q (T.setTop (mkF m pc Ls (.ref a :: stk))) := by
  subst hp; obtain ⟨vm0, k0, locs, X, hS, hk, hZ0, hown0, N⟩ := X
  obtain ⟨T', X', e', st⟩ := getF X K.hx hZ0 hown0 w via eT F (g := mkF m pc Ls (.ref a :: stk)) rfl rfl (hb K.by' hd)
  exact go_by st (k T' ⟨vm0, k0, locs, X', hS, by rw [e', ← eT]; exact hk, hZ0, hown0, N⟩ e')
theorem go_getS (K : Ctx p s m meth c Z own nm bytes maxL ret) (X : St p l e R s m args below meth c Z own n0 T cells slots) {R0 O n d host : String} {index : Nat} (w : (Cond.fieldLink own index R0 n d).before a0 Z = true ∨ (Cond.fieldLinkNest own index R0 n d host).before a0 Z = true) (via : Via Z R0 O n d) (eT : T.heap = h) {v : Value} (F : Sta Z h O n d v) (hd : decode bytes pc = .ok (.getstatic index, 3)) (hp : pc + 3 = pc')
    (k : ∀ T', St p l e R s m args below meth c Z own n0 T' cells slots → T'.heap = h → Go p e below s R n0 Q (T'.setTop (mkF m pc' Ls (v :: stk)))) : Go p e below s R n0 Q (T.setTop (mkF m pc Ls stk)) := by
  subst hp; obtain ⟨vm0, k0, locs, X, hS, hk, hZ0, hown0, N⟩ := X
  obtain ⟨T', X', e', st⟩ := getS2 X K.hx hZ0 hown0 w via eT F (g := mkF m pc Ls stk) rfl (hb K.by' hd)
  exact go_by st (k T' ⟨vm0, k0, locs, X', hS, by rw [e', ← eT]; exact hk, hZ0, hown0, N⟩ e')
theorem go_putF (K : Ctx p s m meth c Z own nm bytes maxL ret) (X : St p l e R s m args below meth c Z own n0 T cells slots) {R0 O n d host C : String} {index kk : Nat} {ty : FieldType} (w : (Cond.fieldLink own index R0 n d).before a0 Z = true ∨ (Cond.fieldLinkNest own index R0 n d host).before a0 Z = true) (via : Via Z R0 O n d) (eT : T.heap = h) {a : Addr} {v old : Value} (F : Fld Z h a O n d old) (E : Exa Z h a C)
    (L : (Cond.lays C O n d).before a0 Z = true ∨ ((Cond.laysFinal C O n d).before a0 Z = true ∧ own = O ∧ nm = "<init>")) (wi : (Cond.instantiable C kk).before a0 Z = true) (hty : parseFieldDescriptor d = some ty) (hn : narrow ty v = v) (hf : fits ty v = true) (ge : n0 ≤ a) (hd : decode bytes pc = .ok (.putfield index, 3)) (hp : pc + 3 = pc')
    (k : ∀ T' h', St p l e R s m args below meth c Z own n0 T' cells slots → T'.heap = h' → Wr h h' a (Jvm.RoadKit.slotOf Z O n d) v → Go p e below s R n0 Q (T'.setTop (mkF m pc' Ls stk))) : Go p e below s R n0 Q (T.setTop (mkF m pc Ls (v :: .ref a :: stk))) := by
  subst hp; obtain ⟨vm0, k0, locs, X, hS, hk, hZ0, hown0, N⟩ := X
  obtain ⟨T', h', X', e', W', st⟩ := putF X K.hx hZ0 hown0 w via eT F E (L.imp id fun q => ⟨q.1, q.2.1, K.nm'.trans q.2.2⟩) wi hty hn hf (g := mkF m pc Ls (v :: .ref a :: stk)) rfl rfl (hb K.by' hd)
  exact go_by st (k T' h' ⟨vm0, k0, _, X', hS, by rw [e', W'.size, ← eT]; exact hk, hZ0, hown0, Fr.snoc X' N ge⟩ e' W')
theorem go_new (K : Ctx p s m meth c Z own nm bytes maxL ret) (X : St p l e R s m args below meth c Z own n0 T cells slots) {C : String} {index n : Nat} (w : (Cond.classLink own index C).before a0 Z = true) (wi : (Cond.instantiable C n).before a0 Z = true) (wz : (Cond.initialized C).before a0 Z = true) (eT : T.heap = h) (hd : decode bytes pc = .ok (.new index, 3)) (hp : pc + 3 = pc') (hc' : cells + 1 = cells') (hs' : slots + n = slots') (hc : cells' ≤ R.cells) (hs : slots' ≤ R.slots)
    (k : ∀ T' h' a, a = h.size → St p l e R s m args below meth c Z own n0 T' cells' slots' → T'.heap = h' → Ext h h' → Exa Z h' a C → (∀ {O nm d : String} {ty : FieldType}, Laid Z a0 C O nm d → parseFieldDescriptor d = some ty → Fld Z h' a O nm d (defaultValue ty)) → Go p e below s R n0 Q (T'.setTop (mkF m pc' Ls (.ref a :: stk)))) : Go p e below s R n0 Q (T.setTop (mkF m pc Ls stk)) := by
  subst hp hc' hs'; obtain ⟨vm0, k0, locs, X, hS, hk, hZ0, hown0, N⟩ := X
  obtain ⟨T', h', X', e', E', A', D', -, st⟩ := newO X K.hx hZ0 hown0 w wi wz eT (g := mkF m pc Ls stk) rfl (hb K.by' hd) hc hs
  exact go_by st (k T' h' _ rfl ⟨vm0, k0, _, X', hS, by rw [e']; exact Nat.le_trans (by rw [← eT]; exact hk) E'.1, hZ0, hown0, N⟩ e' E' A' D')
theorem go_initO (K : Ctx p s m meth c Z own nm bytes maxL ret) (X : St p l e R s m args below meth c Z own n0 T cells slots) {idx : Nat} {a : Addr} (w1 : (Cond.methodLink own idx Lib.objectInit).before a0 Z = true) (w2 : (Cond.instanceMethod Lib.objectInit).before a0 Z = true) (w3 : (Cond.code Lib.objectInit ⟨#[0xb1]⟩ 1 none).before a0 Z = true) (eT : T.heap = h) (hsize : Ls.size = maxL) (hd : decode bytes pc = .ok (.invokespecial idx, 3)) (hp : pc + 3 = pc')
    (hf : 1 ≤ R.frames) {W : Nat} (hW : (stk.map fun v => v.category).sum ≤ W) (hl : W + 12 ≤ R.locals)
    (k : ∀ T', St p l e R s m args below meth c Z own n0 T' cells slots → T'.heap = h → Go p e below s R n0 Q (T'.setTop (mkF m pc' Ls stk))) : Go p e below s R n0 Q (T.setTop (mkF m pc Ls (.ref a :: stk))) := by
  subst hp; obtain ⟨vm0, k0, locs, X, hS, hk, hZ0, hown0, N⟩ := X
  obtain ⟨T', X', e', st⟩ := initO X K.hx hZ0 hown0 w1 w2 w3 eT (g := mkF m pc Ls (.ref a :: stk)) rfl (by rw [K.ml]; exact hsize) rfl (hb K.by' hd) hf (W := W) (by show 2 * 0 + _ ≤ _; omega) hl
  exact go_by st (k T' ⟨vm0, k0, _, X', hS, by rw [e', ← eT]; exact hk, hZ0, hown0, N⟩ e')
theorem go_cast (K : Ctx p s m meth c Z own nm bytes maxL ret) (X : St p l e R s m args below meth c Z own n0 T cells slots) {C : String} {index : Nat} (w : (Cond.classLink own index C).before a0 Z = true) (eT : T.heap = h) {a : Addr} (F : Ins Z h a C true) (hd : decode bytes pc = .ok (.checkcast index, 3)) (hp : pc + 3 = pc')
    (k : ∀ T', St p l e R s m args below meth c Z own n0 T' cells slots → T'.heap = h → Go p e below s R n0 Q (T'.setTop (mkF m pc' Ls (.ref a :: stk)))) : Go p e below s R n0 Q (T.setTop (mkF m pc Ls (.ref a :: stk))) := by
  subst hp; obtain ⟨vm0, k0, locs, X, hS, hk, hZ0, hown0, N⟩ := X
  obtain ⟨T', X', e', st⟩ := castY X K.hx hZ0 hown0 w eT F (g := mkF m pc Ls (.ref a :: stk)) rfl rfl (hb K.by' hd)
  exact go_by st (k T' ⟨vm0, k0, _, X', hS, by rw [e', ← eT]; exact hk, hZ0, hown0, N⟩ e')
theorem go_instY (K : Ctx p s m meth c Z own nm bytes maxL ret) (X : St p l e R s m args below meth c Z own n0 T cells slots) {C : String} {index : Nat} (w : (Cond.classLink own index C).before a0 Z = true) (eT : T.heap = h) {a : Addr} (F : Ins Z h a C true) (hd : decode bytes pc = .ok (.instanceof index, 3)) (hp : pc + 3 = pc')
    (k : ∀ T', St p l e R s m args below meth c Z own n0 T' cells slots → T'.heap = h → Go p e below s R n0 Q (T'.setTop (mkF m pc' Ls (.int 1 :: stk)))) : Go p e below s R n0 Q (T.setTop (mkF m pc Ls (.ref a :: stk))) := by
  subst hp; obtain ⟨vm0, k0, locs, X, hS, hk, hZ0, hown0, N⟩ := X
  obtain ⟨T', X', e', st⟩ := instY X K.hx hZ0 hown0 w eT F (g := mkF m pc Ls (.ref a :: stk)) rfl rfl (hb K.by' hd)
  exact go_by st (k T' ⟨vm0, k0, _, X', hS, by rw [e', ← eT]; exact hk, hZ0, hown0, N⟩ e')
theorem go_instN (K : Ctx p s m meth c Z own nm bytes maxL ret) (X : St p l e R s m args below meth c Z own n0 T cells slots) {C C' : String} {index : Nat} (w : (Cond.classLink own index C).before a0 Z = true) (eT : T.heap = h) {a : Addr} (E : Exa Z h a C') (F : ∃ c t, Z.vm.findClass C' = some c ∧ Z.vm.findClass C = some t ∧ Z.vm.assignable c t = false) (hd : decode bytes pc = .ok (.instanceof index, 3)) (hp : pc + 3 = pc')
    (k : ∀ T', St p l e R s m args below meth c Z own n0 T' cells slots → T'.heap = h → Go p e below s R n0 Q (T'.setTop (mkF m pc' Ls (.int 0 :: stk)))) : Go p e below s R n0 Q (T.setTop (mkF m pc Ls (.ref a :: stk))) := by
  subst hp; obtain ⟨vm0, k0, locs, X, hS, hk, hZ0, hown0, N⟩ := X
  obtain ⟨T', X', e', st⟩ := instNo X K.hx hZ0 hown0 w eT E F (g := mkF m pc Ls (.ref a :: stk)) rfl rfl (hb K.by' hd)
  exact go_by st (k T' ⟨vm0, k0, _, X', hS, by rw [e', ← eT]; exact hk, hZ0, hown0, N⟩ e')

/-! ## arrays -/
/-- at a lies an array of ty that holds just vs -/
def AV (Z : State) (h : Heap) (a : Addr) (ty : FieldType) (vs : List Value) : Prop := ∃ cl : Cell, Arr Z h a cl ty ∧ cl.slots = vs.toArray ∧ vs.length < 2 ^ 31
theorem AV.lt {a : Addr} {ty : FieldType} {vs : List Value} (F : AV Z h a ty vs) : a < h.size := by obtain ⟨cl, A, -⟩ := F; exact A.lt
theorem AV.keep {a : Addr} {ty : FieldType} {vs : List Value} {ws : List Addr} (F : AV Z h a ty vs) (K : Keep h h' ws) (q : a ∉ ws) : AV Z h' a ty vs := by
  obtain ⟨cl, A, r⟩ := F; exact ⟨cl, ⟨K.2.1 _ _ A.1 q, A.2⟩, r⟩
theorem AV.ext {a : Addr} {ty : FieldType} {vs : List Value} (F : AV Z h a ty vs) (E : Ext h h') : AV Z h' a ty vs := by
  obtain ⟨cl, A, r⟩ := F; exact ⟨cl, A.ext E, r⟩
theorem AV.len {a : Addr} {ty : FieldType} {vs : List Value} (F : AV Z h a ty vs) : vs.length < 2 ^ 31 := by obtain ⟨cl, -, -, r⟩ := F; exact r
theorem idx_nat {j : Int32} {i : Nat} (hj : j.toInt = (i : Int)) : j.toNatClampNeg = i ∧ ¬ j < 0 := by
  have h1 : j.toNatClampNeg = j.toInt.toNat := rfl
  have h2 : ¬ j < 0 := by rw [XT.negI32]; omega
  exact ⟨by rw [h1, hj]; rfl, h2⟩
theorem AV.in {a : Addr} {ty : FieldType} {vs : List Value} {cl : Cell} {j : Int32} {i : Nat} (hs : cl.slots = vs.toArray) (hj : j.toInt = (i : Int)) (hi : i < vs.length) : ¬ (j < 0 ∨ cl.slots.size ≤ j.toNatClampNeg) := by
  obtain ⟨h1, h2⟩ := idx_nat hj
  rintro (q | q)
  · exact h2 q
  · rw [h1, hs] at q
    simp at q
    omega
theorem AV.get {vs : List Value} {cl : Cell} {j : Int32} {i : Nat} {v : Value} (hs : cl.slots = vs.toArray) (hj : j.toInt = (i : Int)) (hv : vs[i]? = some v) : cl.slots[j.toNatClampNeg]? = some v := by
  rw [(idx_nat hj).1, hs]; simpa using hv
theorem AV.set {a : Addr} {ty : FieldType} {vs : List Value} {cl : Cell} {i : Nat} {v : Value} (A : Arr Z h a cl ty) (hs : cl.slots = vs.toArray) (hl : vs.length < 2 ^ 31) (W : Wr h h' a i v) : AV Z h' a ty (vs.set i v) := by
  refine ⟨_, A.same W, ?_, by simpa using hl⟩
  show cl.slots.setIfInBounds i v = _
  rw [hs]; simp
theorem lt_of_get {vs : List Value} {i : Nat} {v : Value} (hv : vs[i]? = some v) : i < vs.length := (List.getElem?_eq_some_iff.mp hv).1

theorem go_iaload (K : Ctx p s m meth c Z own nm bytes maxL ret) (X : St p l e R s m args below meth c Z own n0 T cells slots) (eT : T.heap = h) {a : Addr} {vs : List Value} {j : Int32} {i : Nat} {v : Value} (F : AV Z h a .int vs) (hj : j.toInt = (i : Int)) (hv : vs[i]? = some v) (hd : decode bytes pc = .ok (.iaload, 1)) (hp : pc + 1 = pc')
    (k : Go p e below s R n0 Q (T.setTop (mkF m pc' Ls (v :: stk)))) : Go p e below s R n0 Q (T.setTop (mkF m pc Ls (.int j :: .ref a :: stk))) := by
  subst hp; obtain ⟨vm0, k0, locs, X, hS, hk, hZ0, hown0, N⟩ := X; obtain ⟨cl, A, hs, hl⟩ := F
  exact go_by (fun t k => X.iaload K.hx (by rw [eT]; exact A.1) (State.isArrayOf_alike hZ0.alike A.2.1) A.2.2 (AV.in (a := a) (ty := .int) hs hj (lt_of_get hv)) (AV.get hs hj hv) (g := mkF m pc Ls (.int j :: .ref a :: stk)) rfl rfl (hb K.by' hd) t k) k

theorem go_laload (K : Ctx p s m meth c Z own nm bytes maxL ret) (X : St p l e R s m args below meth c Z own n0 T cells slots) (eT : T.heap = h) {a : Addr} {vs : List Value} {j : Int32} {i : Nat} {v : Value} (F : AV Z h a .long vs) (hj : j.toInt = (i : Int)) (hv : vs[i]? = some v) (hd : decode bytes pc = .ok (.laload, 1)) (hp : pc + 1 = pc')
    (k : Go p e below s R n0 Q (T.setTop (mkF m pc' Ls (v :: stk)))) : Go p e below s R n0 Q (T.setTop (mkF m pc Ls (.int j :: .ref a :: stk))) := by
  subst hp; obtain ⟨vm0, k0, locs, X, hS, hk, hZ0, hown0, N⟩ := X; obtain ⟨cl, A, hs, hl⟩ := F
  exact go_by (fun t k => X.laload K.hx (by rw [eT]; exact A.1) (State.isArrayOf_alike hZ0.alike A.2.1) A.2.2 (AV.in (a := a) (ty := .long) hs hj (lt_of_get hv)) (AV.get hs hj hv) (g := mkF m pc Ls (.int j :: .ref a :: stk)) rfl rfl (hb K.by' hd) t k) k

theorem go_caload (K : Ctx p s m meth c Z own nm bytes maxL ret) (X : St p l e R s m args below meth c Z own n0 T cells slots) (eT : T.heap = h) {a : Addr} {vs : List Value} {j : Int32} {i : Nat} {v : Value} (F : AV Z h a .char vs) (hj : j.toInt = (i : Int)) (hv : vs[i]? = some v) (hd : decode bytes pc = .ok (.caload, 1)) (hp : pc + 1 = pc')
    (k : Go p e below s R n0 Q (T.setTop (mkF m pc' Ls (v :: stk)))) : Go p e below s R n0 Q (T.setTop (mkF m pc Ls (.int j :: .ref a :: stk))) := by
  subst hp; obtain ⟨vm0, k0, locs, X, hS, hk, hZ0, hown0, N⟩ := X; obtain ⟨cl, A, hs, hl⟩ := F
  exact go_by (fun t k => X.caload K.hx (by rw [eT]; exact A.1) (State.isArrayOf_alike hZ0.alike A.2.1) A.2.2 (AV.in (a := a) (ty := .char) hs hj (lt_of_get hv)) (AV.get hs hj hv) (g := mkF m pc Ls (.int j :: .ref a :: stk)) rfl rfl (hb K.by' hd) t k) k

theorem go_baloadB (K : Ctx p s m meth c Z own nm bytes maxL ret) (X : St p l e R s m args below meth c Z own n0 T cells slots) (eT : T.heap = h) {a : Addr} {vs : List Value} {j : Int32} {i : Nat} {v : Value} (F : AV Z h a .byte vs) (hj : j.toInt = (i : Int)) (hv : vs[i]? = some v) (hd : decode bytes pc = .ok (.baload, 1)) (hp : pc + 1 = pc')
    (k : Go p e below s R n0 Q (T.setTop (mkF m pc' Ls (v :: stk)))) : Go p e below s R n0 Q (T.setTop (mkF m pc Ls (.int j :: .ref a :: stk))) := by
  subst hp; obtain ⟨vm0, k0, locs, X, hS, hk, hZ0, hown0, N⟩ := X; obtain ⟨cl, A, hs, hl⟩ := F
  exact go_by (fun t k => X.baloadBytes K.hx (by rw [eT]; exact A.1) (State.isArrayOf_alike hZ0.alike A.2.1) A.2.2 (AV.in (a := a) (ty := .byte) hs hj (lt_of_get hv)) (AV.get hs hj hv) (g := mkF m pc Ls (.int j :: .ref a :: stk)) rfl rfl (hb K.by' hd) t k) k

theorem go_baloadZ (K : Ctx p s m meth c Z own nm bytes maxL ret) (X : St p l e R s m args below meth c Z own n0 T cells slots) (eT : T.heap = h) {a : Addr} {vs : List Value} {j : Int32} {i : Nat} {v : Value} (F : AV Z h a .boolean vs) (hj : j.toInt = (i : Int)) (hv : vs[i]? = some v) (hd : decode bytes pc = .ok (.baload, 1)) (hp : pc + 1 = pc')
    (k : Go p e below s R n0 Q (T.setTop (mkF m pc' Ls (v :: stk)))) : Go p e below s R n0 Q (T.setTop (mkF m pc Ls (.int j :: .ref a :: stk))) := by
  subst hp; obtain ⟨vm0, k0, locs, X, hS, hk, hZ0, hown0, N⟩ := X; obtain ⟨cl, A, hs, hl⟩ := F
  exact go_by (fun t k => X.baloadBooleans K.hx (by rw [eT]; exact A.1) (State.isArrayOf_alike hZ0.alike A.2.1) A.2.2 (AV.in (a := a) (ty := .boolean) hs hj (lt_of_get hv)) (AV.get hs hj hv) (g := mkF m pc Ls (.int j :: .ref a :: stk)) rfl rfl (hb K.by' hd) t k) k

theorem go_aaload (K : Ctx p s m meth c Z own nm bytes maxL ret) (X : St p l e R s m args below meth c Z own n0 T cells slots) (eT : T.heap = h) {a : Addr} {ty : FieldType} {vs : List Value} {j : Int32} {i : Nat} {v : Value} (F : AV Z h a ty vs) (hj : j.toInt = (i : Int)) (hv : vs[i]? = some v) (hty : ty.isReference = true) (hd : decode bytes pc = .ok (.aaload, 1)) (hp : pc + 1 = pc')
    (k : Go p e below s R n0 Q (T.setTop (mkF m pc' Ls (v :: stk)))) : Go p e below s R n0 Q (T.setTop (mkF m pc Ls (.int j :: .ref a :: stk))) := by
  subst hp; obtain ⟨vm0, k0, locs, X, hS, hk, hZ0, hown0, N⟩ := X; obtain ⟨cl, A, hs, hl⟩ := F
  exact go_by (fun t k => X.aaload K.hx (by rw [eT]; exact A.1) (State.isArrayOf_alike hZ0.alike A.2.1) hty A.2.2 (AV.in (a := a) (ty := ty) hs hj (lt_of_get hv)) (AV.get hs hj hv) (g := mkF m pc Ls (.int j :: .ref a :: stk)) rfl rfl (hb K.by' hd) t k) k
theorem go_arraylength (K : Ctx p s m meth c Z own nm bytes maxL ret) (X : St p l e R s m args below meth c Z own n0 T cells slots) (eT : T.heap = h) {a : Addr} {ty : FieldType} {vs : List Value} {z : Int32} (F : AV Z h a ty vs) (hz : vs.length.toInt32 = z) (hd : decode bytes pc = .ok (.arraylength, 1)) (hp : pc + 1 = pc')
    (k : Go p e below s R n0 Q (T.setTop (mkF m pc' Ls (.int z :: stk)))) : Go p e below s R n0 Q (T.setTop (mkF m pc Ls (.ref a :: stk))) := by
  subst hp hz; obtain ⟨vm0, k0, locs, X, hS, hk, hZ0, hown0, N⟩ := X; obtain ⟨cl, A, hs, hl⟩ := F
  refine go_by (fun t k => X.arraylength K.hx (by rw [eT]; exact A.1) (State.isArrayOf_alike hZ0.alike A.2.1) (g := mkF m pc Ls (.ref a :: stk)) rfl rfl (hb K.by' hd) t ?_) k
  rw [show cl.slots.size = vs.length by rw [hs]; simp]; exact k

theorem go_iastore (K : Ctx p s m meth c Z own nm bytes maxL ret) (X : St p l e R s m args below meth c Z own n0 T cells slots) (eT : T.heap = h) {a : Addr} {vs : List Value} {j : Int32} {x : Int32} {i : Nat} (F : AV Z h a .int vs) (hj : j.toInt = (i : Int)) (hi : i < vs.length) (ge : n0 ≤ a) (hd : decode bytes pc = .ok (.iastore, 1)) (hp : pc + 1 = pc')
    (k : ∀ T' h', St p l e R s m args below meth c Z own n0 T' cells slots → T'.heap = h' → Wr h h' a i (.int x) → AV Z h' a .int (vs.set i (.int x)) → Go p e below s R n0 Q (T'.setTop (mkF m pc' Ls stk))) : Go p e below s R n0 Q (T.setTop (mkF m pc Ls (.int x :: .int j :: .ref a :: stk))) := by
  subst hp; obtain ⟨vm0, k0, locs, X, hS, hk, hZ0, hown0, N⟩ := X; obtain ⟨cl, A, hs, hl⟩ := F
  obtain ⟨T', h', X', e', W', st⟩ := stI X K.hx hZ0 eT A (AV.in (a := a) (ty := .int) hs hj hi) (g := mkF m pc Ls (.int x :: .int j :: .ref a :: stk)) rfl rfl (hb K.by' hd)
  have W2 := W'; rw [(idx_nat hj).1] at W2
  exact go_by st (k T' h' ⟨vm0, k0, _, X', hS, by rw [e', W'.size, ← eT]; exact hk, hZ0, hown0, Fr.snoc X' N ge⟩ e' W2 (AV.set A hs hl W2))

theorem go_lastore (K : Ctx p s m meth c Z own nm bytes maxL ret) (X : St p l e R s m args below meth c Z own n0 T cells slots) (eT : T.heap = h) {a : Addr} {vs : List Value} {j : Int32} {x : Int64} {i : Nat} (F : AV Z h a .long vs) (hj : j.toInt = (i : Int)) (hi : i < vs.length) (ge : n0 ≤ a) (hd : decode bytes pc = .ok (.lastore, 1)) (hp : pc + 1 = pc')
    (k : ∀ T' h', St p l e R s m args below meth c Z own n0 T' cells slots → T'.heap = h' → Wr h h' a i (.long x) → AV Z h' a .long (vs.set i (.long x)) → Go p e below s R n0 Q (T'.setTop (mkF m pc' Ls stk))) : Go p e below s R n0 Q (T.setTop (mkF m pc Ls (.long x :: .int j :: .ref a :: stk))) := by
  subst hp; obtain ⟨vm0, k0, locs, X, hS, hk, hZ0, hown0, N⟩ := X; obtain ⟨cl, A, hs, hl⟩ := F
  obtain ⟨T', h', X', e', W', st⟩ := stJ X K.hx hZ0 eT A (AV.in (a := a) (ty := .long) hs hj hi) (g := mkF m pc Ls (.long x :: .int j :: .ref a :: stk)) rfl rfl (hb K.by' hd)
  have W2 := W'; rw [(idx_nat hj).1] at W2
  exact go_by st (k T' h' ⟨vm0, k0, _, X', hS, by rw [e', W'.size, ← eT]; exact hk, hZ0, hown0, Fr.snoc X' N ge⟩ e' W2 (AV.set A hs hl W2))

theorem go_bastoreB (K : Ctx p s m meth c Z own nm bytes maxL ret) (X : St p l e R s m args below meth c Z own n0 T cells slots) (eT : T.heap = h) {a : Addr} {vs : List Value} {j x : Int32} {i : Nat} (F : AV Z h a .byte vs) (hj : j.toInt = (i : Int)) (hi : i < vs.length) (hx' : nar .byte x = x) (ge : n0 ≤ a) (hd : decode bytes pc = .ok (.bastore, 1)) (hp : pc + 1 = pc')
    (k : ∀ T' h', St p l e R s m args below meth c Z own n0 T' cells slots → T'.heap = h' → Wr h h' a i (.int x) → AV Z h' a .byte (vs.set i (.int x)) → Go p e below s R n0 Q (T'.setTop (mkF m pc' Ls stk))) : Go p e below s R n0 Q (T.setTop (mkF m pc Ls (.int x :: .int j :: .ref a :: stk))) := by
  subst hp; obtain ⟨vm0, k0, locs, X, hS, hk, hZ0, hown0, N⟩ := X; obtain ⟨cl, A, hs, hl⟩ := F
  obtain ⟨T', h', X', e', W', st⟩ := stB X K.hx hZ0 eT A (AV.in (a := a) (ty := .byte) hs hj hi) (g := mkF m pc Ls (.int x :: .int j :: .ref a :: stk)) rfl rfl (hb K.by' hd)
  have W2 := W'; rw [(idx_nat hj).1, hx'] at W2
  exact go_by st (k T' h' ⟨vm0, k0, _, X', hS, by rw [e', W'.size, ← eT]; exact hk, hZ0, hown0, Fr.snoc X' N ge⟩ e' W2 (AV.set A hs hl W2))

theorem go_bastoreZ (K : Ctx p s m meth c Z own nm bytes maxL ret) (X : St p l e R s m args below meth c Z own n0 T cells slots) (eT : T.heap = h) {a : Addr} {vs : List Value} {j x : Int32} {i : Nat} (F : AV Z h a .boolean vs) (hj : j.toInt = (i : Int)) (hi : i < vs.length) (hx' : nar .boolean x = x) (ge : n0 ≤ a) (hd : decode bytes pc = .ok (.bastore, 1)) (hp : pc + 1 = pc')
    (k : ∀ T' h', St p l e R s m args below meth c Z own n0 T' cells slots → T'.heap = h' → Wr h h' a i (.int x) → AV Z h' a .boolean (vs.set i (.int x)) → Go p e below s R n0 Q (T'.setTop (mkF m pc' Ls stk))) : Go p e below s R n0 Q (T.setTop (mkF m pc Ls (.int x :: .int j :: .ref a :: stk))) := by
  subst hp; obtain ⟨vm0, k0, locs, X, hS, hk, hZ0, hown0, N⟩ := X; obtain ⟨cl, A, hs, hl⟩ := F
  obtain ⟨T', h', X', e', W', st⟩ := stZ X K.hx hZ0 eT A (AV.in (a := a) (ty := .boolean) hs hj hi) (g := mkF m pc Ls (.int x :: .int j :: .ref a :: stk)) rfl rfl (hb K.by' hd)
  have W2 := W'; rw [(idx_nat hj).1, hx'] at W2
  exact go_by st (k T' h' ⟨vm0, k0, _, X', hS, by rw [e', W'.size, ← eT]; exact hk, hZ0, hown0, Fr.snoc X' N ge⟩ e' W2 (AV.set A hs hl W2))

theorem go_castore (K : Ctx p s m meth c Z own nm bytes maxL ret) (X : St p l e R s m args below meth c Z own n0 T cells slots) (eT : T.heap = h) {a : Addr} {vs : List Value} {j x : Int32} {i : Nat} (F : AV Z h a .char vs) (hj : j.toInt = (i : Int)) (hi : i < vs.length) (hx' : nar .char x = x) (ge : n0 ≤ a) (hd : decode bytes pc = .ok (.castore, 1)) (hp : pc + 1 = pc')
    (k : ∀ T' h', St p l e R s m args below meth c Z own n0 T' cells slots → T'.heap = h' → Wr h h' a i (.int x) → AV Z h' a .char (vs.set i (.int x)) → Go p e below s R n0 Q (T'.setTop (mkF m pc' Ls stk))) : Go p e below s R n0 Q (T.setTop (mkF m pc Ls (.int x :: .int j :: .ref a :: stk))) := by
  subst hp; obtain ⟨vm0, k0, locs, X, hS, hk, hZ0, hown0, N⟩ := X; obtain ⟨cl, A, hs, hl⟩ := F
  obtain ⟨T', h', X', e', W', st⟩ := stC X K.hx hZ0 eT A (AV.in (a := a) (ty := .char) hs hj hi) (g := mkF m pc Ls (.int x :: .int j :: .ref a :: stk)) rfl rfl (hb K.by' hd)
  have W2 := W'; rw [(idx_nat hj).1, hx'] at W2
  exact go_by st (k T' h' ⟨vm0, k0, _, X', hS, by rw [e', W'.size, ← eT]; exact hk, hZ0, hown0, Fr.snoc X' N ge⟩ e' W2 (AV.set A hs hl W2))

theorem go_aastore (K : Ctx p s m meth c Z own nm bytes maxL ret) (X : St p l e R s m args below meth c Z own n0 T cells slots) (eT : T.heap = h) {a : Addr} {ty : FieldType} {vs : List Value} {j : Int32} {v : Value} {i : Nat} (F : AV Z h a ty vs) (hj : j.toInt = (i : Int)) (hi : i < vs.length) (hty : ty.isReference = true) (S : Sto Z h a v) (ge : n0 ≤ a) (hd : decode bytes pc = .ok (.aastore, 1)) (hp : pc + 1 = pc')
    (k : ∀ T' h', St p l e R s m args below meth c Z own n0 T' cells slots → T'.heap = h' → Wr h h' a i v → AV Z h' a ty (vs.set i v) → Go p e below s R n0 Q (T'.setTop (mkF m pc' Ls stk))) : Go p e below s R n0 Q (T.setTop (mkF m pc Ls (v :: .int j :: .ref a :: stk))) := by
  subst hp; obtain ⟨vm0, k0, locs, X, hS, hk, hZ0, hown0, N⟩ := X; obtain ⟨cl, A, hs, hl⟩ := F
  obtain ⟨T', h', X', e', W', st⟩ := stR X K.hx hZ0 eT A (AV.in (a := a) (ty := ty) hs hj hi) hty S (g := mkF m pc Ls (v :: .int j :: .ref a :: stk)) rfl rfl (hb K.by' hd)
  have W2 := W'; rw [(idx_nat hj).1] at W2
  exact go_by st (k T' h' ⟨vm0, k0, _, X', hS, by rw [e', W'.size, ← eT]; exact hk, hZ0, hown0, Fr.snoc X' N ge⟩ e' W2 (AV.set A hs hl W2))
theorem go_newarray (K : Ctx p s m meth c Z own nm bytes maxL ret) (X : St p l e R s m args below meth c Z own n0 T cells slots) {aty : ArrayType} (w : (Cond.arrayClass (newarray.typeOf aty)).before a0 Z = true) (eT : T.heap = h) {j : Int32} {i cap : Nat} (hd : decode bytes pc = .ok (.newarray aty, 2)) (hj : j.toInt = (i : Int)) (hcap : i ≤ cap) (hb' : cap * 8 ≤ 536870912) (hp : pc + 2 = pc') (hc' : cells + 1 = cells') (hs' : slots + cap = slots') (hc : cells' ≤ R.cells) (hs : slots' ≤ R.slots)
    (k : ∀ T' h' a, a = h.size → St p l e R s m args below meth c Z own n0 T' cells' slots' → T'.heap = h' → Ext h h' → AV Z h' a (newarray.typeOf aty) (List.replicate i (defaultValue (newarray.typeOf aty))) → Go p e below s R n0 Q (T'.setTop (mkF m pc' Ls (.ref a :: stk)))) : Go p e below s R n0 Q (T.setTop (mkF m pc Ls (.int j :: stk))) := by
  subst hp hc' hs'; obtain ⟨vm0, k0, locs, X, hS, hk, hZ0, hown0, N⟩ := X
  obtain ⟨h1, h2⟩ := idx_nat hj
  obtain ⟨T', h', cA, X', e', E', A', st⟩ := newP X K.hx hZ0 w eT (g := mkF m pc Ls (.int j :: stk)) rfl (hb K.by' hd) rfl h2 (cap := cap) (by rw [h1]; exact hcap) hb' hc hs
  refine go_by st (k T' h' _ rfl ⟨vm0, k0, _, X', hS, by rw [e']; exact Nat.le_trans (by rw [← eT]; exact hk) E'.1, hZ0, hown0, N⟩ e' E' ⟨_, A', ?_, ?_⟩)
  · show Array.replicate _ _ = _
    rw [h1]; simp
  · have := j.toInt_lt; rw [hj] at this; simp; omega

theorem nat32 {n : Nat} (h : n < 2 ^ 31) : n.toInt32.toNatClampNeg = n ∧ ¬ n.toInt32 < 0 := idx_nat (len_toInt h)
theorem AV.toArv {a : Addr} {ty : FieldType} {vs : List Value} (F : AV Z h a ty vs) (hf : ∀ v ∈ vs, fits ty v = true) (dv : Value) : ∃ k, Arv Z h a k ty vs.length.toInt32 vs dv := by
  obtain ⟨cl, A, hs, hl⟩ := F
  have hz : cl.slots.size = vs.length := by rw [hs]; simp
  refine ⟨cl.cls, cl, A, rfl, by rw [hz, (nat32 hl).1], (nat32 hl).2, fun i hi => ?_, fun i hi => ?_⟩
  · rw [hz] at hi
    rw [hs]; simp [List.getD, hi]
  · rw [hz] at hi
    have : vs.getD i dv = vs[i] := by simp [List.getD, hi]
    rw [this]; exact hf _ (List.getElem_mem hi)
theorem Arv.toAV {a : Addr} {k : ClassId} {ty : FieldType} {z : Int32} {vs : List Value} {dv : Value} (F : Arv Z h a k ty z vs dv) (hl : z.toNatClampNeg = vs.length) : AV Z h a ty vs := by
  obtain ⟨cl, A, -, hs, hn, H, -⟩ := F
  refine ⟨cl, A, ?_, ?_⟩
  · apply Array.ext
    · rw [hs, hl]; simp
    · intro i h1 h2
      have := H i h1
      have h3 : i < vs.length := by rw [hs, hl] at h1; exact h1
      rw [Array.getElem?_eq_getElem h1] at this
      have e := Option.some.inj this
      rw [e]; simp [List.getD, h3]
  · rw [← hl]; exact (back32 hn).2
theorem go_newarrayE (K : Ctx p s m meth c Z own nm bytes maxL ret) (X : St p l e R s m args below meth c Z own n0 T cells slots) {aty : ArrayType} {ad : String} (had : "[" ++ (newarray.typeOf aty).toString = ad) (w : (Cond.arrayClass (newarray.typeOf aty)).before a0 Z = true) (eT : T.heap = h) {j : Int32} {i cap : Nat} (hd : decode bytes pc = .ok (.newarray aty, 2)) (hj : j.toInt = (i : Int)) (hcap : i ≤ cap) (hb' : cap * 8 ≤ 536870912) (hp : pc + 2 = pc') (hc' : cells + 1 = cells') (hs' : slots + cap = slots') (hc : cells' ≤ R.cells) (hs : slots' ≤ R.slots)
    (k : ∀ T' h' a, a = h.size → St p l e R s m args below meth c Z own n0 T' cells' slots' → T'.heap = h' → Ext h h' → AV Z h' a (newarray.typeOf aty) (List.replicate i (defaultValue (newarray.typeOf aty))) → Exa Z h' a ad → Go p e below s R n0 Q (T'.setTop (mkF m pc' Ls (.ref a :: stk)))) : Go p e below s R n0 Q (T.setTop (mkF m pc Ls (.int j :: stk))) := by
  subst hp hc' hs'; obtain ⟨vm0, k0, locs, X, hS, hk, hZ0, hown0, N⟩ := X
  obtain ⟨h1, h2⟩ := idx_nat hj
  obtain ⟨T', h', cA, X', e', E', A', x', st⟩ := newPE X K.hx hZ0 w eT (g := mkF m pc Ls (.int j :: stk)) rfl (hb K.by' hd) rfl h2 (cap := cap) (by rw [h1]; exact hcap) hb' hc hs had
  refine go_by st (k T' h' _ rfl ⟨vm0, k0, _, X', hS, by rw [e']; exact Nat.le_trans (by rw [← eT]; exact hk) E'.1, hZ0, hown0, N⟩ e' E' ⟨_, A', ?_, ?_⟩ x')
  · show Array.replicate _ _ = _
    rw [h1]; simp
  · have := j.toInt_lt; rw [hj] at this; simp; omega
theorem go_clone (K : Ctx p s m meth c Z own nm bytes maxL ret) (X : St p l e R s m args below meth c Z own n0 T cells slots) {ad : String} {index : Nat} (w1 : (Cond.methodLink own index ⟨ad, "clone", "()Ljava/lang/Object;"⟩).before a0 Z = true) (w2 : (Cond.sameMethod ad "java/lang/Object" "clone" "()Ljava/lang/Object;").before a0 Z = true) (w3 : (Cond.native ⟨"java/lang/Object", "clone", "()Ljava/lang/Object;"⟩).before a0 Z = true)
    (w4 : (Cond.instanceMethod ⟨"java/lang/Object", "clone", "()Ljava/lang/Object;"⟩).before a0 Z = true) (w5 : (Cond.selects ad ⟨ad, "clone", "()Ljava/lang/Object;"⟩ ⟨"java/lang/Object", "clone", "()Ljava/lang/Object;"⟩).before a0 Z = true) (w6 : (Cond.castable ad "java/lang/Cloneable").before a0 Z = true)
    (eT : T.heap = h) {a : Addr} {ty : FieldType} {vs : List Value} (F : AV Z h a ty vs) (E : Exa Z h a ad) (hfit : ∀ v ∈ vs, fits ty v = true) (hsize : Ls.size = maxL) (hd : decode bytes pc = .ok (.invokevirtual index, 3)) (hp : pc + 3 = pc')
    (hf : 1 ≤ R.frames) {W cap : Nat} (hW : (stk.map fun v => v.category).sum ≤ W) (hl : W + 14 ≤ R.locals) (hcap : vs.length ≤ cap) (hc' : cells + 1 = cells') (hs' : slots + cap = slots') (hc : cells' ≤ R.cells) (hs : slots' ≤ R.slots)
    (k : ∀ T' h' b, b = h.size → St p l e R s m args below meth c Z own n0 T' cells' slots' → T'.heap = h' → Ext h h' → AV Z h' b ty vs → Exa Z h' b ad → Go p e below s R n0 Q (T'.setTop (mkF m pc' Ls (.ref b :: stk)))) : Go p e below s R n0 Q (T.setTop (mkF m pc Ls (.ref a :: stk))) := by
  subst hp hc' hs'; obtain ⟨vm0, k0, locs, X, hS, hk, hZ0, hown0, N⟩ := X
  obtain ⟨kk, V⟩ := F.toArv hfit .null
  have hlen := F.len
  obtain ⟨T', h', X', e', E', V', x', st⟩ := cloneH X K.hx hZ0 hown0 w1 w2 w3 w4 w5 w6 eT (Arv.arh V) E (g := mkF m pc Ls (.ref a :: stk)) rfl (by rw [K.ml]; exact hsize) rfl (hb K.by' hd) hf (W := W) (by show 2 * 0 + _ ≤ _; omega) hl (cap := cap) (by rw [(nat32 hlen).1]; exact hcap) hc hs
  exact go_by st (k T' h' _ rfl ⟨vm0, k0, _, X', hS, by rw [e']; exact Nat.le_trans (by rw [← eT]; exact hk) E'.1, hZ0, hown0, N⟩ e' E' (Arv.toAV V' (nat32 hlen).1) x')
theorem go_arraycopy (K : Ctx p s m meth c Z own nm bytes maxL ret) (X : St p l e R s m args below meth c Z own n0 T cells slots) {index : Nat} (w1 : (Cond.methodLink own index Jvm.Stand.acN).before a0 Z = true) (w2 : (Cond.native Jvm.Stand.acN).before a0 Z = true) (w3 : (Cond.static Jvm.Stand.acN).before a0 Z = true) (w4 : (Cond.initialized "java/lang/System").before a0 Z = true)
    (eT : T.heap = h) {a b : Addr} {ty : FieldType} {vs vd us : List Value} {sp dp nn : Int32} {i j n : Nat} (F : AV Z h a ty vs) (G : AV Z h b ty vd) (hty : refKind ty = false) (hf1 : ∀ v ∈ vs, fits ty v = true) (hf2 : ∀ v ∈ vd, fits ty v = true) (hi : sp.toInt = (i : Int)) (hj : dp.toInt = (j : Int)) (hn : nn.toInt = (n : Int)) (h4 : i + n ≤ vs.length) (h5 : j + n ≤ vd.length) (hus : us = vd.take j ++ (vs.drop i).take n ++ vd.drop (j + n)) (ge : n0 ≤ b) (hsize : Ls.size = maxL) (hd : decode bytes pc = .ok (.invokestatic index, 3)) (hp : pc + 3 = pc')
    (hf : 1 ≤ R.frames) {W : Nat} (hW : (stk.map fun v => v.category).sum ≤ W) (hlo : W + (nativeFrameWords "java/lang/System" "arraycopy" 5 + 11) ≤ R.locals)
    (k : ∀ T' h', St p l e R s m args below meth c Z own n0 T' cells slots → T'.heap = h' → Keep h h' [b] → AV Z h' b ty us → Go p e below s R n0 Q (T'.setTop (mkF m pc' Ls stk))) : Go p e below s R n0 Q (T.setTop (mkF m pc Ls (.int nn :: .int dp :: .ref b :: .int sp :: .ref a :: stk))) := by
  subst hp; obtain ⟨vm0, k0, locs, X, hS, hk, hZ0, hown0, N⟩ := X
  obtain ⟨k1, V1⟩ := F.toArv hf1 .null
  obtain ⟨k2, V2⟩ := G.toArv hf2 .null
  obtain ⟨i1, i2⟩ := idx_nat hi
  obtain ⟨j1, j2⟩ := idx_nat hj
  obtain ⟨n1, n2⟩ := idx_nat hn
  have l1 := (nat32 F.len).1
  have l2 := (nat32 G.len).1
  have e3 : (List.range n).map (fun q => vs.getD (i + q) .null) = (vs.drop i).take n := by
    apply List.ext_getElem
    · simp; omega
    · intro q h6 h7
      have : q < n := by simpa using h6
      have h8 : i + q < vs.length := by omega
      simp [List.getD, h8]
  obtain ⟨T', h', L', X', e', N', KK, V', st⟩ := cpA X K.hx hZ0 hown0 w1 w2 w3 w4 eT V1 V2 (Or.inl ⟨rfl, hty⟩) i2 j2 n2 (by rw [i1, n1, l1]; exact h4) (by rw [j1, n1, l2]; exact h5) rfl (by rw [j1, n1]; exact h5) N ge (g := mkF m pc Ls (.int nn :: .int dp :: .ref b :: .int sp :: .ref a :: stk)) rfl (by rw [K.ml]; exact hsize) rfl (hb K.by' hd) hf (W := W) (by show 2 * 0 + _ ≤ _; omega) hlo
  rw [i1, j1, n1, e3, ← hus] at V'
  have hl : us.length = vd.length := by rw [hus]; simp; omega
  exact go_by st (k T' h' ⟨vm0, k0, _, X', hS, by rw [e']; exact Nat.le_trans (by rw [← eT]; exact hk) KK.1, hZ0, hown0, N'⟩ e' KK (Arv.toAV V' (by rw [l2, hl])))

theorem go_ldcS (K : Ctx p s m meth c Z own nm bytes maxL ret) (X : St p l e R s m args below meth c Z own n0 T cells slots) {text : String} {index n : Nat} (w : (Cond.stringLink own index text).before a0 Z = true) (wS : ∀ a ∈ Bundle.stringAtoms, a.before a0 Z = true) (eT : T.heap = h) (hd : decode bytes pc = .ok (.ldc index, 2)) (hp : pc + 2 = pc') (hn : 4 * text.toList.length ≤ n) (hbig : n ≤ 536870912) (hc' : cells + 2 = cells') (hs' : slots + (n + 4) = slots') (hc : cells' ≤ R.cells) (hs : slots' ≤ R.slots)
    (k : ∀ T' h' a, St p l e R s m args below meth c Z own n0 T' cells' slots' → T'.heap = h' → Ext h h' → Go p e below s R n0 Q (T'.setTop (mkF m pc' Ls (.ref a :: stk)))) : Go p e below s R n0 Q (T.setTop (mkF m pc Ls stk)) := by
  subst hp hc' hs'; obtain ⟨vm0, k0, locs, X, hS, hk, hZ0, hown0, N⟩ := X
  obtain ⟨a, T', h', k1, X', e', E', hS', hk', hZ', hown', st⟩ := ldcS X K.hx hZ0 hown0 w wS eT hS (by rw [← eT]; exact hk) (g := mkF m pc Ls stk) rfl (hb K.by' hd) hn hbig hc hs
  exact go_by st (k T' h' a ⟨T'.vm, k1, _, X', hS', by rw [e']; exact hk', hZ', hown', N⟩ e' E')
/-! ## calls: the callee's contract pays -/
theorem go_static (K : Ctx p s m meth c Z own nm bytes maxL ret) (X : St p l e R s m args below meth c Z own n0 T cells slots) {index : Nat} {y : MethodName} {bytes' : ByteArray} {maxL' : Nat} {ret' : Option FieldType} {rm : Room} {Q' : Option Value → Heap → Prop} {argsL st0 : List Value}
    (w1 : (Cond.methodLink own index y).before a0 Z = true) (w2 : (Cond.static y).before a0 Z = true) (w3 : (Cond.initialized y.cls).before a0 Z = true) (w4 : (Cond.code y bytes' maxL' ret').before a0 Z = true) (hy : y.cls ≠ "java/lang/invoke/MethodHandle" ∧ y.cls ≠ "java/lang/invoke/VarHandle")
    (hlen : ∀ sig, parseMethodDescriptor y.desc = some sig → argsL.length = sig.parameters.length) (eT : T.heap = h) (C : Con l Z n0 y bytes' maxL' ret' rm argsL.toArray h Q') (hst : st0 = argsL.reverse ++ stk) (hsize : Ls.size = maxL) (hd : decode bytes pc = .ok (.invokestatic index, 3)) (hp : pc + 3 = pc')
    (hf : rm.frames + 1 ≤ R.frames) {W : Nat} (hW : (stk.map fun v => v.category).sum ≤ W) (hl : W + (maxL' + 11) + rm.locals ≤ R.locals) (hc' : cells + rm.cells = cells') (hs' : slots + rm.slots = slots') (hc : cells' ≤ R.cells) (hs : slots' ≤ R.slots)
    (k : ∀ T' h' v, St p l e R s m args below meth c Z own n0 T' cells' slots' → T'.heap = h' → Q' v h' → Go p e below s R n0 Q (T'.setTop (mkF m pc' Ls (v.toList ++ stk)))) : Go p e below s R n0 Q (T.setTop (mkF m pc Ls st0)) := by
  subst hp hc' hs' hst; obtain ⟨vm0, k0, locs, X, hS, hk, hZ0, hown0, N⟩ := X
  obtain ⟨_, _, ⟨T1, L1, k1, n1⟩, -, X1, hS1, hg1, ⟨Lc1, hQ1, l1, y1, z1⟩, st1⟩ := callSS X K.hx hown0 (mvT hZ0 w1) (mvT hZ0 w2) (mvT hZ0 w3) (mvT hZ0 w4) hy (backOfS (s := s.setVm vm0) (W := W) (Q := fun v u L => Q' v u ∧ Fr n0 L) (C []) hZ0 w4 w3 hf hl) (g := mkF m pc Ls (argsL.reverse ++ stk)) rfl (by rw [K.ml]; exact hsize) (argsL := argsL) (rest := stk) hlen rfl (by show 2 * 0 + _ ≤ _; omega) (hb K.by' hd) (fun _ _ => ⟨rfl, eT, hc, hs⟩)
  dsimp only [Pt.U, Pt.locs, Pt.cells, Pt.slots] at X1 hS1 hg1 l1 y1 z1 st1 hQ1
  subst l1 y1 z1
  exact go_by (fun t k => st1.trans k) (k T1 _ _ ⟨T1.vm, T1.heap.size, _, X1, hS.trans hS1 (Nat.le_trans hk hg1), Nat.le_refl _, State.Warmed39.trans (t := s.setVm vm0) hZ0 hS1.1, (hS1.1.alike.findClass _ _).trans hown0, Fr.app N hQ1.2⟩ rfl hQ1.1)

theorem go_init (K : Ctx p s m meth c Z own nm bytes maxL ret) (X : St p l e R s m args below meth c Z own n0 T cells slots) {index : Nat} {y : MethodName} {bytes' : ByteArray} {maxL' : Nat} {rm : Room} {Q' : Option Value → Heap → Prop} {a : Addr} {argsL st0 : List Value}
    (w1 : (Cond.methodLink own index y).before a0 Z = true) (w2 : (Cond.instanceMethod y).before a0 Z = true) (w3 : (Cond.initialized y.cls).before a0 Z = true) (w4 : (Cond.code y bytes' maxL' none).before a0 Z = true) (hy : y.cls ≠ "java/lang/invoke/MethodHandle" ∧ y.cls ≠ "java/lang/invoke/VarHandle") (hi : y.name = "<init>")
    (hlen : ∀ sig, parseMethodDescriptor y.desc = some sig → argsL.length = sig.parameters.length) (eT : T.heap = h) (C : Con l Z n0 y bytes' maxL' none rm (.ref a :: argsL).toArray h Q') (hst : st0 = argsL.reverse ++ .ref a :: stk) (hsize : Ls.size = maxL) (hd : decode bytes pc = .ok (.invokespecial index, 3)) (hp : pc + 3 = pc')
    (hf : rm.frames + 1 ≤ R.frames) {W : Nat} (hW : (stk.map fun v => v.category).sum ≤ W) (hl : W + (maxL' + 11) + rm.locals ≤ R.locals) (hc' : cells + rm.cells = cells') (hs' : slots + rm.slots = slots') (hc : cells' ≤ R.cells) (hs : slots' ≤ R.slots)
    (k : ∀ T' h' v, St p l e R s m args below meth c Z own n0 T' cells' slots' → T'.heap = h' → Q' v h' → Go p e below s R n0 Q (T'.setTop (mkF m pc' Ls (v.toList ++ stk)))) : Go p e below s R n0 Q (T.setTop (mkF m pc Ls st0)) := by
  subst hp hc' hs' hst; obtain ⟨vm0, k0, locs, X, hS, hk, hZ0, hown0, N⟩ := X
  obtain ⟨_, _, ⟨T1, L1, k1, n1⟩, -, X1, hS1, hg1, ⟨Lc1, hQ1, l1, y1, z1⟩, st1⟩ := X.specialBackS K.hx hi hown0 (mvT hZ0 w1) (mvT hZ0 w2) (mvT hZ0 w4) hy (backOfS (s := s.setVm vm0) (W := W) (Q := fun v u L => Q' v u ∧ Fr n0 L) (C []) hZ0 w4 w3 hf hl) (g := mkF m pc Ls (argsL.reverse ++ .ref a :: stk)) rfl (by rw [K.ml]; exact hsize) (Steps.refl _) (a := a) (argsL := argsL) (rest := stk) hlen rfl (by show 2 * 0 + _ ≤ _; omega) (hb K.by' hd) (fun _ _ => ⟨rfl, eT, hc, hs⟩)
  dsimp only [Pt.U, Pt.locs, Pt.cells, Pt.slots] at X1 hS1 hg1 l1 y1 z1 st1 hQ1
  subst l1 y1 z1
  exact go_by (fun t k => st1.trans k) (k T1 _ _ ⟨T1.vm, T1.heap.size, _, X1, hS.trans hS1 (Nat.le_trans hk hg1), Nat.le_refl _, State.Warmed39.trans (t := s.setVm vm0) hZ0 hS1.1, (hS1.1.alike.findClass _ _).trans hown0, Fr.app N hQ1.2⟩ rfl hQ1.1)

theorem go_virt (K : Ctx p s m meth c Z own nm bytes maxL ret) (X : St p l e R s m args below meth c Z own n0 T cells slots) {C : String} {index : Nat} {y z : MethodName} {bytes' : ByteArray} {maxL' : Nat} {ret' : Option FieldType} {rm : Room} {Q' : Option Value → Heap → Prop} {a : Addr} {argsL st0 : List Value}
    (w1 : (Cond.methodLink own index y).before a0 Z = true) (w2 : (Cond.declares y).before a0 Z = true) (wn : (Cond.selects y.cls y y).before a0 Z = true) (w3 : (Cond.selects C y z).before a0 Z = true) (w4 : (Cond.instanceMethod z).before a0 Z = true) (w5 : (Cond.code z bytes' maxL' ret').before a0 Z = true) (w6 : (Cond.initialized z.cls).before a0 Z = true) (hy : y.cls ≠ "java/lang/invoke/MethodHandle" ∧ y.cls ≠ "java/lang/invoke/VarHandle")
    (hlen : ∀ sig, parseMethodDescriptor y.desc = some sig → argsL.length = sig.parameters.length) (eT : T.heap = h) (E : Exa Z h a C) (C0 : Con l Z n0 z bytes' maxL' ret' rm (.ref a :: argsL).toArray h Q') (hst : st0 = argsL.reverse ++ .ref a :: stk) (hsize : Ls.size = maxL) (hd : decode bytes pc = .ok (.invokevirtual index, 3)) (hp : pc + 3 = pc')
    (hf : rm.frames + 1 ≤ R.frames) {W : Nat} (hW : (stk.map fun v => v.category).sum ≤ W) (hl : W + (maxL' + 11) + rm.locals ≤ R.locals) (hc' : cells + rm.cells = cells') (hs' : slots + rm.slots = slots') (hc : cells' ≤ R.cells) (hs : slots' ≤ R.slots)
    (k : ∀ T' h' v, St p l e R s m args below meth c Z own n0 T' cells' slots' → T'.heap = h' → Q' v h' → Go p e below s R n0 Q (T'.setTop (mkF m pc' Ls (v.toList ++ stk)))) : Go p e below s R n0 Q (T.setTop (mkF m pc Ls st0)) := by
  subst hp hc' hs' hst; obtain ⟨vm0, k0, locs, X, hS, hk, hZ0, hown0, N⟩ := X
  obtain ⟨cq, kq, qa, qb, qc⟩ := isOf (s := s.setVm vm0) hZ0 eT E
  obtain ⟨_, _, ⟨T1, L1, k1, n1⟩, -, X1, hS1, hg1, ⟨Lc1, hQ1, l1, y1, z1⟩, st1⟩ := X.virtualBackS K.hx hown0 (mvT hZ0 w1) (mvT hZ0 w2) (notFace_of_selects (args := #[]) (mvT hZ0 wn)) (mvT hZ0 w3) (mvT hZ0 w4) hy (backOfS (s := s.setVm vm0) (W := W) (Q := fun v u L => Q' v u ∧ Fr n0 L) (C0 []) hZ0 w5 w6 hf hl) qa qc (g := mkF m pc Ls (argsL.reverse ++ .ref a :: stk)) rfl (by rw [K.ml]; exact hsize) (Steps.refl _) (argsL := argsL) (rest := stk) hlen rfl (by show 2 * 0 + _ ≤ _; omega) (hb K.by' hd) (fun _ _ => ⟨rfl, eT, hc, hs⟩)
  dsimp only [Pt.U, Pt.locs, Pt.cells, Pt.slots] at X1 hS1 hg1 l1 y1 z1 st1 hQ1
  subst l1 y1 z1
  exact go_by (fun t k => st1.trans k) (k T1 _ _ ⟨T1.vm, T1.heap.size, _, X1, hS.trans hS1 (Nat.le_trans hk hg1), Nat.le_refl _, State.Warmed39.trans (t := s.setVm vm0) hZ0 hS1.1, (hS1.1.alike.findClass _ _).trans hown0, Fr.app N hQ1.2⟩ rfl hQ1.1)

theorem go_face (K : Ctx p s m meth c Z own nm bytes maxL ret) (X : St p l e R s m args below meth c Z own n0 T cells slots) {C : String} {index count : Nat} {y z : MethodName} {bytes' : ByteArray} {maxL' : Nat} {ret' : Option FieldType} {rm : Room} {Q' : Option Value → Heap → Prop} {a : Addr} {argsL st0 : List Value}
    (w1 : (Cond.methodLink own index y).before a0 Z = true) (w2 : (Cond.declares y).before a0 Z = true) (w7 : (Cond.interfaceMethod y.cls y.cls y.name y.desc).before a0 Z = true) (w3 : (Cond.selects C y z).before a0 Z = true) (w4 : (Cond.instanceMethod z).before a0 Z = true) (w8 : (Cond.publicMethod z).before a0 Z = true) (w9 : (Cond.unhidden C y.name y.desc).before a0 Z = true) (w10 : (Cond.castable C y.cls).before a0 Z = true) (w5 : (Cond.code z bytes' maxL' ret').before a0 Z = true) (w6 : (Cond.initialized z.cls).before a0 Z = true) (hy : y.cls ≠ "java/lang/invoke/MethodHandle" ∧ y.cls ≠ "java/lang/invoke/VarHandle")
    (hlen : ∀ sig, parseMethodDescriptor y.desc = some sig → argsL.length = sig.parameters.length) (eT : T.heap = h) (E : Exa Z h a C) (C0 : Con l Z n0 z bytes' maxL' ret' rm (.ref a :: argsL).toArray h Q') (hst : st0 = argsL.reverse ++ .ref a :: stk) (hsize : Ls.size = maxL) (hd : decode bytes pc = .ok (.invokeinterface index count, 5)) (hp : pc + 5 = pc')
    (hf : rm.frames + 1 ≤ R.frames) {W : Nat} (hW : (stk.map fun v => v.category).sum ≤ W) (hl : W + (maxL' + 11) + rm.locals ≤ R.locals) (hc' : cells + rm.cells = cells') (hs' : slots + rm.slots = slots') (hc : cells' ≤ R.cells) (hs : slots' ≤ R.slots)
    (k : ∀ T' h' v, St p l e R s m args below meth c Z own n0 T' cells' slots' → T'.heap = h' → Q' v h' → Go p e below s R n0 Q (T'.setTop (mkF m pc' Ls (v.toList ++ stk)))) : Go p e below s R n0 Q (T.setTop (mkF m pc Ls st0)) := by
  subst hp hc' hs' hst; obtain ⟨vm0, k0, locs, X, hS, hk, hZ0, hown0, N⟩ := X
  obtain ⟨cq, kq, qa, qb, qc⟩ := isOf (s := s.setVm vm0) hZ0 eT E
  obtain ⟨_, _, ⟨T1, L1, k1, n1⟩, -, X1, hS1, hg1, ⟨Lc1, hQ1, l1, y1, z1⟩, st1⟩ := X.interfaceBackS K.hx hown0 (mvT hZ0 w1) (mvT hZ0 w2) (mvT hZ0 w7 (by simp [Cond.onTables, Cond.keepsFace, Cond.keeps, Cond.steady, Cond.faceAtom, hy.1, hy.2])) (mvT hZ0 w3) (mvT hZ0 w4) (mvT hZ0 w8) (mvT hZ0 w9) (mvT hZ0 w10) hy (backOfS (s := s.setVm vm0) (W := W) (Q := fun v u L => Q' v u ∧ Fr n0 L) (C0 []) hZ0 w5 w6 hf hl) qa qb qc (g := mkF m pc Ls (argsL.reverse ++ .ref a :: stk)) rfl (by rw [K.ml]; exact hsize) (Steps.refl _) (argsL := argsL) (rest := stk) hlen rfl (by show 2 * 0 + _ ≤ _; omega) (hb K.by' hd) (fun _ _ => ⟨rfl, eT, hc, hs⟩)
  dsimp only [Pt.U, Pt.locs, Pt.cells, Pt.slots] at X1 hS1 hg1 l1 y1 z1 st1 hQ1
  subst l1 y1 z1
  exact go_by (fun t k => st1.trans k) (k T1 _ _ ⟨T1.vm, T1.heap.size, _, X1, hS.trans hS1 (Nat.le_trans hk hg1), Nat.le_refl _, State.Warmed39.trans (t := s.setVm vm0) hZ0 hS1.1, (hS1.1.alike.findClass _ _).trans hown0, Fr.app N hQ1.2⟩ rfl hQ1.1)

end OwnKit

def own_ext (bits sg : Int32) (q : Int64) : Int64 := if sg = 0 then q else (q <<< (((64 : Int32) - bits) &&& 0x3f).toInt64) >>> (((64 : Int32) - bits) &&& 0x3f).toInt64
theorem own_narZ {x : Int32} (h : x = 0 ∨ x = 1) : narrow .boolean (.int x) = .int x := by rcases h with rfl | rfl <;> rfl
theorem own_fitZ {x : Int32} (h : x = 0 ∨ x = 1) : fits .boolean (.int x) = true := by rcases h with rfl | rfl <;> rfl
theorem own_ext0 (b : Int32) (q : Int64) : own_ext b 0 q = q := if_pos rfl
def own_list64 : List Int32 := (List.range 64).map fun i => Int32.ofNat (i + 1)
theorem own_in64 {x n : Int32} (h : (x &&& 63) + 1 = n) : n ∈ own_list64 := by
  have m := c_mask x 63 6 (by omega) (by decide)
  have h2 : (2 ^ 6 : Nat) = 64 := by decide
  rw [h2] at m
  refine List.mem_map.mpr ⟨(x &&& 63).toInt.toNat, List.mem_range.mpr (by omega), ?_⟩
  have h1 : (1 : Int32).toInt = 1 := by decide
  apply Int32.toInt_inj.mp
  rw [← h, XT.add32 (by rw [h1]; constructor <;> omega), h1, Int32.toInt_ofNat_of_lt (by omega)]
  omega
def own_N (n : Int32) : Nat := n.toInt.toNat
theorem own_sh : ∀ n ∈ own_list64, ((((64 : Int32) - n) &&& 0x3f).toInt64.toBitVec.smod 64).toNat = 64 - own_N n ∧ 1 ≤ own_N n ∧ own_N n ≤ 64 := by decide +kernel
theorem own_mk : ∀ n ∈ own_list64, ¬ n = 64 → ∀ i < 64, (((1 : Int64) <<< (n &&& 0x3f).toInt64) - 1).toBitVec.getLsbD i = decide (i < own_N n) := by decide +kernel
theorem own_sb : ∀ n ∈ own_list64, ∀ i < 64, ((1 : Int64) <<< ((n - 1) &&& 0x3f).toInt64).toBitVec.getLsbD i = decide (i = own_N n - 1) := by decide +kernel
theorem own_bit {n : Int32} (hn : n ∈ own_list64) (q : Int64) {i : Nat} (hi : i < 64) : (own_ext n 1 q).toBitVec.getLsbD i = if i < own_N n then q.toBitVec.getLsbD i else q.toBitVec.getLsbD (own_N n - 1) := by
  obtain ⟨h1, h2, h3⟩ := own_sh n hn
  have e : (own_ext n 1 q).toBitVec = (q.toBitVec <<< (64 - own_N n)).sshiftRight (64 - own_N n) := by
    show BitVec.sshiftRight (q.toBitVec <<< ((((64 : Int32) - n) &&& 0x3f).toInt64.toBitVec.smod 64).toNat) ((((64 : Int32) - n) &&& 0x3f).toInt64.toBitVec.smod 64).toNat = _
    rw [h1]
  rw [e, BitVec.getLsbD_sshiftRight, BitVec.msb_eq_getLsbD_last]
  generalize own_N n = N at *
  by_cases c : i < N
  · have c1 : 64 - N + i < 64 := by omega
    have c2 : ¬ 64 ≤ i := by omega
    have c3 : 64 - N + i - (64 - N) = i := by omega
    simp [c, c1, c2, c3, BitVec.getLsbD_shiftLeft, hi]
  · have c1 : ¬ 64 - N + i < 64 := by omega
    have d1 : decide (64 ≤ i) = false := by simpa using hi
    have d3 : decide (64 - 1 < 64 - N) = false := by simp; omega
    rw [if_neg c, if_neg c1, BitVec.getLsbD_shiftLeft, d1, d3, show 64 - 1 - (64 - N) = N - 1 by omega]
    simp only [Bool.not_false, Bool.true_and, Bool.and_true]
    simp
theorem own_ext_eq {x y : Int64} (h : ∀ i < 64, x.toBitVec.getLsbD i = y.toBitVec.getLsbD i) : x = y := Int64.toBitVec_inj.mp (BitVec.eq_of_getLsbD_eq fun i hi => h i hi)
theorem own_sgn {n : Int32} (hn : n ∈ own_list64) (q : Int64) : (q &&& ((1 : Int64) <<< ((n - 1) &&& 0x3f).toInt64)) = 0 ↔ q.toBitVec.getLsbD (own_N n - 1) = false := by
  obtain ⟨-, h2, h3⟩ := own_sh n hn
  have sb := own_sb n hn
  constructor
  · intro h
    have := congrArg (fun z : Int64 => z.toBitVec.getLsbD (own_N n - 1)) h
    simp only [Int64.toBitVec_and, BitVec.getLsbD_and, sb _ (show own_N n - 1 < 64 by omega)] at this
    simpa using this
  · intro h
    refine own_ext_eq fun i hi => ?_
    rw [Int64.toBitVec_and, BitVec.getLsbD_and, sb i hi]
    by_cases c : i = own_N n - 1
    · rw [c, h]; simp
    · simp [c]
theorem own_finN_z {n : Int32} {r q : Int64} (hn : n ∈ own_list64) (h64 : ¬ n = 64) (hq : (r &&& (((1 : Int64) <<< (n &&& 0x3f).toInt64) - 1)) = q) (hz : (q &&& ((1 : Int64) <<< ((n - 1) &&& 0x3f).toInt64)) = 0) : own_ext n 1 q = q := by
  have hs := (own_sgn hn q).mp hz
  refine own_ext_eq fun i hi => ?_
  rw [own_bit hn q hi, hs]
  split
  · rfl
  · rename_i c
    rw [← hq, Int64.toBitVec_and, BitVec.getLsbD_and, own_mk n hn h64 i hi]
    simp [c]
theorem own_finN_s {n : Int32} {r q : Int64} (hn : n ∈ own_list64) (h64 : ¬ n = 64) (hq : (r &&& (((1 : Int64) <<< (n &&& 0x3f).toInt64) - 1)) = q) (hz : ¬ (q &&& ((1 : Int64) <<< ((n - 1) &&& 0x3f).toInt64)) = 0) : own_ext n 1 q = (q ||| ((((1 : Int64) <<< (n &&& 0x3f).toInt64) - 1) ^^^ (-1))) := by
  have hs : q.toBitVec.getLsbD (own_N n - 1) = true := by
    rw [own_sgn hn q] at hz
    simpa using hz
  refine own_ext_eq fun i hi => ?_
  rw [own_bit hn q hi, hs, Int64.toBitVec_or, Int64.toBitVec_xor, BitVec.getLsbD_or, BitVec.getLsbD_xor, own_mk n hn h64 i hi]
  have k : ((-1 : Int64)).toBitVec.getLsbD i = true := by
    have : (-1 : Int64).toBitVec = BitVec.allOnes 64 := by decide
    rw [this, BitVec.getLsbD_allOnes]; simpa using hi
  rw [k]
  by_cases c : i < own_N n <;> simp [c]
theorem own_fin64_z {n : Int32} {r q : Int64} (hn : n ∈ own_list64) (h64 : n = 64) (hq : (r &&& (-1)) = q) (hz : (q &&& ((1 : Int64) <<< ((n - 1) &&& 0x3f).toInt64)) = 0) : own_ext n 1 q = q := by
  refine own_ext_eq fun i hi => ?_
  rw [own_bit hn q hi, if_pos]
  rw [h64]; exact hi
theorem own_fin64_s {n : Int32} {r q : Int64} (hn : n ∈ own_list64) (h64 : n = 64) (hq : (r &&& (-1)) = q) (hz : ¬ (q &&& ((1 : Int64) <<< ((n - 1) &&& 0x3f).toInt64)) = 0) : own_ext n 1 q = (q ||| 0) := by
  refine own_ext_eq fun i hi => ?_
  rw [own_bit hn q hi, if_pos (by rw [h64]; exact hi), Int64.toBitVec_or]
  simp

theorem d2_0 : decode jdk_30_method_1_code 0 = .ok (.aload_n 0, 1) := by decide +kernel
theorem d2_1 : decode jdk_30_method_1_code 1 = .ok (.invokespecial 1, 3) := by decide +kernel
theorem d2_4 : decode jdk_30_method_1_code 4 = .ok (.return_, 1) := by decide +kernel
theorem pn_java_lang_Record : plainName "java/lang/Record" = true := by first | (simp [plainName, overriddenIn]; done) | decide +kernel
theorem ef_rmRec (m : MethodId) (a1 : Addr) : entryFrame m #[(.ref a1)] 1 = mkF m 0 #[.val (.ref a1)] [] := by first | (simp [entryFrame, mkF, argsToLocals, Value.category]; done) | rfl
def Q_rmRec (Z : State) (n0 : Nat) (a1 : Addr) (h0 : Heap) (v : Option Value) (h : Heap) : Prop := v = none ∧ h = h0
abbrev R_rmRec : Room := { frames := 1, cells := 0, slots := 0, locals := 12 }
set_option maxRecDepth 65536 in
set_option maxHeartbeats 40000000 in
theorem rmRec {l : Launch} {Z : State} {n0 : Nat} {a0 : Array Value} (hw : ∀ d ∈ tables_1, d.before a0 Z = true) (a1 : Addr) (h0 : Heap) :
    Con l Z n0 (⟨"java/lang/Record", "<init>", "()V"⟩ : MethodName) jdk_30_method_1_code 1 none R_rmRec #[(.ref a1)] h0 (Q_rmRec Z n0 a1 h0) := by
  refine con_of (plainFor_of_name pn_java_lang_Record) ?_
  intro p e s m below meth c T0 K X0 e0
  replace K : Ctx p s m meth c Z "java/lang/Record" "<init>" jdk_30_method_1_code 1 none := K
  refine go_entry (ef_rmRec m a1) ?_
  refine go_aloadN K X0 d2_0 rfl rfl rfl ?_
  refine go_initO K X0 (wd hw 22 rfl) (wd hw 23 rfl) (wd hw 24 rfl) e0 rfl d2_1 rfl (by decide) (W := 0) (Nat.le_of_eq rfl) (by decide) ?_
  intro T1 X1 e1
  refine go_ret K X1 d2_4 (by decide) (by decide) ?_
  rw [e1]
  exact ⟨rfl, rfl⟩
theorem d1_0 : decode prog_57_method_1_code 0 = .ok (.aload_n 0, 1) := by decide +kernel
theorem d1_1 : decode prog_57_method_1_code 1 = .ok (.invokespecial 1, 3) := by decide +kernel
theorem pd_0 : parseMethodDescriptor "()V" = some ⟨[], none⟩ := by decide +kernel
theorem d1_4 : decode prog_57_method_1_code 4 = .ok (.aload_n 0, 1) := by decide +kernel
theorem d1_5 : decode prog_57_method_1_code 5 = .ok (.iload_n 1, 1) := by decide +kernel
theorem d1_6 : decode prog_57_method_1_code 6 = .ok (.putfield 7, 3) := by decide +kernel
theorem d1_9 : decode prog_57_method_1_code 9 = .ok (.aload_n 0, 1) := by decide +kernel
theorem d1_10 : decode prog_57_method_1_code 10 = .ok (.iload_n 2, 1) := by decide +kernel
theorem d1_11 : decode prog_57_method_1_code 11 = .ok (.putfield 13, 3) := by decide +kernel
theorem d1_14 : decode prog_57_method_1_code 14 = .ok (.aload_n 0, 1) := by decide +kernel
theorem d1_15 : decode prog_57_method_1_code 15 = .ok (.aload_n 3, 1) := by decide +kernel
theorem d1_16 : decode prog_57_method_1_code 16 = .ok (.putfield 17, 3) := by decide +kernel
theorem d1_19 : decode prog_57_method_1_code 19 = .ok (.aload_n 0, 1) := by decide +kernel
theorem d1_20 : decode prog_57_method_1_code 20 = .ok (.aload 4, 2) := by decide +kernel
theorem d1_22 : decode prog_57_method_1_code 22 = .ok (.putfield 21, 3) := by decide +kernel
theorem d1_25 : decode prog_57_method_1_code 25 = .ok (.return_, 1) := by decide +kernel
theorem pn_com_example_bytemold_bytemold_IntBits : plainName "com/example/bytemold/bytemold/IntBits" = true := by first | (simp [plainName, overriddenIn]; done) | decide +kernel
theorem ef_rmInit (m : MethodId) (a1 : Addr) (p2 : Int32) (p3 : Int32) (a4 : Addr) (a5 : Addr) : entryFrame m #[(.ref a1), (.int p2), (.int p3), (.ref a4), (.ref a5)] 5 = mkF m 0 #[.val (.ref a1), .val (.int p2), .val (.int p3), .val (.ref a4), .val (.ref a5)] [] := by first | (simp [entryFrame, mkF, argsToLocals, Value.category]; done) | rfl
def Q_rmInit (Z : State) (n0 : Nat) (a1 : Addr) (p2 : Int32) (p3 : Int32) (a4 : Addr) (a5 : Addr) (u0 : Value) (u1 : Value) (u2 : Value) (u3 : Value) (h0 : Heap) (v : Option Value) (h : Heap) : Prop := v = none ∧ Keep h0 h [a1] ∧ Exa Z h a1 "com/example/bytemold/bytemold/IntBits" ∧ Fld Z h a1 "com/example/bytemold/bytemold/IntBits" "bits" "I" (.int p2) ∧ Fld Z h a1 "com/example/bytemold/bytemold/IntBits" "signed" "Z" (.int p3) ∧ Fld Z h a1 "com/example/bytemold/bytemold/IntBits" "javaType" "Lcom/example/bytemold/bytemold/IntBits$JavaType;" (.ref a4) ∧ Fld Z h a1 "com/example/bytemold/bytemold/IntBits" "sizeText" "Ljava/lang/String;" (.ref a5)
abbrev R_rmInit : Room := { frames := 2, cells := 0, slots := 0, locals := 24 }
set_option maxRecDepth 65536 in
set_option maxHeartbeats 40000000 in
theorem rmInit {l : Launch} {Z : State} {n0 : Nat} {a0 : Array Value} (hw : ∀ d ∈ tables_1, d.before a0 Z = true) (a1 : Addr) (p2 : Int32) (p3 : Int32) (a4 : Addr) (a5 : Addr) (u0 : Value) (u1 : Value) (u2 : Value) (u3 : Value) (h0 : Heap) (H0 : n0 ≤ a1) (H1 : Exa Z h0 a1 "com/example/bytemold/bytemold/IntBits") (H2 : Fld Z h0 a1 "com/example/bytemold/bytemold/IntBits" "bits" "I" u0) (H3 : Fld Z h0 a1 "com/example/bytemold/bytemold/IntBits" "signed" "Z" u1) (H4 : Fld Z h0 a1 "com/example/bytemold/bytemold/IntBits" "javaType" "Lcom/example/bytemold/bytemold/IntBits$JavaType;" u2) (H5 : Fld Z h0 a1 "com/example/bytemold/bytemold/IntBits" "sizeText" "Ljava/lang/String;" u3) (H6 : p3 = 0 ∨ p3 = 1) :
    Con l Z n0 (⟨"com/example/bytemold/bytemold/IntBits", "<init>", "(IZLcom/example/bytemold/bytemold/IntBits$JavaType;Ljava/lang/String;)V"⟩ : MethodName) prog_57_method_1_code 5 none R_rmInit #[(.ref a1), (.int p2), (.int p3), (.ref a4), (.ref a5)] h0 (Q_rmInit Z n0 a1 p2 p3 a4 a5 u0 u1 u2 u3 h0) := by
  refine con_of (plainFor_of_name pn_com_example_bytemold_bytemold_IntBits) ?_
  intro p e s m below meth c T0 K X0 e0
  replace K : Ctx p s m meth c Z "com/example/bytemold/bytemold/IntBits" "<init>" prog_57_method_1_code 5 none := K
  refine go_entry (ef_rmInit m a1 p2 p3 a4 a5) ?_
  refine go_aloadN K X0 d1_0 rfl rfl rfl ?_
  refine go_init K X0 (a := a1) (argsL := []) (stk := []) (wd hw 17 rfl) (wd hw 18 rfl) (wd hw 20 rfl) (wd hw 21 rfl) (by decide) rfl (lenOf pd_0 rfl) e0 (rmRec hw a1 h0 ) rfl rfl d1_1 rfl (by decide) (W := 0) (Nat.le_of_eq rfl) (by decide) (cells' := 0) (slots' := 0) rfl rfl (by decide) (by decide) ?_
  rintro T2 h2 _ X2 e2 ⟨rfl, qe2⟩
  show Go _ _ _ _ _ _ _ (T2.setTop (mkF m 4 #[.val (.ref a1), .val (.int p2), .val (.int p3), .val (.ref a4), .val (.ref a5)] []))
  replace e2 := e2.trans qe2
  refine go_aloadN K X2 d1_4 rfl rfl rfl ?_
  refine go_iloadN K X2 d1_5 rfl rfl ?_
  refine go_putF K X2 (host := "") (Or.inl (wd hw 25 rfl)) Via.refl e2 H2 H1 (Or.inr ⟨(wd hw 26 rfl), rfl, rfl⟩) (wd hw 1 rfl) (ty := .int) (by decide) rfl rfl H0 d1_6 rfl ?_
  intro T3 h3 X3 e3 W3
  have kp4 : Keep h0 h3 [a1] := (Keep.refl h0 [a1]).trans (Keep.of_wr W3) (allS (Or.inl (List.mem_of_getElem? (i := 0) rfl)) all0)
  have f5 : Fld Z h3 a1 "com/example/bytemold/bytemold/IntBits" "bits" "I" (.int p2) := H2.same W3
  refine go_aloadN K X3 d1_9 rfl rfl rfl ?_
  refine go_iloadN K X3 d1_10 rfl rfl ?_
  have f6 : Exa Z h3 a1 "com/example/bytemold/bytemold/IntBits" := (H1.keep (Keep.of_wr W3))
  have f7 : Fld Z h3 a1 "com/example/bytemold/bytemold/IntBits" "signed" "Z" u1 := (H3.other W3 (Or.inr (slot_ne (Or.inr (wd hw 28 rfl)) (Or.inr (wd hw 26 rfl)) (by decide) (t := .boolean) (t' := .int) (by decide) (by decide))))
  refine go_putF K X3 (host := "") (Or.inl (wd hw 27 rfl)) Via.refl e3 f7 f6 (Or.inr ⟨(wd hw 28 rfl), rfl, rfl⟩) (wd hw 1 rfl) (ty := .boolean) (by decide) (own_narZ H6) (own_fitZ H6) H0 d1_11 rfl ?_
  intro T8 h8 X8 e8 W8
  have kp9 : Keep h0 h8 [a1] := kp4.trans (Keep.of_wr W8) (allS (Or.inl (List.mem_of_getElem? (i := 0) rfl)) all0)
  have f10 : Fld Z h8 a1 "com/example/bytemold/bytemold/IntBits" "signed" "Z" (.int p3) := f7.same W8
  refine go_aloadN K X8 d1_14 rfl rfl rfl ?_
  refine go_aloadN K X8 d1_15 rfl rfl rfl ?_
  have f11 : Exa Z h8 a1 "com/example/bytemold/bytemold/IntBits" := (f6.keep (Keep.of_wr W8))
  have f12 : Fld Z h8 a1 "com/example/bytemold/bytemold/IntBits" "javaType" "Lcom/example/bytemold/bytemold/IntBits$JavaType;" u2 := ((H4.other W3 (Or.inr (slot_ne (Or.inr (wd hw 30 rfl)) (Or.inr (wd hw 26 rfl)) (by decide) (t := (.object "com/example/bytemold/bytemold/IntBits$JavaType")) (t' := .int) (by decide) (by decide)))).other W8 (Or.inr (slot_ne (Or.inr (wd hw 30 rfl)) (Or.inr (wd hw 28 rfl)) (by decide) (t := (.object "com/example/bytemold/bytemold/IntBits$JavaType")) (t' := .boolean) (by decide) (by decide))))
  refine go_putF K X8 (host := "") (Or.inl (wd hw 29 rfl)) Via.refl e8 f12 f11 (Or.inr ⟨(wd hw 30 rfl), rfl, rfl⟩) (wd hw 1 rfl) (ty := (.object "com/example/bytemold/bytemold/IntBits$JavaType")) (by decide) rfl rfl H0 d1_16 rfl ?_
  intro T13 h13 X13 e13 W13
  have kp14 : Keep h0 h13 [a1] := kp9.trans (Keep.of_wr W13) (allS (Or.inl (List.mem_of_getElem? (i := 0) rfl)) all0)
  have f15 : Fld Z h13 a1 "com/example/bytemold/bytemold/IntBits" "javaType" "Lcom/example/bytemold/bytemold/IntBits$JavaType;" (.ref a4) := f12.same W13
  refine go_aloadN K X13 d1_19 rfl rfl rfl ?_
  refine go_aload K X13 d1_20 rfl rfl rfl ?_
  have f16 : Exa Z h13 a1 "com/example/bytemold/bytemold/IntBits" := (f11.keep (Keep.of_wr W13))
  have f17 : Fld Z h13 a1 "com/example/bytemold/bytemold/IntBits" "sizeText" "Ljava/lang/String;" u3 := (((H5.other W3 (Or.inr (slot_ne (Or.inr (wd hw 32 rfl)) (Or.inr (wd hw 26 rfl)) (by decide) (t := (.object "java/lang/String")) (t' := .int) (by decide) (by decide)))).other W8 (Or.inr (slot_ne (Or.inr (wd hw 32 rfl)) (Or.inr (wd hw 28 rfl)) (by decide) (t := (.object "java/lang/String")) (t' := .boolean) (by decide) (by decide)))).other W13 (Or.inr (slot_ne (Or.inr (wd hw 32 rfl)) (Or.inr (wd hw 30 rfl)) (by decide) (t := (.object "java/lang/String")) (t' := (.object "com/example/bytemold/bytemold/IntBits$JavaType")) (by decide) (by decide))))
  refine go_putF K X13 (host := "") (Or.inl (wd hw 31 rfl)) Via.refl e13 f17 f16 (Or.inr ⟨(wd hw 32 rfl), rfl, rfl⟩) (wd hw 1 rfl) (ty := (.object "java/lang/String")) (by decide) rfl rfl H0 d1_22 rfl ?_
  intro T18 h18 X18 e18 W18
  have kp19 : Keep h0 h18 [a1] := kp14.trans (Keep.of_wr W18) (allS (Or.inl (List.mem_of_getElem? (i := 0) rfl)) all0)
  have f20 : Fld Z h18 a1 "com/example/bytemold/bytemold/IntBits" "sizeText" "Ljava/lang/String;" (.ref a5) := f17.same W18
  refine go_ret K X18 d1_25 (by decide) (by decide) ?_
  have f21 : Exa Z h18 a1 "com/example/bytemold/bytemold/IntBits" := (f16.keep (Keep.of_wr W18))
  have f22 : Fld Z h18 a1 "com/example/bytemold/bytemold/IntBits" "bits" "I" (.int p2) := (((f5.other W8 (Or.inr (slot_ne (Or.inr (wd hw 26 rfl)) (Or.inr (wd hw 28 rfl)) (by decide) (t := .int) (t' := .boolean) (by decide) (by decide)))).other W13 (Or.inr (slot_ne (Or.inr (wd hw 26 rfl)) (Or.inr (wd hw 30 rfl)) (by decide) (t := .int) (t' := (.object "com/example/bytemold/bytemold/IntBits$JavaType")) (by decide) (by decide)))).other W18 (Or.inr (slot_ne (Or.inr (wd hw 26 rfl)) (Or.inr (wd hw 32 rfl)) (by decide) (t := .int) (t' := (.object "java/lang/String")) (by decide) (by decide))))
  have f23 : Fld Z h18 a1 "com/example/bytemold/bytemold/IntBits" "signed" "Z" (.int p3) := ((f10.other W13 (Or.inr (slot_ne (Or.inr (wd hw 28 rfl)) (Or.inr (wd hw 30 rfl)) (by decide) (t := .boolean) (t' := (.object "com/example/bytemold/bytemold/IntBits$JavaType")) (by decide) (by decide)))).other W18 (Or.inr (slot_ne (Or.inr (wd hw 28 rfl)) (Or.inr (wd hw 32 rfl)) (by decide) (t := .boolean) (t' := (.object "java/lang/String")) (by decide) (by decide))))
  have f24 : Fld Z h18 a1 "com/example/bytemold/bytemold/IntBits" "javaType" "Lcom/example/bytemold/bytemold/IntBits$JavaType;" (.ref a4) := (f15.other W18 (Or.inr (slot_ne (Or.inr (wd hw 30 rfl)) (Or.inr (wd hw 32 rfl)) (by decide) (t := (.object "com/example/bytemold/bytemold/IntBits$JavaType")) (t' := (.object "java/lang/String")) (by decide) (by decide))))
  rw [e18]
  exact ⟨rfl, kp19, f21, f22, f23, f24, f20⟩
theorem d4_0 : decode prog_57_method_8_code 0 = .ok (.bipush 64, 2) := by decide +kernel
theorem d4_2 : decode prog_57_method_8_code 2 = .ok (.aload_n 0, 1) := by decide +kernel
theorem d4_3 : decode prog_57_method_8_code 3 = .ok (.getfield 7, 3) := by decide +kernel
theorem d4_6 : decode prog_57_method_8_code 6 = .ok (.isub, 1) := by decide +kernel
theorem d4_7 : decode prog_57_method_8_code 7 = .ok (.istore_n 3, 1) := by decide +kernel
theorem d4_8 : decode prog_57_method_8_code 8 = .ok (.aload_n 0, 1) := by decide +kernel
theorem d4_9 : decode prog_57_method_8_code 9 = .ok (.getfield 13, 3) := by decide +kernel
theorem d4_12 : decode prog_57_method_8_code 12 = .ok (.ifCond .eq 11, 3) := by decide +kernel
theorem d4_23 : decode prog_57_method_8_code 23 = .ok (.lload_n 1, 1) := by decide +kernel
theorem d4_24 : decode prog_57_method_8_code 24 = .ok (.lreturn, 1) := by decide +kernel
theorem d4_15 : decode prog_57_method_8_code 15 = .ok (.lload_n 1, 1) := by decide +kernel
theorem d4_16 : decode prog_57_method_8_code 16 = .ok (.iload_n 3, 1) := by decide +kernel
theorem d4_17 : decode prog_57_method_8_code 17 = .ok (.lshl, 1) := by decide +kernel
theorem d4_18 : decode prog_57_method_8_code 18 = .ok (.iload_n 3, 1) := by decide +kernel
theorem d4_19 : decode prog_57_method_8_code 19 = .ok (.lshr, 1) := by decide +kernel
theorem d4_20 : decode prog_57_method_8_code 20 = .ok (.goto 4, 3) := by decide +kernel
theorem ef_rmExt (m : MethodId) (a1 : Addr) (q2 : Int64) : entryFrame m #[(.ref a1), (.long q2)] 4 = mkF m 0 #[.val (.ref a1), .val (.long q2), .second, .unset] [] := by first | (simp [entryFrame, mkF, argsToLocals, Value.category]; done) | rfl
def Q_rmExt (Z : State) (n0 : Nat) (a1 : Addr) (q2 : Int64) (p3 : Int32) (p4 : Int32) (h0 : Heap) (v : Option Value) (h : Heap) : Prop := v = some (.long (own_ext p3 p4 q2)) ∧ h = h0
abbrev R_rmExt : Room := { frames := 0, cells := 0, slots := 0, locals := 0 }
set_option maxRecDepth 65536 in
set_option maxHeartbeats 40000000 in
theorem rmExt {l : Launch} {Z : State} {n0 : Nat} {a0 : Array Value} (hw : ∀ d ∈ tables_1, d.before a0 Z = true) (a1 : Addr) (q2 : Int64) (p3 : Int32) (p4 : Int32) (h0 : Heap) (H0 : Fld Z h0 a1 "com/example/bytemold/bytemold/IntBits" "bits" "I" (.int p3)) (H1 : Fld Z h0 a1 "com/example/bytemold/bytemold/IntBits" "signed" "Z" (.int p4)) :
    Con l Z n0 (⟨"com/example/bytemold/bytemold/IntBits", "extend", "(J)J"⟩ : MethodName) prog_57_method_8_code 4 (some .long) R_rmExt #[(.ref a1), (.long q2)] h0 (Q_rmExt Z n0 a1 q2 p3 p4 h0) := by
  refine con_of (plainFor_of_name pn_com_example_bytemold_bytemold_IntBits) ?_
  intro p e s m below meth c T0 K X0 e0
  replace K : Ctx p s m meth c Z "com/example/bytemold/bytemold/IntBits" "extend" prog_57_method_8_code 4 (some .long) := K
  refine go_entry (ef_rmExt m a1 q2) ?_
  refine go_bipush K X0 (64 : Int32) d4_0 rfl rfl ?_
  refine go_aloadN K X0 d4_2 rfl rfl rfl ?_
  refine go_getF K X0 (host := "") (Or.inl (wd hw 25 rfl)) Via.refl e0 H0 d4_3 rfl ?_
  intro T25 X25 e25
  refine go_isub K X25 d4_6 rfl ?_
  refine go_istoreN K X25 #[.val (.ref a1), .val (.long q2), .second, .val (.int ((64 : Int32) - p3))] d4_7 rfl rfl ?_
  refine go_aloadN K X25 d4_8 rfl rfl rfl ?_
  refine go_getF K X25 (host := "") (Or.inl (wd hw 27 rfl)) Via.refl e25 H1 d4_9 rfl ?_
  intro T26 X26 e26
  refine go_if K X26 d4_12 (by decide) rfl rfl ?_ ?_
  · intro (hc27 : p4 = (0 : Int32))
    refine go_lloadN K X26 d4_23 rfl rfl ?_
    refine go_retJ K X26 d4_24 (by decide) (by decide) ?_
    rw [e26]
    exact ⟨(by simp [own_ext, hc27]), rfl⟩
  · intro (hc27 : ¬ p4 = (0 : Int32))
    refine go_lloadN K X26 d4_15 rfl rfl ?_
    refine go_iloadN K X26 d4_16 rfl rfl ?_
    refine go_lshl K X26 d4_17 rfl ?_
    refine go_iloadN K X26 d4_18 rfl rfl ?_
    refine go_lshr K X26 d4_19 rfl ?_
    refine go_goto K X26 d4_20 (by decide) rfl ?_
    refine go_retJ K X26 d4_24 (by decide) (by decide) ?_
    rw [e26]
    exact ⟨(by simp [own_ext, hc27]), rfl⟩
theorem own_satoms {Z : State} {a0 : Array Value} (hw : ∀ d ∈ tables_1, d.before a0 Z = true) : ∀ a ∈ Bundle.stringAtoms, a.before a0 Z = true := by
  intro a ha
  simp only [Bundle.stringAtoms, List.mem_cons, List.not_mem_nil, or_false] at ha
  rcases ha with rfl | rfl | rfl | rfl | rfl | rfl | rfl
  · exact wd hw 7 rfl
  · exact wd hw 8 rfl
  · exact wd hw 9 rfl
  · exact wd hw 10 rfl
  · exact wd hw 11 rfl
  · exact wd hw 12 rfl
  · exact wd hw 13 rfl
theorem pd_1 : parseMethodDescriptor "(IZLcom/example/bytemold/bytemold/IntBits$JavaType;Ljava/lang/String;)V" = some ⟨[.int, .boolean, (.object "com/example/bytemold/bytemold/IntBits$JavaType"), (.object "java/lang/String")], none⟩ := by decide +kernel
theorem pd_2 : parseMethodDescriptor "(J)J" = some ⟨[.long], some .long⟩ := by decide +kernel
theorem pn_com_example_bytemold_bytemold_IntBitsExtendPinLaw : plainName "com/example/bytemold/bytemold/IntBitsExtendPinLaw" = true := by first | (simp [plainName, overriddenIn]; done) | decide +kernel
theorem ef_rmLaw (m : MethodId) (p1 : Int32) (p2 : Int32) (q3 : Int64) : entryFrame m #[(.int p1), (.int p2), (.long q3)] maxLocals = mkF m 0 #[.val (.int p1), .val (.int p2), .val (.long q3), .second, .unset, .unset, .unset, .unset, .unset, .unset, .unset, .unset, .unset, .unset, .unset, .unset, .unset] [] := by first | (simp [entryFrame, mkF, argsToLocals, Value.category, maxLocals]; done) | rfl
def Q_rmLaw (Z : State) (n0 : Nat) (p1 : Int32) (p2 : Int32) (q3 : Int64) (aL : Addr) (h0 : Heap) (v : Option Value) (h : Heap) : Prop := v = some (.int (1 : Int32)) ∧ Keep h0 h []
set_option maxRecDepth 65536 in
set_option maxHeartbeats 40000000 in
theorem rmLaw {l : Launch} {Z : State} {n0 : Nat} {a0 : Array Value} (hw : ∀ d ∈ tables_1, d.before a0 Z = true) (p1 : Int32) (p2 : Int32) (q3 : Int64) (aL : Addr) (h0 : Heap) (H0 : n0 ≤ h0.size) (H1 : Old Z n0 h0) (H2 : Sta Z Z.heap "com/example/bytemold/bytemold/IntBits$JavaType" "LONG" "Lcom/example/bytemold/bytemold/IntBits$JavaType;" (.ref aL)) :
    Con l Z n0 x code maxLocals ret room_1 #[(.int p1), (.int p2), (.long q3)] h0 (Q_rmLaw Z n0 p1 p2 q3 aL h0) := by
  refine con_of (plainFor_of_name pn_com_example_bytemold_bytemold_IntBitsExtendPinLaw) ?_
  intro p e s m below meth c T0 K X0 e0
  replace K : Ctx p s m meth c Z "com/example/bytemold/bytemold/IntBitsExtendPinLaw" "law" code maxLocals (some .boolean) := K
  refine go_entry (ef_rmLaw m p1 p2 q3) ?_
  refine go_iloadN K X0 at_0 rfl rfl ?_
  refine go_bipush K X0 (63 : Int32) at_1 rfl rfl ?_
  refine go_iand K X0 at_3 rfl ?_
  refine go_iconst K X0 (1 : Int32) at_4 rfl rfl ?_
  refine go_iadd K X0 at_5 rfl ?_
  generalize h_n : ((p1 &&& (63 : Int32)) + (1 : Int32)) = n
  have hn := own_in64 h_n
  refine go_istore K X0 #[.val (.int p1), .val (.int p2), .val (.long q3), .second, .val (.int n), .unset, .unset, .unset, .unset, .unset, .unset, .unset, .unset, .unset, .unset, .unset, .unset] at_6 rfl rfl ?_
  refine go_iloadN K X0 at_8 rfl rfl ?_
  refine go_iconst K X0 (1 : Int32) at_9 rfl rfl ?_
  refine go_iand K X0 at_10 rfl ?_
  refine go_if K X0 at_11 (by decide) rfl rfl ?_ ?_
  · intro (hc28 : (p2 &&& (1 : Int32)) = (0 : Int32))
    refine go_iconst K X0 (0 : Int32) at_18 rfl rfl ?_
    refine go_istore K X0 #[.val (.int p1), .val (.int p2), .val (.long q3), .second, .val (.int n), .val (.int (0 : Int32)), .unset, .unset, .unset, .unset, .unset, .unset, .unset, .unset, .unset, .unset, .unset] at_19 rfl rfl ?_
    refine go_iload K X0 at_21 rfl rfl ?_
    refine go_bipush K X0 (64 : Int32) at_23 rfl rfl ?_
    refine go_icmp K X0 at_25 (by decide) rfl rfl ?_ ?_
    · intro (hc29 : ¬ n = (64 : Int32))
      refine go_lconst K X0 (1 : Int64) at_34 rfl rfl ?_
      refine go_iload K X0 at_35 rfl rfl ?_
      refine go_lshl K X0 at_37 rfl ?_
      refine go_lconst K X0 (1 : Int64) at_38 rfl rfl ?_
      refine go_lsub K X0 at_39 rfl ?_
      refine go_lstore K X0 #[.val (.int p1), .val (.int p2), .val (.long q3), .second, .val (.int n), .val (.int (0 : Int32)), .val (.long (((1 : Int64) <<< (n &&& 0x3f).toInt64) - (1 : Int64))), .second, .unset, .unset, .unset, .unset, .unset, .unset, .unset, .unset, .unset] at_40 rfl rfl ?_
      refine go_lloadN K X0 at_42 rfl rfl ?_
      refine go_lload K X0 at_43 rfl rfl ?_
      refine go_land K X0 at_45 rfl ?_
      generalize h_raw : (q3 &&& (((1 : Int64) <<< (n &&& 0x3f).toInt64) - (1 : Int64))) = raw
      refine go_lstore K X0 #[.val (.int p1), .val (.int p2), .val (.long q3), .second, .val (.int n), .val (.int (0 : Int32)), .val (.long (((1 : Int64) <<< (n &&& 0x3f).toInt64) - (1 : Int64))), .second, .val (.long raw), .second, .unset, .unset, .unset, .unset, .unset, .unset, .unset] at_46 rfl rfl ?_
      refine go_new K X0 (wd hw 0 rfl) (wd hw 1 rfl) (wd hw 2 rfl) e0 at_48 rfl (cells' := 1) (slots' := 4) rfl rfl (by decide) (by decide) ?_
      intro T30 h30 b30 g30 X30 e30 E30 A30 D30
      have ga31 : n0 ≤ b30 := Nat.le_trans H0 (Nat.le_of_eq g30.symm)
      have gb32 : h0.size ≤ b30 := Nat.le_trans (Keep.refl h0 []).1 (Nat.le_of_eq g30.symm)
      have kp33 : Keep h0 h30 [] := (Keep.refl h0 []).trans (Keep.ext (Keep.refl _ []) E30) all0
      refine go_dup K X30 at_51 rfl rfl ?_
      refine go_iload K X30 at_52 rfl rfl ?_
      refine go_iload K X30 at_54 rfl rfl ?_
      have f34 : Old Z n0 h30 := (H1.ext E30)
      refine go_getS K X30 (host := "") (Or.inl (wd hw 3 rfl)) Via.refl e30 (H2.ext f34.2) at_56 rfl ?_
      intro T35 X35 e35
      refine go_ldcS K X35 (wd hw 6 rfl) (own_satoms hw) e35 at_59 rfl (n := 4) (by decide) (by decide) (cells' := 3) (slots' := 12) rfl rfl (by decide) (by decide) ?_
      intro T36 h36 b36 X36 e36 E36
      have kp37 : Keep h0 h36 [] := kp33.trans (Keep.ext (Keep.refl _ []) E36) all0
      have f38 : Exa Z h36 b30 "com/example/bytemold/bytemold/IntBits" := (A30.keep (Keep.ext (Keep.refl _ []) E36))
      have f39 : Fld Z h36 b30 "com/example/bytemold/bytemold/IntBits" "bits" "I" (.int (0 : Int32)) := ((D30 (Or.inr (wd hw 26 rfl)) (ty := .int) (by decide) : Fld Z h30 b30 "com/example/bytemold/bytemold/IntBits" "bits" "I" (.int (0 : Int32))).keep (Keep.ext (Keep.refl _ []) E36) nin0)
      have f40 : Fld Z h36 b30 "com/example/bytemold/bytemold/IntBits" "signed" "Z" (.int (0 : Int32)) := ((D30 (Or.inr (wd hw 28 rfl)) (ty := .boolean) (by decide) : Fld Z h30 b30 "com/example/bytemold/bytemold/IntBits" "signed" "Z" (.int (0 : Int32))).keep (Keep.ext (Keep.refl _ []) E36) nin0)
      have f41 : Fld Z h36 b30 "com/example/bytemold/bytemold/IntBits" "javaType" "Lcom/example/bytemold/bytemold/IntBits$JavaType;" .null := ((D30 (Or.inr (wd hw 30 rfl)) (ty := (.object "com/example/bytemold/bytemold/IntBits$JavaType")) (by decide) : Fld Z h30 b30 "com/example/bytemold/bytemold/IntBits" "javaType" "Lcom/example/bytemold/bytemold/IntBits$JavaType;" .null).keep (Keep.ext (Keep.refl _ []) E36) nin0)
      have f42 : Fld Z h36 b30 "com/example/bytemold/bytemold/IntBits" "sizeText" "Ljava/lang/String;" .null := ((D30 (Or.inr (wd hw 32 rfl)) (ty := (.object "java/lang/String")) (by decide) : Fld Z h30 b30 "com/example/bytemold/bytemold/IntBits" "sizeText" "Ljava/lang/String;" .null).keep (Keep.ext (Keep.refl _ []) E36) nin0)
      refine go_init K X36 (a := b30) (argsL := [(.int n), (.int (0 : Int32)), (.ref aL), (.ref b36)]) (stk := [(.ref b30)]) (wd hw 14 rfl) (wd hw 15 rfl) (wd hw 2 rfl) (wd hw 16 rfl) (by decide) rfl (lenOf pd_1 rfl) e36 (rmInit hw b30 n (0 : Int32) aL b36 (.int (0 : Int32)) (.int (0 : Int32)) .null .null h36 ga31 f38 f39 f40 f41 f42 (Or.inl rfl)) rfl rfl at_61 rfl (by decide) (W := 1) (Nat.le_of_eq rfl) (by decide) (cells' := 3) (slots' := 12) rfl rfl (by decide) (by decide) ?_
      rintro T43 h43 _ X43 e43 ⟨rfl, K43, f44, f45, f46, f47, f48⟩
      show Go _ _ _ _ _ _ _ (T43.setTop (mkF m 64 #[.val (.int p1), .val (.int p2), .val (.long q3), .second, .val (.int n), .val (.int (0 : Int32)), .val (.long (((1 : Int64) <<< (n &&& 0x3f).toInt64) - (1 : Int64))), .second, .val (.long raw), .second, .unset, .unset, .unset, .unset, .unset, .unset, .unset] [(.ref b30)]))
      have kp49 : Keep h0 h43 [] := kp37.trans K43 (allS (Or.inr gb32) all0)
      refine go_astore K X43 #[.val (.int p1), .val (.int p2), .val (.long q3), .second, .val (.int n), .val (.int (0 : Int32)), .val (.long (((1 : Int64) <<< (n &&& 0x3f).toInt64) - (1 : Int64))), .second, .val (.long raw), .second, .val (.ref b30), .unset, .unset, .unset, .unset, .unset, .unset] at_64 rfl rfl rfl ?_
      refine go_aload K X43 at_66 rfl rfl rfl ?_
      refine go_lload K X43 at_68 rfl rfl ?_
      refine go_virt K X43 (a := b30) (argsL := [(.long raw)]) (stk := []) (wd hw 33 rfl) (wd hw 34 rfl) (wd hw 36 rfl) (wd hw 36 rfl) (wd hw 35 rfl) (wd hw 37 rfl) (wd hw 2 rfl) (by decide) (lenOf pd_2 rfl) e43 f44 (rmExt hw b30 raw n (0 : Int32) h43 f45 f46) rfl rfl at_70 rfl (by decide) (W := 0) (Nat.le_of_eq rfl) (by decide) (cells' := 3) (slots' := 12) rfl rfl (by decide) (by decide) ?_
      rintro T50 h50 _ X50 e50 ⟨rfl, qe50⟩
      show Go _ _ _ _ _ _ _ (T50.setTop (mkF m 73 #[.val (.int p1), .val (.int p2), .val (.long q3), .second, .val (.int n), .val (.int (0 : Int32)), .val (.long (((1 : Int64) <<< (n &&& 0x3f).toInt64) - (1 : Int64))), .second, .val (.long raw), .second, .val (.ref b30), .unset, .unset, .unset, .unset, .unset, .unset] [(.long (own_ext n (0 : Int32) raw))]))
      replace e50 := e50.trans qe50
      refine go_lstore K X50 #[.val (.int p1), .val (.int p2), .val (.long q3), .second, .val (.int n), .val (.int (0 : Int32)), .val (.long (((1 : Int64) <<< (n &&& 0x3f).toInt64) - (1 : Int64))), .second, .val (.long raw), .second, .val (.ref b30), .val (.long (own_ext n (0 : Int32) raw)), .second, .unset, .unset, .unset, .unset] at_73 rfl rfl ?_
      refine go_iload K X50 at_75 rfl rfl ?_
      refine go_ifF K X50 at_77 rfl (by decide : (0 : Int32) = (0 : Int32)) ?_
      refine go_lload K X50 at_80 rfl rfl ?_
      refine go_lstore K X50 #[.val (.int p1), .val (.int p2), .val (.long q3), .second, .val (.int n), .val (.int (0 : Int32)), .val (.long (((1 : Int64) <<< (n &&& 0x3f).toInt64) - (1 : Int64))), .second, .val (.long raw), .second, .val (.ref b30), .val (.long (own_ext n (0 : Int32) raw)), .second, .val (.long raw), .second, .unset, .unset] at_82 rfl rfl ?_
      refine go_goto K X50 at_84 (by decide) rfl ?_
      refine go_lload K X50 at_123 rfl rfl ?_
      refine go_lload K X50 at_125 rfl rfl ?_
      refine go_lifF K X50 at_127 rfl at_128 rfl (own_ext0 _ _ : (own_ext n (0 : Int32) raw) = raw) ?_
      refine go_iconst K X50 (1 : Int32) at_131 rfl rfl ?_
      refine go_goto K X50 at_132 (by decide) rfl ?_
      refine go_retZ K X50 (Or.inr rfl) at_136 (by decide) (by decide) ?_
      rw [e50]
      exact ⟨rfl, kp49⟩
    · intro (hc29 : n = (64 : Int32))
      refine go_ldc2J K X0 (wd hw 38 rfl) at_28 rfl ?_
      refine go_goto K X0 at_31 (by decide) rfl ?_
      refine go_lstore K X0 #[.val (.int p1), .val (.int p2), .val (.long q3), .second, .val (.int n), .val (.int (0 : Int32)), .val (.long (-1 : Int64)), .second, .unset, .unset, .unset, .unset, .unset, .unset, .unset, .unset, .unset] at_40 rfl rfl ?_
      refine go_lloadN K X0 at_42 rfl rfl ?_
      refine go_lload K X0 at_43 rfl rfl ?_
      refine go_land K X0 at_45 rfl ?_
      generalize h_raw : (q3 &&& (-1 : Int64)) = raw
      refine go_lstore K X0 #[.val (.int p1), .val (.int p2), .val (.long q3), .second, .val (.int n), .val (.int (0 : Int32)), .val (.long (-1 : Int64)), .second, .val (.long raw), .second, .unset, .unset, .unset, .unset, .unset, .unset, .unset] at_46 rfl rfl ?_
      refine go_new K X0 (wd hw 0 rfl) (wd hw 1 rfl) (wd hw 2 rfl) e0 at_48 rfl (cells' := 1) (slots' := 4) rfl rfl (by decide) (by decide) ?_
      intro T51 h51 b51 g51 X51 e51 E51 A51 D51
      have ga52 : n0 ≤ b51 := Nat.le_trans H0 (Nat.le_of_eq g51.symm)
      have gb53 : h0.size ≤ b51 := Nat.le_trans (Keep.refl h0 []).1 (Nat.le_of_eq g51.symm)
      have kp54 : Keep h0 h51 [] := (Keep.refl h0 []).trans (Keep.ext (Keep.refl _ []) E51) all0
      refine go_dup K X51 at_51 rfl rfl ?_
      refine go_iload K X51 at_52 rfl rfl ?_
      refine go_iload K X51 at_54 rfl rfl ?_
      have f55 : Old Z n0 h51 := (H1.ext E51)
      refine go_getS K X51 (host := "") (Or.inl (wd hw 3 rfl)) Via.refl e51 (H2.ext f55.2) at_56 rfl ?_
      intro T56 X56 e56
      refine go_ldcS K X56 (wd hw 6 rfl) (own_satoms hw) e56 at_59 rfl (n := 4) (by decide) (by decide) (cells' := 3) (slots' := 12) rfl rfl (by decide) (by decide) ?_
      intro T57 h57 b57 X57 e57 E57
      have kp58 : Keep h0 h57 [] := kp54.trans (Keep.ext (Keep.refl _ []) E57) all0
      have f59 : Exa Z h57 b51 "com/example/bytemold/bytemold/IntBits" := (A51.keep (Keep.ext (Keep.refl _ []) E57))
      have f60 : Fld Z h57 b51 "com/example/bytemold/bytemold/IntBits" "bits" "I" (.int (0 : Int32)) := ((D51 (Or.inr (wd hw 26 rfl)) (ty := .int) (by decide) : Fld Z h51 b51 "com/example/bytemold/bytemold/IntBits" "bits" "I" (.int (0 : Int32))).keep (Keep.ext (Keep.refl _ []) E57) nin0)
      have f61 : Fld Z h57 b51 "com/example/bytemold/bytemold/IntBits" "signed" "Z" (.int (0 : Int32)) := ((D51 (Or.inr (wd hw 28 rfl)) (ty := .boolean) (by decide) : Fld Z h51 b51 "com/example/bytemold/bytemold/IntBits" "signed" "Z" (.int (0 : Int32))).keep (Keep.ext (Keep.refl _ []) E57) nin0)
      have f62 : Fld Z h57 b51 "com/example/bytemold/bytemold/IntBits" "javaType" "Lcom/example/bytemold/bytemold/IntBits$JavaType;" .null := ((D51 (Or.inr (wd hw 30 rfl)) (ty := (.object "com/example/bytemold/bytemold/IntBits$JavaType")) (by decide) : Fld Z h51 b51 "com/example/bytemold/bytemold/IntBits" "javaType" "Lcom/example/bytemold/bytemold/IntBits$JavaType;" .null).keep (Keep.ext (Keep.refl _ []) E57) nin0)
      have f63 : Fld Z h57 b51 "com/example/bytemold/bytemold/IntBits" "sizeText" "Ljava/lang/String;" .null := ((D51 (Or.inr (wd hw 32 rfl)) (ty := (.object "java/lang/String")) (by decide) : Fld Z h51 b51 "com/example/bytemold/bytemold/IntBits" "sizeText" "Ljava/lang/String;" .null).keep (Keep.ext (Keep.refl _ []) E57) nin0)
      refine go_init K X57 (a := b51) (argsL := [(.int n), (.int (0 : Int32)), (.ref aL), (.ref b57)]) (stk := [(.ref b51)]) (wd hw 14 rfl) (wd hw 15 rfl) (wd hw 2 rfl) (wd hw 16 rfl) (by decide) rfl (lenOf pd_1 rfl) e57 (rmInit hw b51 n (0 : Int32) aL b57 (.int (0 : Int32)) (.int (0 : Int32)) .null .null h57 ga52 f59 f60 f61 f62 f63 (Or.inl rfl)) rfl rfl at_61 rfl (by decide) (W := 1) (Nat.le_of_eq rfl) (by decide) (cells' := 3) (slots' := 12) rfl rfl (by decide) (by decide) ?_
      rintro T64 h64 _ X64 e64 ⟨rfl, K64, f65, f66, f67, f68, f69⟩
      show Go _ _ _ _ _ _ _ (T64.setTop (mkF m 64 #[.val (.int p1), .val (.int p2), .val (.long q3), .second, .val (.int n), .val (.int (0 : Int32)), .val (.long (-1 : Int64)), .second, .val (.long raw), .second, .unset, .unset, .unset, .unset, .unset, .unset, .unset] [(.ref b51)]))
      have kp70 : Keep h0 h64 [] := kp58.trans K64 (allS (Or.inr gb53) all0)
      refine go_astore K X64 #[.val (.int p1), .val (.int p2), .val (.long q3), .second, .val (.int n), .val (.int (0 : Int32)), .val (.long (-1 : Int64)), .second, .val (.long raw), .second, .val (.ref b51), .unset, .unset, .unset, .unset, .unset, .unset] at_64 rfl rfl rfl ?_
      refine go_aload K X64 at_66 rfl rfl rfl ?_
      refine go_lload K X64 at_68 rfl rfl ?_
      refine go_virt K X64 (a := b51) (argsL := [(.long raw)]) (stk := []) (wd hw 33 rfl) (wd hw 34 rfl) (wd hw 36 rfl) (wd hw 36 rfl) (wd hw 35 rfl) (wd hw 37 rfl) (wd hw 2 rfl) (by decide) (lenOf pd_2 rfl) e64 f65 (rmExt hw b51 raw n (0 : Int32) h64 f66 f67) rfl rfl at_70 rfl (by decide) (W := 0) (Nat.le_of_eq rfl) (by decide) (cells' := 3) (slots' := 12) rfl rfl (by decide) (by decide) ?_
      rintro T71 h71 _ X71 e71 ⟨rfl, qe71⟩
      show Go _ _ _ _ _ _ _ (T71.setTop (mkF m 73 #[.val (.int p1), .val (.int p2), .val (.long q3), .second, .val (.int n), .val (.int (0 : Int32)), .val (.long (-1 : Int64)), .second, .val (.long raw), .second, .val (.ref b51), .unset, .unset, .unset, .unset, .unset, .unset] [(.long (own_ext n (0 : Int32) raw))]))
      replace e71 := e71.trans qe71
      refine go_lstore K X71 #[.val (.int p1), .val (.int p2), .val (.long q3), .second, .val (.int n), .val (.int (0 : Int32)), .val (.long (-1 : Int64)), .second, .val (.long raw), .second, .val (.ref b51), .val (.long (own_ext n (0 : Int32) raw)), .second, .unset, .unset, .unset, .unset] at_73 rfl rfl ?_
      refine go_iload K X71 at_75 rfl rfl ?_
      refine go_ifF K X71 at_77 rfl (by decide : (0 : Int32) = (0 : Int32)) ?_
      refine go_lload K X71 at_80 rfl rfl ?_
      refine go_lstore K X71 #[.val (.int p1), .val (.int p2), .val (.long q3), .second, .val (.int n), .val (.int (0 : Int32)), .val (.long (-1 : Int64)), .second, .val (.long raw), .second, .val (.ref b51), .val (.long (own_ext n (0 : Int32) raw)), .second, .val (.long raw), .second, .unset, .unset] at_82 rfl rfl ?_
      refine go_goto K X71 at_84 (by decide) rfl ?_
      refine go_lload K X71 at_123 rfl rfl ?_
      refine go_lload K X71 at_125 rfl rfl ?_
      refine go_lifF K X71 at_127 rfl at_128 rfl (own_ext0 _ _ : (own_ext n (0 : Int32) raw) = raw) ?_
      refine go_iconst K X71 (1 : Int32) at_131 rfl rfl ?_
      refine go_goto K X71 at_132 (by decide) rfl ?_
      refine go_retZ K X71 (Or.inr rfl) at_136 (by decide) (by decide) ?_
      rw [e71]
      exact ⟨rfl, kp70⟩
  · intro (hc28 : ¬ (p2 &&& (1 : Int32)) = (0 : Int32))
    refine go_iconst K X0 (1 : Int32) at_14 rfl rfl ?_
    refine go_goto K X0 at_15 (by decide) rfl ?_
    refine go_istore K X0 #[.val (.int p1), .val (.int p2), .val (.long q3), .second, .val (.int n), .val (.int (1 : Int32)), .unset, .unset, .unset, .unset, .unset, .unset, .unset, .unset, .unset, .unset, .unset] at_19 rfl rfl ?_
    refine go_iload K X0 at_21 rfl rfl ?_
    refine go_bipush K X0 (64 : Int32) at_23 rfl rfl ?_
    refine go_icmp K X0 at_25 (by decide) rfl rfl ?_ ?_
    · intro (hc72 : ¬ n = (64 : Int32))
      refine go_lconst K X0 (1 : Int64) at_34 rfl rfl ?_
      refine go_iload K X0 at_35 rfl rfl ?_
      refine go_lshl K X0 at_37 rfl ?_
      refine go_lconst K X0 (1 : Int64) at_38 rfl rfl ?_
      refine go_lsub K X0 at_39 rfl ?_
      refine go_lstore K X0 #[.val (.int p1), .val (.int p2), .val (.long q3), .second, .val (.int n), .val (.int (1 : Int32)), .val (.long (((1 : Int64) <<< (n &&& 0x3f).toInt64) - (1 : Int64))), .second, .unset, .unset, .unset, .unset, .unset, .unset, .unset, .unset, .unset] at_40 rfl rfl ?_
      refine go_lloadN K X0 at_42 rfl rfl ?_
      refine go_lload K X0 at_43 rfl rfl ?_
      refine go_land K X0 at_45 rfl ?_
      generalize h_raw : (q3 &&& (((1 : Int64) <<< (n &&& 0x3f).toInt64) - (1 : Int64))) = raw
      refine go_lstore K X0 #[.val (.int p1), .val (.int p2), .val (.long q3), .second, .val (.int n), .val (.int (1 : Int32)), .val (.long (((1 : Int64) <<< (n &&& 0x3f).toInt64) - (1 : Int64))), .second, .val (.long raw), .second, .unset, .unset, .unset, .unset, .unset, .unset, .unset] at_46 rfl rfl ?_
      refine go_new K X0 (wd hw 0 rfl) (wd hw 1 rfl) (wd hw 2 rfl) e0 at_48 rfl (cells' := 1) (slots' := 4) rfl rfl (by decide) (by decide) ?_
      intro T73 h73 b73 g73 X73 e73 E73 A73 D73
      have ga74 : n0 ≤ b73 := Nat.le_trans H0 (Nat.le_of_eq g73.symm)
      have gb75 : h0.size ≤ b73 := Nat.le_trans (Keep.refl h0 []).1 (Nat.le_of_eq g73.symm)
      have kp76 : Keep h0 h73 [] := (Keep.refl h0 []).trans (Keep.ext (Keep.refl _ []) E73) all0
      refine go_dup K X73 at_51 rfl rfl ?_
      refine go_iload K X73 at_52 rfl rfl ?_
      refine go_iload K X73 at_54 rfl rfl ?_
      have f77 : Old Z n0 h73 := (H1.ext E73)
      refine go_getS K X73 (host := "") (Or.inl (wd hw 3 rfl)) Via.refl e73 (H2.ext f77.2) at_56 rfl ?_
      intro T78 X78 e78
      refine go_ldcS K X78 (wd hw 6 rfl) (own_satoms hw) e78 at_59 rfl (n := 4) (by decide) (by decide) (cells' := 3) (slots' := 12) rfl rfl (by decide) (by decide) ?_
      intro T79 h79 b79 X79 e79 E79
      have kp80 : Keep h0 h79 [] := kp76.trans (Keep.ext (Keep.refl _ []) E79) all0
      have f81 : Exa Z h79 b73 "com/example/bytemold/bytemold/IntBits" := (A73.keep (Keep.ext (Keep.refl _ []) E79))
      have f82 : Fld Z h79 b73 "com/example/bytemold/bytemold/IntBits" "bits" "I" (.int (0 : Int32)) := ((D73 (Or.inr (wd hw 26 rfl)) (ty := .int) (by decide) : Fld Z h73 b73 "com/example/bytemold/bytemold/IntBits" "bits" "I" (.int (0 : Int32))).keep (Keep.ext (Keep.refl _ []) E79) nin0)
      have f83 : Fld Z h79 b73 "com/example/bytemold/bytemold/IntBits" "signed" "Z" (.int (0 : Int32)) := ((D73 (Or.inr (wd hw 28 rfl)) (ty := .boolean) (by decide) : Fld Z h73 b73 "com/example/bytemold/bytemold/IntBits" "signed" "Z" (.int (0 : Int32))).keep (Keep.ext (Keep.refl _ []) E79) nin0)
      have f84 : Fld Z h79 b73 "com/example/bytemold/bytemold/IntBits" "javaType" "Lcom/example/bytemold/bytemold/IntBits$JavaType;" .null := ((D73 (Or.inr (wd hw 30 rfl)) (ty := (.object "com/example/bytemold/bytemold/IntBits$JavaType")) (by decide) : Fld Z h73 b73 "com/example/bytemold/bytemold/IntBits" "javaType" "Lcom/example/bytemold/bytemold/IntBits$JavaType;" .null).keep (Keep.ext (Keep.refl _ []) E79) nin0)
      have f85 : Fld Z h79 b73 "com/example/bytemold/bytemold/IntBits" "sizeText" "Ljava/lang/String;" .null := ((D73 (Or.inr (wd hw 32 rfl)) (ty := (.object "java/lang/String")) (by decide) : Fld Z h73 b73 "com/example/bytemold/bytemold/IntBits" "sizeText" "Ljava/lang/String;" .null).keep (Keep.ext (Keep.refl _ []) E79) nin0)
      refine go_init K X79 (a := b73) (argsL := [(.int n), (.int (1 : Int32)), (.ref aL), (.ref b79)]) (stk := [(.ref b73)]) (wd hw 14 rfl) (wd hw 15 rfl) (wd hw 2 rfl) (wd hw 16 rfl) (by decide) rfl (lenOf pd_1 rfl) e79 (rmInit hw b73 n (1 : Int32) aL b79 (.int (0 : Int32)) (.int (0 : Int32)) .null .null h79 ga74 f81 f82 f83 f84 f85 (Or.inr rfl)) rfl rfl at_61 rfl (by decide) (W := 1) (Nat.le_of_eq rfl) (by decide) (cells' := 3) (slots' := 12) rfl rfl (by decide) (by decide) ?_
      rintro T86 h86 _ X86 e86 ⟨rfl, K86, f87, f88, f89, f90, f91⟩
      show Go _ _ _ _ _ _ _ (T86.setTop (mkF m 64 #[.val (.int p1), .val (.int p2), .val (.long q3), .second, .val (.int n), .val (.int (1 : Int32)), .val (.long (((1 : Int64) <<< (n &&& 0x3f).toInt64) - (1 : Int64))), .second, .val (.long raw), .second, .unset, .unset, .unset, .unset, .unset, .unset, .unset] [(.ref b73)]))
      have kp92 : Keep h0 h86 [] := kp80.trans K86 (allS (Or.inr gb75) all0)
      refine go_astore K X86 #[.val (.int p1), .val (.int p2), .val (.long q3), .second, .val (.int n), .val (.int (1 : Int32)), .val (.long (((1 : Int64) <<< (n &&& 0x3f).toInt64) - (1 : Int64))), .second, .val (.long raw), .second, .val (.ref b73), .unset, .unset, .unset, .unset, .unset, .unset] at_64 rfl rfl rfl ?_
      refine go_aload K X86 at_66 rfl rfl rfl ?_
      refine go_lload K X86 at_68 rfl rfl ?_
      refine go_virt K X86 (a := b73) (argsL := [(.long raw)]) (stk := []) (wd hw 33 rfl) (wd hw 34 rfl) (wd hw 36 rfl) (wd hw 36 rfl) (wd hw 35 rfl) (wd hw 37 rfl) (wd hw 2 rfl) (by decide) (lenOf pd_2 rfl) e86 f87 (rmExt hw b73 raw n (1 : Int32) h86 f88 f89) rfl rfl at_70 rfl (by decide) (W := 0) (Nat.le_of_eq rfl) (by decide) (cells' := 3) (slots' := 12) rfl rfl (by decide) (by decide) ?_
      rintro T93 h93 _ X93 e93 ⟨rfl, qe93⟩
      show Go _ _ _ _ _ _ _ (T93.setTop (mkF m 73 #[.val (.int p1), .val (.int p2), .val (.long q3), .second, .val (.int n), .val (.int (1 : Int32)), .val (.long (((1 : Int64) <<< (n &&& 0x3f).toInt64) - (1 : Int64))), .second, .val (.long raw), .second, .val (.ref b73), .unset, .unset, .unset, .unset, .unset, .unset] [(.long (own_ext n (1 : Int32) raw))]))
      replace e93 := e93.trans qe93
      refine go_lstore K X93 #[.val (.int p1), .val (.int p2), .val (.long q3), .second, .val (.int n), .val (.int (1 : Int32)), .val (.long (((1 : Int64) <<< (n &&& 0x3f).toInt64) - (1 : Int64))), .second, .val (.long raw), .second, .val (.ref b73), .val (.long (own_ext n (1 : Int32) raw)), .second, .unset, .unset, .unset, .unset] at_73 rfl rfl ?_
      refine go_iload K X93 at_75 rfl rfl ?_
      refine go_ifT K X93 at_77 (by decide) rfl (by decide : ¬ (1 : Int32) = (0 : Int32)) ?_
      refine go_lconst K X93 (1 : Int64) at_87 rfl rfl ?_
      refine go_iload K X93 at_88 rfl rfl ?_
      refine go_iconst K X93 (1 : Int32) at_90 rfl rfl ?_
      refine go_isub K X93 at_91 rfl ?_
      refine go_lshl K X93 at_92 rfl ?_
      refine go_lstore K X93 #[.val (.int p1), .val (.int p2), .val (.long q3), .second, .val (.int n), .val (.int (1 : Int32)), .val (.long (((1 : Int64) <<< (n &&& 0x3f).toInt64) - (1 : Int64))), .second, .val (.long raw), .second, .val (.ref b73), .val (.long (own_ext n (1 : Int32) raw)), .second, .unset, .unset, .val (.long ((1 : Int64) <<< ((n - (1 : Int32)) &&& 0x3f).toInt64)), .second] at_93 rfl rfl ?_
      refine go_lload K X93 at_95 rfl rfl ?_
      refine go_lload K X93 at_97 rfl rfl ?_
      refine go_land K X93 at_99 rfl ?_
      refine go_lconst K X93 (0 : Int64) at_100 rfl rfl ?_
      refine go_lif K X93 at_101 rfl at_102 (by decide) rfl rfl ?_ ?_
      · intro (hc94 : (raw &&& ((1 : Int64) <<< ((n - (1 : Int32)) &&& 0x3f).toInt64)) = (0 : Int64))
        refine go_lload K X93 at_119 rfl rfl ?_
        refine go_lstore K X93 #[.val (.int p1), .val (.int p2), .val (.long q3), .second, .val (.int n), .val (.int (1 : Int32)), .val (.long (((1 : Int64) <<< (n &&& 0x3f).toInt64) - (1 : Int64))), .second, .val (.long raw), .second, .val (.ref b73), .val (.long (own_ext n (1 : Int32) raw)), .second, .val (.long raw), .second, .val (.long ((1 : Int64) <<< ((n - (1 : Int32)) &&& 0x3f).toInt64)), .second] at_121 rfl rfl ?_
        refine go_lload K X93 at_123 rfl rfl ?_
        refine go_lload K X93 at_125 rfl rfl ?_
        refine go_lifF K X93 at_127 rfl at_128 rfl (own_finN_z hn hc72 h_raw hc94 : (own_ext n (1 : Int32) raw) = raw) ?_
        refine go_iconst K X93 (1 : Int32) at_131 rfl rfl ?_
        refine go_goto K X93 at_132 (by decide) rfl ?_
        refine go_retZ K X93 (Or.inr rfl) at_136 (by decide) (by decide) ?_
        rw [e93]
        exact ⟨rfl, kp92⟩
      · intro (hc94 : ¬ (raw &&& ((1 : Int64) <<< ((n - (1 : Int32)) &&& 0x3f).toInt64)) = (0 : Int64))
        refine go_lload K X93 at_105 rfl rfl ?_
        refine go_lload K X93 at_107 rfl rfl ?_
        refine go_ldc2J K X93 (wd hw 38 rfl) at_109 rfl ?_
        refine go_lxor K X93 at_112 rfl ?_
        refine go_lor K X93 at_113 rfl ?_
        refine go_lstore K X93 #[.val (.int p1), .val (.int p2), .val (.long q3), .second, .val (.int n), .val (.int (1 : Int32)), .val (.long (((1 : Int64) <<< (n &&& 0x3f).toInt64) - (1 : Int64))), .second, .val (.long raw), .second, .val (.ref b73), .val (.long (own_ext n (1 : Int32) raw)), .second, .val (.long (raw ||| ((((1 : Int64) <<< (n &&& 0x3f).toInt64) - (1 : Int64)) ^^^ (-1 : Int64)))), .second, .val (.long ((1 : Int64) <<< ((n - (1 : Int32)) &&& 0x3f).toInt64)), .second] at_114 rfl rfl ?_
        refine go_goto K X93 at_116 (by decide) rfl ?_
        refine go_lload K X93 at_123 rfl rfl ?_
        refine go_lload K X93 at_125 rfl rfl ?_
        refine go_lifF K X93 at_127 rfl at_128 rfl (own_finN_s hn hc72 h_raw hc94 : (own_ext n (1 : Int32) raw) = (raw ||| ((((1 : Int64) <<< (n &&& 0x3f).toInt64) - (1 : Int64)) ^^^ (-1 : Int64)))) ?_
        refine go_iconst K X93 (1 : Int32) at_131 rfl rfl ?_
        refine go_goto K X93 at_132 (by decide) rfl ?_
        refine go_retZ K X93 (Or.inr rfl) at_136 (by decide) (by decide) ?_
        rw [e93]
        exact ⟨rfl, kp92⟩
    · intro (hc72 : n = (64 : Int32))
      refine go_ldc2J K X0 (wd hw 38 rfl) at_28 rfl ?_
      refine go_goto K X0 at_31 (by decide) rfl ?_
      refine go_lstore K X0 #[.val (.int p1), .val (.int p2), .val (.long q3), .second, .val (.int n), .val (.int (1 : Int32)), .val (.long (-1 : Int64)), .second, .unset, .unset, .unset, .unset, .unset, .unset, .unset, .unset, .unset] at_40 rfl rfl ?_
      refine go_lloadN K X0 at_42 rfl rfl ?_
      refine go_lload K X0 at_43 rfl rfl ?_
      refine go_land K X0 at_45 rfl ?_
      generalize h_raw : (q3 &&& (-1 : Int64)) = raw
      refine go_lstore K X0 #[.val (.int p1), .val (.int p2), .val (.long q3), .second, .val (.int n), .val (.int (1 : Int32)), .val (.long (-1 : Int64)), .second, .val (.long raw), .second, .unset, .unset, .unset, .unset, .unset, .unset, .unset] at_46 rfl rfl ?_
      refine go_new K X0 (wd hw 0 rfl) (wd hw 1 rfl) (wd hw 2 rfl) e0 at_48 rfl (cells' := 1) (slots' := 4) rfl rfl (by decide) (by decide) ?_
      intro T95 h95 b95 g95 X95 e95 E95 A95 D95
      have ga96 : n0 ≤ b95 := Nat.le_trans H0 (Nat.le_of_eq g95.symm)
      have gb97 : h0.size ≤ b95 := Nat.le_trans (Keep.refl h0 []).1 (Nat.le_of_eq g95.symm)
      have kp98 : Keep h0 h95 [] := (Keep.refl h0 []).trans (Keep.ext (Keep.refl _ []) E95) all0
      refine go_dup K X95 at_51 rfl rfl ?_
      refine go_iload K X95 at_52 rfl rfl ?_
      refine go_iload K X95 at_54 rfl rfl ?_
      have f99 : Old Z n0 h95 := (H1.ext E95)
      refine go_getS K X95 (host := "") (Or.inl (wd hw 3 rfl)) Via.refl e95 (H2.ext f99.2) at_56 rfl ?_
      intro T100 X100 e100
      refine go_ldcS K X100 (wd hw 6 rfl) (own_satoms hw) e100 at_59 rfl (n := 4) (by decide) (by decide) (cells' := 3) (slots' := 12) rfl rfl (by decide) (by decide) ?_
      intro T101 h101 b101 X101 e101 E101
      have kp102 : Keep h0 h101 [] := kp98.trans (Keep.ext (Keep.refl _ []) E101) all0
      have f103 : Exa Z h101 b95 "com/example/bytemold/bytemold/IntBits" := (A95.keep (Keep.ext (Keep.refl _ []) E101))
      have f104 : Fld Z h101 b95 "com/example/bytemold/bytemold/IntBits" "bits" "I" (.int (0 : Int32)) := ((D95 (Or.inr (wd hw 26 rfl)) (ty := .int) (by decide) : Fld Z h95 b95 "com/example/bytemold/bytemold/IntBits" "bits" "I" (.int (0 : Int32))).keep (Keep.ext (Keep.refl _ []) E101) nin0)
      have f105 : Fld Z h101 b95 "com/example/bytemold/bytemold/IntBits" "signed" "Z" (.int (0 : Int32)) := ((D95 (Or.inr (wd hw 28 rfl)) (ty := .boolean) (by decide) : Fld Z h95 b95 "com/example/bytemold/bytemold/IntBits" "signed" "Z" (.int (0 : Int32))).keep (Keep.ext (Keep.refl _ []) E101) nin0)
      have f106 : Fld Z h101 b95 "com/example/bytemold/bytemold/IntBits" "javaType" "Lcom/example/bytemold/bytemold/IntBits$JavaType;" .null := ((D95 (Or.inr (wd hw 30 rfl)) (ty := (.object "com/example/bytemold/bytemold/IntBits$JavaType")) (by decide) : Fld Z h95 b95 "com/example/bytemold/bytemold/IntBits" "javaType" "Lcom/example/bytemold/bytemold/IntBits$JavaType;" .null).keep (Keep.ext (Keep.refl _ []) E101) nin0)
      have f107 : Fld Z h101 b95 "com/example/bytemold/bytemold/IntBits" "sizeText" "Ljava/lang/String;" .null := ((D95 (Or.inr (wd hw 32 rfl)) (ty := (.object "java/lang/String")) (by decide) : Fld Z h95 b95 "com/example/bytemold/bytemold/IntBits" "sizeText" "Ljava/lang/String;" .null).keep (Keep.ext (Keep.refl _ []) E101) nin0)
      refine go_init K X101 (a := b95) (argsL := [(.int n), (.int (1 : Int32)), (.ref aL), (.ref b101)]) (stk := [(.ref b95)]) (wd hw 14 rfl) (wd hw 15 rfl) (wd hw 2 rfl) (wd hw 16 rfl) (by decide) rfl (lenOf pd_1 rfl) e101 (rmInit hw b95 n (1 : Int32) aL b101 (.int (0 : Int32)) (.int (0 : Int32)) .null .null h101 ga96 f103 f104 f105 f106 f107 (Or.inr rfl)) rfl rfl at_61 rfl (by decide) (W := 1) (Nat.le_of_eq rfl) (by decide) (cells' := 3) (slots' := 12) rfl rfl (by decide) (by decide) ?_
      rintro T108 h108 _ X108 e108 ⟨rfl, K108, f109, f110, f111, f112, f113⟩
      show Go _ _ _ _ _ _ _ (T108.setTop (mkF m 64 #[.val (.int p1), .val (.int p2), .val (.long q3), .second, .val (.int n), .val (.int (1 : Int32)), .val (.long (-1 : Int64)), .second, .val (.long raw), .second, .unset, .unset, .unset, .unset, .unset, .unset, .unset] [(.ref b95)]))
      have kp114 : Keep h0 h108 [] := kp102.trans K108 (allS (Or.inr gb97) all0)
      refine go_astore K X108 #[.val (.int p1), .val (.int p2), .val (.long q3), .second, .val (.int n), .val (.int (1 : Int32)), .val (.long (-1 : Int64)), .second, .val (.long raw), .second, .val (.ref b95), .unset, .unset, .unset, .unset, .unset, .unset] at_64 rfl rfl rfl ?_
      refine go_aload K X108 at_66 rfl rfl rfl ?_
      refine go_lload K X108 at_68 rfl rfl ?_
      refine go_virt K X108 (a := b95) (argsL := [(.long raw)]) (stk := []) (wd hw 33 rfl) (wd hw 34 rfl) (wd hw 36 rfl) (wd hw 36 rfl) (wd hw 35 rfl) (wd hw 37 rfl) (wd hw 2 rfl) (by decide) (lenOf pd_2 rfl) e108 f109 (rmExt hw b95 raw n (1 : Int32) h108 f110 f111) rfl rfl at_70 rfl (by decide) (W := 0) (Nat.le_of_eq rfl) (by decide) (cells' := 3) (slots' := 12) rfl rfl (by decide) (by decide) ?_
      rintro T115 h115 _ X115 e115 ⟨rfl, qe115⟩
      show Go _ _ _ _ _ _ _ (T115.setTop (mkF m 73 #[.val (.int p1), .val (.int p2), .val (.long q3), .second, .val (.int n), .val (.int (1 : Int32)), .val (.long (-1 : Int64)), .second, .val (.long raw), .second, .val (.ref b95), .unset, .unset, .unset, .unset, .unset, .unset] [(.long (own_ext n (1 : Int32) raw))]))
      replace e115 := e115.trans qe115
      refine go_lstore K X115 #[.val (.int p1), .val (.int p2), .val (.long q3), .second, .val (.int n), .val (.int (1 : Int32)), .val (.long (-1 : Int64)), .second, .val (.long raw), .second, .val (.ref b95), .val (.long (own_ext n (1 : Int32) raw)), .second, .unset, .unset, .unset, .unset] at_73 rfl rfl ?_
      refine go_iload K X115 at_75 rfl rfl ?_
      refine go_ifT K X115 at_77 (by decide) rfl (by decide : ¬ (1 : Int32) = (0 : Int32)) ?_
      refine go_lconst K X115 (1 : Int64) at_87 rfl rfl ?_
      refine go_iload K X115 at_88 rfl rfl ?_
      refine go_iconst K X115 (1 : Int32) at_90 rfl rfl ?_
      refine go_isub K X115 at_91 rfl ?_
      refine go_lshl K X115 at_92 rfl ?_
      refine go_lstore K X115 #[.val (.int p1), .val (.int p2), .val (.long q3), .second, .val (.int n), .val (.int (1 : Int32)), .val (.long (-1 : Int64)), .second, .val (.long raw), .second, .val (.ref b95), .val (.long (own_ext n (1 : Int32) raw)), .second, .unset, .unset, .val (.long ((1 : Int64) <<< ((n - (1 : Int32)) &&& 0x3f).toInt64)), .second] at_93 rfl rfl ?_
      refine go_lload K X115 at_95 rfl rfl ?_
      refine go_lload K X115 at_97 rfl rfl ?_
      refine go_land K X115 at_99 rfl ?_
      refine go_lconst K X115 (0 : Int64) at_100 rfl rfl ?_
      refine go_lif K X115 at_101 rfl at_102 (by decide) rfl rfl ?_ ?_
      · intro (hc116 : (raw &&& ((1 : Int64) <<< ((n - (1 : Int32)) &&& 0x3f).toInt64)) = (0 : Int64))
        refine go_lload K X115 at_119 rfl rfl ?_
        refine go_lstore K X115 #[.val (.int p1), .val (.int p2), .val (.long q3), .second, .val (.int n), .val (.int (1 : Int32)), .val (.long (-1 : Int64)), .second, .val (.long raw), .second, .val (.ref b95), .val (.long (own_ext n (1 : Int32) raw)), .second, .val (.long raw), .second, .val (.long ((1 : Int64) <<< ((n - (1 : Int32)) &&& 0x3f).toInt64)), .second] at_121 rfl rfl ?_
        refine go_lload K X115 at_123 rfl rfl ?_
        refine go_lload K X115 at_125 rfl rfl ?_
        refine go_lifF K X115 at_127 rfl at_128 rfl (own_fin64_z hn hc72 h_raw hc116 : (own_ext n (1 : Int32) raw) = raw) ?_
        refine go_iconst K X115 (1 : Int32) at_131 rfl rfl ?_
        refine go_goto K X115 at_132 (by decide) rfl ?_
        refine go_retZ K X115 (Or.inr rfl) at_136 (by decide) (by decide) ?_
        rw [e115]
        exact ⟨rfl, kp114⟩
      · intro (hc116 : ¬ (raw &&& ((1 : Int64) <<< ((n - (1 : Int32)) &&& 0x3f).toInt64)) = (0 : Int64))
        refine go_lload K X115 at_105 rfl rfl ?_
        refine go_lload K X115 at_107 rfl rfl ?_
        refine go_ldc2J K X115 (wd hw 38 rfl) at_109 rfl ?_
        refine go_lxor K X115 at_112 rfl ?_
        rw [show ((-1 : Int64) ^^^ (-1 : Int64)) = (0 : Int64) from by decide]
        refine go_lor K X115 at_113 rfl ?_
        refine go_lstore K X115 #[.val (.int p1), .val (.int p2), .val (.long q3), .second, .val (.int n), .val (.int (1 : Int32)), .val (.long (-1 : Int64)), .second, .val (.long raw), .second, .val (.ref b95), .val (.long (own_ext n (1 : Int32) raw)), .second, .val (.long (raw ||| (0 : Int64))), .second, .val (.long ((1 : Int64) <<< ((n - (1 : Int32)) &&& 0x3f).toInt64)), .second] at_114 rfl rfl ?_
        refine go_goto K X115 at_116 (by decide) rfl ?_
        refine go_lload K X115 at_123 rfl rfl ?_
        refine go_lload K X115 at_125 rfl rfl ?_
        refine go_lifF K X115 at_127 rfl at_128 rfl (own_fin64_s hn hc72 h_raw hc116 : (own_ext n (1 : Int32) raw) = (raw ||| (0 : Int64))) ?_
        refine go_iconst K X115 (1 : Int32) at_131 rfl rfl ?_
        refine go_goto K X115 at_132 (by decide) rfl ?_
        refine go_retZ K X115 (Or.inr rfl) at_136 (by decide) (by decide) ?_
        rw [e115]
        exact ⟨rfl, kp114⟩
set_option maxRecDepth 65536 in
set_option maxHeartbeats 40000000 in
theorem comes_1 {Post : Tables → Env → Array Value → State → Outcome → State → Prop} (hpost : ∀ tb e args s v u, (limb_1_1.after args s (.returned v) u = true ∧ limb_1_2.after args s (.returned v) u = true ∧ True) → ReturnedEndW s (.returned v) u (Jvm.fieldLocs frame_1_writes args s ++ Jvm.arrayLocs frame_1_arrays args s ++ Jvm.staticLocs frame_1_statics s) 16 1152 → Post tb e args s (.returned v) u) :
    ArmFor flags0 classFile x code maxLocals ret World_1 tables_1 room_1 Calls_1 rest_1 Pre_1 Post := by
  intro l hfl _ _ p e ha hc hk s m args below hf hA hF happ hP
  obtain ⟨hcalls, hrest, hpre⟩ := hP
  obtain ⟨-, -, -, hnamed, -, -, -, hat⟩ := (Spec.applies_iff hf).mp happ
  obtain ⟨hg, hn⟩ := and_e (Cond.before_iff.mp (show (Jvm.Cond.and given_1 narrow_1).before args s = true from hpre))
  obtain ⟨g1, g2⟩ := and_e hg
  obtain ⟨g3, g4⟩ := and_e g2
  obtain ⟨g5, g6⟩ := and_e g4
  obtain ⟨w0, w1, w2, rfl⟩ : ∃ w0 w1 w2 : Value, args = #[w0, w1, w2] := by
    have hs : args.size = 3 := by simpa [Cond.value, given_1] using g1
    obtain ⟨L⟩ := args
    match L, hs with
    | [w0, w1, w2], _ => exact ⟨w0, w1, w2, rfl⟩
  have hw := fun d (hd : d ∈ tables_1) => atoms_spec (ws := Jvm.Cond.code x code maxLocals ret :: tables_1) hat d (List.mem_cons_of_mem _ hd)
  have hfit : Fit s := fun {y c} hc i hi => by
    obtain ⟨ha, rfl⟩ := Array.getElem?_eq_some_iff.mp hc
    have q := List.all_eq_true.mp ((Array.all_eq_true_iff_forall_mem.mp hF) _ (Array.getElem_mem ha)) i (List.mem_range.mpr hi)
    simpa [Array.getElem?_eq_getElem hi] using q
  obtain ⟨i0, ei0⟩ := is_v g3
  obtain rfl : w0 = (.int i0) := Option.some.inj ei0
  obtain ⟨i1, ei1⟩ := is_v g5
  obtain rfl : w1 = (.int i1) := Option.some.inj ei1
  obtain ⟨i2, ei2⟩ := isL_v g6
  obtain rfl : w2 = (.long i2) := Option.some.inj ei2
  obtain ⟨aL, vaL⟩ := exa_v hn
  have saL := Sta.start vaL (Or.inr ⟨(wd hw 4 rfl), (wd hw 5 rfl)⟩)
  obtain ⟨n, o, h1, h2, h3, _, L, rfl, ⟨⟨rfl, -⟩, N⟩, hq⟩ := rmLaw (l := l) (n0 := s.heap.size) hw i0 i1 i2 aL s.heap (Nat.le_refl _) (Old.start s) saL tables_1 p e ha hc hk s m _ below hf ((Spec.applies_iff_loose hf).mp happ).1 ⟨rfl, State.Warmed39.refl s, rfl⟩ trivial
  refine ⟨n, _, h1, h2, h3, hpost _ _ _ _ _ _ ⟨Cond.after_iff.mpr rfl, Cond.after_iff.mpr (eq_i res_at (Term.int_eval (1)) rfl), trivial⟩ ⟨hq.1, hq.2.1, hq.2.2.1, (hq.2.2.2.sift fun y hy => Or.inr (N y hy)).mono (by decide) (by decide)⟩⟩
theorem main_1_1 : Claimed_1_1 := comes_1 fun _ _ _ _ _ _ h hF => ⟨h.1, hF⟩
theorem main_1_2 : Claimed_1_2 := comes_1 fun _ _ _ _ _ _ h hF => ⟨h.2.1, hF⟩
end Jvm.Pilot.@@N@@
namespace Jvm.Pilot.@@N@@
open Jvm Jvm.ClassFile Sem Op Lib Jvm.Free Jvm.Stand Jvm.Pilot.@@N@@.Jvm.D
/-! MADE BY PROGRAM (witnessworld.py) out of the Statement's table words and the real class files: 17 classes; the members and pool entries that the words name. The judged class is class 1, her method 1. -/
namespace start1
open Jvm.ClassFile
def u (s : String) : CpInfo := .utf8 (stringToUtf16 s)
/-- a pool by its gaps: so many unusable entries, then the entry; so many at the end -/
def gap : Nat → List CpInfo → List CpInfo
  | 0, r => r
  | n + 1, r => .unusable :: gap n r
def poolList (es : List (Nat × CpInfo)) (last : Nat) : List CpInfo := es.foldr (fun e r => gap e.1 (e.2 :: r)) (gap last [])
def pool (es : List (Nat × CpInfo)) (last : Nat) : Array CpInfo := ⟨poolList es last⟩
def fileOf (pool : Array CpInfo) (this : Nat) (attrs : Array Attribute := #[]) (ms : Array MethodInfo := #[]) (fl : Nat := 33) (sup : Nat := 0) (ifs : Array Nat := #[]) (fds : Array FieldInfo := #[]) : ClassFile where
  minorVersion := 0
  majorVersion := 65
  constantPool := pool
  accessFlags := fl
  thisClass := this
  superClass := sup
  interfaces := ifs
  fields := fds
  methods := ms
  attributes := attrs
def plain (name : String) (sup : Option ClassId) : Class where
  name := name
  kind := .ordinary
  loader := none
  accessFlags := 33
  super := sup
  interfaces := #[]
  cf := none
  fields := #[]
  methods := #[]
  instanceTypes := #[]
  staticTypes := #[]
  resolved := #[]
  callSites := []
  init := .initialized
  statics := none
  mirror := none

def pool0 : Array CpInfo := pool [(5, u "<init>"), (0, u "()V"), (1, .class_ 10), (1, u "java/lang/Object")] 113

def k0c0 : Code := { maxStack := 0, maxLocals := 1, code := object_method_1_code, exceptionTable := #[], attributes := #[] }
def k0m0 : Method := { name := "<init>", desc := "()V", sig := { parameters := [], returnType := none }, accessFlags := 1, code := some k0c0 }
/-- java/lang/Object -/
def k0 : Class := { plain "java/lang/Object" none with
  accessFlags := 33
  interfaces := #[]
  cf := some (fileOf pool0 8 #[] #[{ accessFlags := 1, nameIndex := 5, descriptorIndex := 6, attributes := #[] }] 33 0 #[] #[])
  fields := #[]
  methods := #[k0m0]
  instanceTypes := #[]
  staticTypes := #[]
  resolved := Array.replicate 124 none
  statics := none }

def pool1 : Array CpInfo := pool [(2, .class_ 4), (1, u "java/lang/Object"), (0, u "<init>"), (0, u "()V"), (0, .long 18446744073709551615), (1, .class_ 10), (0, u "com/example/bytemold/bytemold/IntBits"), (0, .fieldref 12 13), (0, .class_ 14), (0, .nameAndType 15 16), (0, u "com/example/bytemold/bytemold/IntBits$JavaType"), (0, u "LONG"), (0, u "Lcom/example/bytemold/bytemold/IntBits$JavaType;"), (0, .string 18), (0, u "x"), (0, .methodref 9 20), (0, .nameAndType 5 21), (0, u "(IZLcom/example/bytemold/bytemold/IntBits$JavaType;Ljava/lang/String;)V"), (0, .methodref 9 23), (0, .nameAndType 24 25), (0, u "extend"), (0, u "(J)J"), (0, .class_ 27), (0, u "com/example/bytemold/bytemold/IntBitsExtendPinLaw"), (2, u "law"), (0, u "(IIJ)Z")] 5

def k1m0 : Method := { name := "<init>", desc := "()V", sig := { parameters := [], returnType := none }, accessFlags := 1, code := none }
def k1c1 : Code := { maxStack := 6, maxLocals := 17, code := code, exceptionTable := #[], attributes := #[] }
def k1m1 : Method := { name := "law", desc := "(IIJ)Z", sig := { parameters := [.int, .int, .long], returnType := some .boolean }, accessFlags := 9, code := some k1c1 }
/-- com/example/bytemold/bytemold/IntBitsExtendPinLaw -/
def k1 : Class := { plain "com/example/bytemold/bytemold/IntBitsExtendPinLaw" (some 0) with
  accessFlags := 49
  interfaces := #[]
  cf := some (fileOf pool1 26 #[] #[{ accessFlags := 1, nameIndex := 5, descriptorIndex := 6, attributes := #[] }, { accessFlags := 9, nameIndex := 30, descriptorIndex := 31, attributes := #[] }] 49 2 #[] #[])
  fields := #[]
  methods := #[k1m0, k1m1]
  instanceTypes := #[]
  staticTypes := #[]
  resolved := Array.replicate 37 none
  statics := none }

def pool2 : Array CpInfo := pool [(1, .methodref 2 3), (0, .class_ 4), (0, .nameAndType 5 6), (0, u "java/lang/Object"), (0, u "<init>"), (0, u "()V"), (0, .class_ 8), (0, u "java/lang/Record")] 13

def k2c0 : Code := { maxStack := 1, maxLocals := 1, code := jdk_30_method_1_code, exceptionTable := #[], attributes := #[] }
def k2m0 : Method := { name := "<init>", desc := "()V", sig := { parameters := [], returnType := none }, accessFlags := 4, code := some k2c0 }
/-- java/lang/Record -/
def k2 : Class := { plain "java/lang/Record" (some 0) with
  accessFlags := 1057
  interfaces := #[]
  cf := some (fileOf pool2 7 #[] #[{ accessFlags := 4, nameIndex := 5, descriptorIndex := 6, attributes := #[] }] 1057 2 #[] #[])
  fields := #[]
  methods := #[k2m0]
  instanceTypes := #[]
  staticTypes := #[]
  resolved := Array.replicate 22 none
  statics := none }

def pool3 : Array CpInfo := pool [(1, .methodref 2 3), (0, .class_ 4), (0, .nameAndType 5 6), (0, u "java/lang/Record"), (0, u "<init>"), (0, u "()V"), (0, .fieldref 8 9), (0, .class_ 10), (0, .nameAndType 11 12), (0, u "com/example/bytemold/bytemold/IntBits"), (0, u "bits"), (0, u "I"), (0, .fieldref 8 14), (0, .nameAndType 15 16), (0, u "signed"), (0, u "Z"), (0, .fieldref 8 18), (0, .nameAndType 19 20), (0, u "javaType"), (0, u "Lcom/example/bytemold/bytemold/IntBits$JavaType;"), (0, .fieldref 8 22), (0, .nameAndType 23 24), (0, u "sizeText"), (0, u "Ljava/lang/String;"), (6, u "(IZLcom/example/bytemold/bytemold/IntBits$JavaType;Ljava/lang/String;)V"), (2, .class_ 36), (1, u "com/example/bytemold/bytemold/IntBits$JavaType"), (51, u "extend"), (0, u "(J)J")] 144

def k3c0 : Code := { maxStack := 2, maxLocals := 5, code := prog_57_method_1_code, exceptionTable := #[], attributes := #[] }
def k3m0 : Method := { name := "<init>", desc := "(IZLcom/example/bytemold/bytemold/IntBits$JavaType;Ljava/lang/String;)V", sig := { parameters := [.int, .boolean, (.object "com/example/bytemold/bytemold/IntBits$JavaType"), (.object "java/lang/String")], returnType := none }, accessFlags := 0, code := some k3c0 }
def k3c1 : Code := { maxStack := 3, maxLocals := 4, code := prog_57_method_8_code, exceptionTable := #[], attributes := #[] }
def k3m1 : Method := { name := "extend", desc := "(J)J", sig := { parameters := [.long], returnType := some .long }, accessFlags := 0, code := some k3c1 }
/-- com/example/bytemold/bytemold/IntBits -/
def k3 : Class := { plain "com/example/bytemold/bytemold/IntBits" (some 2) with
  accessFlags := 48
  interfaces := #[]
  cf := some (fileOf pool3 8 #[.nestMembers #[34]] #[{ accessFlags := 0, nameIndex := 5, descriptorIndex := 31, attributes := #[] }, { accessFlags := 0, nameIndex := 88, descriptorIndex := 89, attributes := #[] }] 48 2 #[] #[{ accessFlags := 18, nameIndex := 11, descriptorIndex := 12, attributes := #[] }, { accessFlags := 18, nameIndex := 15, descriptorIndex := 16, attributes := #[] }, { accessFlags := 18, nameIndex := 19, descriptorIndex := 20, attributes := #[] }, { accessFlags := 18, nameIndex := 23, descriptorIndex := 24, attributes := #[] }])
  fields := #[{ name := "bits", type := .int, accessFlags := 18, slot := 0, constantValue := 0 }, { name := "signed", type := .boolean, accessFlags := 18, slot := 1, constantValue := 0 }, { name := "javaType", type := (.object "com/example/bytemold/bytemold/IntBits$JavaType"), accessFlags := 18, slot := 2, constantValue := 0 }, { name := "sizeText", type := (.object "java/lang/String"), accessFlags := 18, slot := 3, constantValue := 0 }]
  methods := #[k3m0, k3m1]
  instanceTypes := #[.int, .boolean, (.object "com/example/bytemold/bytemold/IntBits$JavaType"), (.object "java/lang/String")]
  staticTypes := #[]
  resolved := Array.replicate 234 none
  statics := none }

def pool4 : Array CpInfo := pool [(1, .class_ 2), (0, u "java/lang/constant/Constable"), (0, .class_ 4), (0, u "java/lang/Object")] 6

/-- java/lang/constant/Constable -/
def k4 : Class := { plain "java/lang/constant/Constable" (some 0) with
  accessFlags := 1537
  interfaces := #[]
  cf := some (fileOf pool4 1 #[] #[] 1537 3 #[] #[])
  fields := #[]
  methods := #[]
  instanceTypes := #[]
  staticTypes := #[]
  resolved := Array.replicate 11 none
  statics := none }

def pool5 : Array CpInfo := pool [(1, .class_ 2), (0, u "java/lang/Comparable"), (0, .class_ 4), (0, u "java/lang/Object")] 7

/-- java/lang/Comparable -/
def k5 : Class := { plain "java/lang/Comparable" (some 0) with
  accessFlags := 1537
  interfaces := #[]
  cf := some (fileOf pool5 1 #[] #[] 1537 3 #[] #[])
  fields := #[]
  methods := #[]
  instanceTypes := #[]
  staticTypes := #[]
  resolved := Array.replicate 12 none
  statics := none }

def pool6 : Array CpInfo := pool [(1, .class_ 2), (0, u "java/io/Serializable"), (0, .class_ 4), (0, u "java/lang/Object")] 2

/-- java/io/Serializable -/
def k6 : Class := { plain "java/io/Serializable" (some 0) with
  accessFlags := 1537
  interfaces := #[]
  cf := some (fileOf pool6 1 #[] #[] 1537 3 #[] #[])
  fields := #[]
  methods := #[]
  instanceTypes := #[]
  staticTypes := #[]
  resolved := Array.replicate 7 none
  statics := none }

def pool7 : Array CpInfo := pool [(2, .class_ 4), (1, u "java/lang/Enum"), (0, u "name"), (0, u "Ljava/lang/String;"), (2, u "ordinal"), (0, u "I"), (1, .class_ 14), (1, u "java/lang/Object"), (4, u "hash"), (86, .class_ 108), (1, u "java/lang/Enum$EnumDesc"), (2, .class_ 112), (0, u "java/lang/constant/Constable"), (0, .class_ 114), (0, u "java/lang/Comparable"), (0, .class_ 116), (0, u "java/io/Serializable")] 87

/-- java/lang/Enum -/
def k7 : Class := { plain "java/lang/Enum" (some 0) with
  accessFlags := 1057
  interfaces := #[4, 5, 6]
  cf := some (fileOf pool7 2 #[.nestMembers #[106]] #[] 1057 12 #[111, 113, 115] #[{ accessFlags := 18, nameIndex := 5, descriptorIndex := 6, attributes := #[] }, { accessFlags := 18, nameIndex := 9, descriptorIndex := 10, attributes := #[] }, { accessFlags := 2, nameIndex := 19, descriptorIndex := 10, attributes := #[] }])
  fields := #[{ name := "name", type := (.object "java/lang/String"), accessFlags := 18, slot := 0, constantValue := 0 }, { name := "ordinal", type := .int, accessFlags := 18, slot := 1, constantValue := 0 }, { name := "hash", type := .int, accessFlags := 2, slot := 2, constantValue := 0 }]
  methods := #[]
  instanceTypes := #[(.object "java/lang/String"), .int, .int]
  staticTypes := #[]
  resolved := Array.replicate 204 none
  statics := none }

def pool8 : Array CpInfo := pool [(1, .class_ 2), (0, u "com/example/bytemold/bytemold/IntBits$JavaType"), (2, u "BYTE"), (0, u "Lcom/example/bytemold/bytemold/IntBits$JavaType;"), (2, u "SHORT"), (2, u "INT"), (2, u "LONG"), (2, u "BIG_INTEGER"), (2, u "$VALUES"), (0, u "[Lcom/example/bytemold/bytemold/IntBits$JavaType;"), (6, .class_ 31), (1, u "java/lang/Enum"), (8, u "bits"), (0, u "I"), (2, u "primitive"), (0, u "Ljava/lang/Class;"), (2, u "boxed"), (74, .class_ 124), (0, u "com/example/bytemold/bytemold/IntBits")] 16

/-- com/example/bytemold/bytemold/IntBits$JavaType -/
def k8 : Class := { plain "com/example/bytemold/bytemold/IntBits$JavaType" (some 7) with
  accessFlags := 16432
  interfaces := #[]
  cf := some (fileOf pool8 1 #[.nestHost 123] #[] 16432 29 #[] #[{ accessFlags := 16409, nameIndex := 5, descriptorIndex := 6, attributes := #[] }, { accessFlags := 16409, nameIndex := 9, descriptorIndex := 6, attributes := #[] }, { accessFlags := 16409, nameIndex := 12, descriptorIndex := 6, attributes := #[] }, { accessFlags := 16409, nameIndex := 15, descriptorIndex := 6, attributes := #[] }, { accessFlags := 16409, nameIndex := 18, descriptorIndex := 6, attributes := #[] }, { accessFlags := 18, nameIndex := 40, descriptorIndex := 41, attributes := #[] }, { accessFlags := 18, nameIndex := 44, descriptorIndex := 45, attributes := #[] }, { accessFlags := 18, nameIndex := 48, descriptorIndex := 45, attributes := #[] }, { accessFlags := 4122, nameIndex := 21, descriptorIndex := 22, attributes := #[] }])
  fields := #[{ name := "BYTE", type := (.object "com/example/bytemold/bytemold/IntBits$JavaType"), accessFlags := 16409, slot := 0, constantValue := 0 }, { name := "SHORT", type := (.object "com/example/bytemold/bytemold/IntBits$JavaType"), accessFlags := 16409, slot := 1, constantValue := 0 }, { name := "INT", type := (.object "com/example/bytemold/bytemold/IntBits$JavaType"), accessFlags := 16409, slot := 2, constantValue := 0 }, { name := "LONG", type := (.object "com/example/bytemold/bytemold/IntBits$JavaType"), accessFlags := 16409, slot := 3, constantValue := 0 }, { name := "BIG_INTEGER", type := (.object "com/example/bytemold/bytemold/IntBits$JavaType"), accessFlags := 16409, slot := 4, constantValue := 0 }, { name := "bits", type := .int, accessFlags := 18, slot := 3, constantValue := 0 }, { name := "primitive", type := (.object "java/lang/Class"), accessFlags := 18, slot := 4, constantValue := 0 }, { name := "boxed", type := (.object "java/lang/Class"), accessFlags := 18, slot := 5, constantValue := 0 }, { name := "$VALUES", type := (.array (.object "com/example/bytemold/bytemold/IntBits$JavaType")), accessFlags := 4122, slot := 5, constantValue := 0 }]
  methods := #[]
  instanceTypes := #[(.object "java/lang/String"), .int, .int, .int, (.object "java/lang/Class"), (.object "java/lang/Class")]
  staticTypes := #[(.object "com/example/bytemold/bytemold/IntBits$JavaType"), (.object "com/example/bytemold/bytemold/IntBits$JavaType"), (.object "com/example/bytemold/bytemold/IntBits$JavaType"), (.object "com/example/bytemold/bytemold/IntBits$JavaType"), (.object "com/example/bytemold/bytemold/IntBits$JavaType"), (.array (.object "com/example/bytemold/bytemold/IntBits$JavaType"))]
  resolved := Array.replicate 141 none
  statics := some 0 }

def pool9 : Array CpInfo := pool [(2, .class_ 4), (1, u "java/lang/CharSequence"), (42, .class_ 48), (0, u "java/lang/CharSequence$1CodePointIterator"), (10, .class_ 60), (0, u "java/lang/CharSequence$1CharIterator"), (5, .class_ 67), (0, u "java/lang/Object")] 63

/-- java/lang/CharSequence -/
def k9 : Class := { plain "java/lang/CharSequence" (some 0) with
  accessFlags := 1537
  interfaces := #[]
  cf := some (fileOf pool9 2 #[.nestMembers #[47, 59]] #[] 1537 66 #[] #[])
  fields := #[]
  methods := #[]
  instanceTypes := #[]
  staticTypes := #[]
  resolved := Array.replicate 131 none
  statics := none }

def pool10 : Array CpInfo := pool [(1, .class_ 2), (0, u "java/lang/constant/ConstantDesc"), (0, .class_ 4), (0, u "java/lang/Object")] 32

/-- java/lang/constant/ConstantDesc -/
def k10 : Class := { plain "java/lang/constant/ConstantDesc" (some 0) with
  accessFlags := 1537
  interfaces := #[]
  cf := some (fileOf pool10 1 #[] #[] 1537 3 #[] #[])
  fields := #[]
  methods := #[]
  instanceTypes := #[]
  staticTypes := #[]
  resolved := Array.replicate 37 none
  statics := none }

def pool11 : Array CpInfo := pool [(2, .class_ 4), (1, u "java/lang/Object"), (0, u "<init>"), (0, u "()V"), (3, .class_ 12), (1, u "java/lang/String"), (0, u "value"), (0, u "[B"), (2, u "coder"), (0, u "B"), (2, u "hash"), (0, u "I"), (2, u "hashIsZero"), (0, u "Z"), (13, u "COMPACT_STRINGS"), (534, .class_ 576), (0, u "java/lang/CharSequence"), (22, u "CASE_INSENSITIVE_ORDER"), (0, u "Ljava/util/Comparator;"), (500, u "serialPersistentFields"), (0, u "[Ljava/io/ObjectStreamField;"), (0, .class_ 1104), (0, u "java/lang/String$CaseInsensitiveComparator"), (1, .class_ 1107), (0, u "java/io/Serializable"), (0, .class_ 1109), (0, u "java/lang/Comparable"), (0, .class_ 1111), (0, u "java/lang/constant/Constable"), (0, .class_ 1113), (0, u "java/lang/constant/ConstantDesc"), (2, u "serialVersionUID"), (0, u "J"), (3, u "REPL"), (0, u "C"), (2, u "LATIN1"), (1, u "UTF16")] 323

def k11m0 : Method := { name := "<init>", desc := "()V", sig := { parameters := [], returnType := none }, accessFlags := 1, code := none }
/-- java/lang/String -/
def k11 : Class := { plain "java/lang/String" (some 0) with
  accessFlags := 49
  interfaces := #[6, 5, 9, 4, 10]
  cf := some (fileOf pool11 10 #[.nestMembers #[1103]] #[{ accessFlags := 1, nameIndex := 5, descriptorIndex := 6, attributes := #[] }] 49 2 #[1106, 1108, 575, 1110, 1112] #[{ accessFlags := 18, nameIndex := 13, descriptorIndex := 14, attributes := #[] }, { accessFlags := 18, nameIndex := 17, descriptorIndex := 18, attributes := #[] }, { accessFlags := 2, nameIndex := 21, descriptorIndex := 22, attributes := #[] }, { accessFlags := 2, nameIndex := 25, descriptorIndex := 26, attributes := #[] }, { accessFlags := 26, nameIndex := 1116, descriptorIndex := 1117, attributes := #[] }, { accessFlags := 24, nameIndex := 40, descriptorIndex := 26, attributes := #[] }, { accessFlags := 26, nameIndex := 1101, descriptorIndex := 1102, attributes := #[] }, { accessFlags := 26, nameIndex := 1121, descriptorIndex := 1122, attributes := #[] }, { accessFlags := 25, nameIndex := 599, descriptorIndex := 600, attributes := #[] }, { accessFlags := 24, nameIndex := 1125, descriptorIndex := 18, attributes := #[] }, { accessFlags := 24, nameIndex := 1127, descriptorIndex := 18, attributes := #[] }])
  fields := #[{ name := "value", type := (.array .byte), accessFlags := 18, slot := 0, constantValue := 0 }, { name := "coder", type := .byte, accessFlags := 18, slot := 1, constantValue := 0 }, { name := "hash", type := .int, accessFlags := 2, slot := 2, constantValue := 0 }, { name := "hashIsZero", type := .boolean, accessFlags := 2, slot := 3, constantValue := 0 }, { name := "serialVersionUID", type := .long, accessFlags := 26, slot := 0, constantValue := 0 }, { name := "COMPACT_STRINGS", type := .boolean, accessFlags := 24, slot := 1, constantValue := 0 }, { name := "serialPersistentFields", type := (.array (.object "java/io/ObjectStreamField")), accessFlags := 26, slot := 2, constantValue := 0 }, { name := "REPL", type := .char, accessFlags := 26, slot := 3, constantValue := 0 }, { name := "CASE_INSENSITIVE_ORDER", type := (.object "java/util/Comparator"), accessFlags := 25, slot := 4, constantValue := 0 }, { name := "LATIN1", type := .byte, accessFlags := 24, slot := 5, constantValue := 0 }, { name := "UTF16", type := .byte, accessFlags := 24, slot := 6, constantValue := 0 }]
  methods := #[k11m0]
  instanceTypes := #[(.array .byte), .byte, .int, .boolean]
  staticTypes := #[.long, .boolean, (.array (.object "java/io/ObjectStreamField")), .char, (.object "java/util/Comparator"), .byte, .byte]
  resolved := Array.replicate 1451 none
  statics := none }

def pool12 : Array CpInfo := pool [(1, u "java/lang/Cloneable"), (0, .class_ 1), (0, u "java/lang/Object"), (0, .class_ 3)] 3

/-- java/lang/Cloneable -/
def k12 : Class := { plain "java/lang/Cloneable" (some 0) with
  accessFlags := 1537
  interfaces := #[]
  cf := some (fileOf pool12 2 #[] #[] 1537 4 #[] #[])
  fields := #[]
  methods := #[]
  instanceTypes := #[]
  staticTypes := #[]
  resolved := Array.replicate 8 none
  statics := none }

/-- the primitive byte -/
def k13 : Class := { plain "byte" none with kind := .primitive 'B', accessFlags := 0x411 }
/-- [B -/
def k14 : Class := { plain "[B" (some 0) with kind := .array 13 .byte, interfaces := #[12, 6], accessFlags := 1041 }

/-- the primitive int -/
def k15 : Class := { plain "int" none with kind := .primitive 'I', accessFlags := 0x411 }
/-- [I -/
def k16 : Class := { plain "[I" (some 0) with kind := .array 15 .int, interfaces := #[12, 6], accessFlags := 1041 }

def heap : Heap := #[{ cls := 8, slots := #[.null, .null, .null, .ref 1, .null, .null], vm := .statics 8 },
  { cls := 8, slots := #[.null, .int 3, .int 0, .int 64, .null, .null], vm := .none }]
def classes : Array Class := #[k0, k1, k2, k3, k4, k5, k6, k7, k8, k9, k10, k11, k12, k13, k14, k15, k16]
def interned : List (Array UInt16 × Addr) := []
def slotsUsed : Nat := 12
def theMethod : MethodId := ⟨1, 1⟩
def args0 : Array Value := #[.int 5, .int 7, .long 3]
def aboutOver (below : List Frame) : State where
  vm := { classes := classes, interned := interned.toArray }
  heap := heap
  slotsUsed := slotsUsed
  threads := #[{ frames := .invoking theMethod args0 :: below }]
def below0 : List Frame := [.native { method := ⟨0, 0⟩, args := #[] }]
def about1 : State := aboutOver below0
def p0 : Program := .bare "" "" ""
def e0 : Env := launch0.env 0 0 0
theorem w_frames : about1.frames = Frame.invoking theMethod args0 :: below0 := rfl
set_option maxRecDepth 65536 in
theorem w_args : argsFit about1.vm theMethod args0 = true := by decide +kernel
set_option maxRecDepth 65536 in
theorem w_heap : heapFits about1 = true := by decide +kernel
set_option maxRecDepth 65536 in
theorem w_runnable : about1.curStatus? = some .runnable := by decide +kernel
set_option maxRecDepth 65536 in
theorem w_alone : about1.alone = true := by decide +kernel
set_option maxRecDepth 65536 in
theorem w_named : about1.methodNamed? x = some theMethod := by decide +kernel
set_option maxRecDepth 65536 in
theorem w_hears : about1.hears theMethod below0 = true := by decide +kernel
set_option maxRecDepth 65536 in
theorem w_ripe : about1.ripe theMethod args0 below0 = true := by decide +kernel
theorem w_running : about1.status = .running := rfl
set_option maxRecDepth 65536 in
theorem w_room : about1.hasRoom e0.platform room_1 = true :=
  launch0.hasRoom_least _ room_1 (by decide +kernel) (by decide +kernel) (by decide +kernel) (by decide +kernel) (by decide +kernel) (by decide +kernel)
theorem allAtoms_all (ts : List Jvm.Cond) (a : Array Jvm.Value) (st : Jvm.State) : (allAtoms ts).before a st = ts.all (fun c => c.before a st) := by
  induction ts with
  | nil => rfl
  | cons c t ih =>
    show (Jvm.Cond.and c (allAtoms t)).before a st = _
    rw [Jvm.Cond.before_and, ih, List.all_cons]
def words1 : List Jvm.Cond := Jvm.Cond.code x code maxLocals ret :: tables_1
/-- a 'code' word, met by the world's own term for the bytes: nothing is compared byte by byte -/
theorem code_word {y : MethodName} {bytes : ByteArray} {mx : Nat} {rt : Option FieldType} {a : Array Value} {s : State} {m : MethodId} {meth : Method} {c : Code} (h1 : s.methodNamed? y = some m) (h2 : s.vm.method? m = some meth) (h3 : meth.code = some c) (h4 : c.code = bytes)
    (h5 : (c.maxLocals == mx && c.exceptionTable.isEmpty && decide (c.maxStack ≤ mostOperands) && decide (meth.sig.returnType = rt) && !meth.locks && decide (parseMethodDescriptor y.desc = some meth.sig)) = true) : (Jvm.Cond.code y bytes mx rt).before a s = true := by
  simp only [Bool.and_eq_true, beq_iff_eq, Bool.not_eq_true', decide_eq_true_eq] at h5
  obtain ⟨⟨⟨⟨⟨g1, g2⟩, g3⟩, g4⟩, g5⟩, g6⟩ := h5
  simp [Cond.before, Cond.holds, Cond.value, h1, h2, h3, h4, g1, g2, g3, g4, g5, g6]
def isCode : Jvm.Cond → Bool
  | .code _ _ _ _ => true
  | _ => false
theorem all_split {L : List Jvm.Cond} {P : Jvm.Cond → Bool} (h1 : L.all (fun c => isCode c || P c) = true) (h2 : ∀ c ∈ L.filter isCode, P c = true) : L.all P = true := by
  refine List.all_eq_true.mpr fun c hc => ?_
  have h := List.all_eq_true.mp h1 c hc
  rcases Bool.eq_false_or_eq_true (isCode c) with hi | hi
  · exact h2 c (List.mem_filter.mpr ⟨hc, hi⟩)
  · simpa [hi] using h
set_option maxRecDepth 65536 in
theorem w_c0 : (Jvm.Cond.code x code maxLocals ret).before args0 about1 = true := code_word (m := ⟨1, 1⟩) (meth := k1m1) (c := k1c1) (by decide +kernel) rfl rfl rfl (by decide +kernel)
set_option maxRecDepth 65536 in
theorem w_c1 : (Jvm.Cond.code ({ cls := "com/example/bytemold/bytemold/IntBits", name := "<init>", desc := "(IZLcom/example/bytemold/bytemold/IntBits$JavaType;Ljava/lang/String;)V" } : Jvm.MethodName) prog_57_method_1_code (5 : Nat) (Option.none : Option Jvm.ClassFile.FieldType)).before args0 about1 = true := code_word (m := ⟨3, 0⟩) (meth := k3m0) (c := k3c0) (by decide +kernel) rfl rfl rfl (by decide +kernel)
set_option maxRecDepth 65536 in
theorem w_c2 : (Jvm.Cond.code ({ cls := "java/lang/Record", name := "<init>", desc := "()V" } : Jvm.MethodName) jdk_30_method_1_code (1 : Nat) (Option.none : Option Jvm.ClassFile.FieldType)).before args0 about1 = true := code_word (m := ⟨2, 0⟩) (meth := k2m0) (c := k2c0) (by decide +kernel) rfl rfl rfl (by decide +kernel)
set_option maxRecDepth 65536 in
theorem w_c3 : (Jvm.Cond.code ({ cls := "java/lang/Object", name := "<init>", desc := "()V" } : Jvm.MethodName) object_method_1_code (1 : Nat) (Option.none : Option Jvm.ClassFile.FieldType)).before args0 about1 = true := code_word (m := ⟨0, 0⟩) (meth := k0m0) (c := k0c0) (by decide +kernel) rfl rfl rfl (by decide +kernel)
set_option maxRecDepth 65536 in
theorem w_c4 : (Jvm.Cond.code ({ cls := "com/example/bytemold/bytemold/IntBits", name := "extend", desc := "(J)J" } : Jvm.MethodName) prog_57_method_8_code (4 : Nat) (Option.some Jvm.ClassFile.FieldType.long)).before args0 about1 = true := code_word (m := ⟨3, 1⟩) (meth := k3m1) (c := k3c1) (by decide +kernel) rfl rfl rfl (by decide +kernel)
def codes1 : List Jvm.Cond := [Jvm.Cond.code x code maxLocals ret, Jvm.Cond.code ({ cls := "com/example/bytemold/bytemold/IntBits", name := "<init>", desc := "(IZLcom/example/bytemold/bytemold/IntBits$JavaType;Ljava/lang/String;)V" } : Jvm.MethodName) prog_57_method_1_code (5 : Nat) (Option.none : Option Jvm.ClassFile.FieldType), Jvm.Cond.code ({ cls := "java/lang/Record", name := "<init>", desc := "()V" } : Jvm.MethodName) jdk_30_method_1_code (1 : Nat) (Option.none : Option Jvm.ClassFile.FieldType), Jvm.Cond.code ({ cls := "java/lang/Object", name := "<init>", desc := "()V" } : Jvm.MethodName) object_method_1_code (1 : Nat) (Option.none : Option Jvm.ClassFile.FieldType), Jvm.Cond.code ({ cls := "com/example/bytemold/bytemold/IntBits", name := "extend", desc := "(J)J" } : Jvm.MethodName) prog_57_method_8_code (4 : Nat) (Option.some Jvm.ClassFile.FieldType.long)]
set_option maxRecDepth 65536 in
theorem codes_eq : words1.filter isCode = codes1 := rfl
theorem w_codes : ∀ c ∈ words1.filter isCode, c.before args0 about1 = true := by
  rw [codes_eq]
  intro c hc
  simp only [codes1, List.mem_cons, List.not_mem_nil, or_false] at hc
  rcases hc with rfl | rfl | rfl | rfl | rfl
  · exact w_c0
  · exact w_c1
  · exact w_c2
  · exact w_c3
  · exact w_c4
set_option maxRecDepth 65536 in
theorem w_t1 : (words1.take 24).all (fun c => isCode c || c.before args0 about1) = true := by decide +kernel
set_option maxRecDepth 65536 in
theorem w_t2 : (words1.drop 24).all (fun c => isCode c || c.before args0 about1) = true := by decide +kernel
theorem w_tables : (allAtoms (Jvm.Cond.code x code maxLocals ret :: tables_1)).before args0 about1 = true := by
  rw [allAtoms_all]
  show words1.all (fun c => c.before args0 about1) = true
  refine all_split ?_ w_codes
  rw [← List.take_append_drop 24 words1, List.all_append, w_t1, w_t2]
  rfl
set_option maxRecDepth 65536 in
theorem w_case : (Jvm.Cond.and given_1 narrow_1).before args0 about1 = true := by decide +kernel
theorem w_applies : (headSpec (Jvm.Cond.code x code maxLocals ret :: tables_1) room_1).applies x e0.platform about1 = true :=
  (Spec.applies_iff w_frames).mpr ⟨w_running, w_runnable, w_alone, w_named, w_hears, w_ripe, w_room, w_tables⟩
theorem atStart : AtStart classFile x code maxLocals ret World_1 tables_1 room_1 Calls_1 rest_1 Pre_1 launch0 p0 e0 about1 theMethod args0 below0 :=
  ⟨lists_1, trivial, launch0.admits_env _ _ _, launch0.least_env, fairChoices_fair.cas, fairChoices_fair.clock, w_frames, w_args, w_heap, w_applies, trivial, trivial, w_case⟩
end start1
theorem witness_1 : WitnessClaimed_1 := ⟨start1.p0, start1.e0, start1.about1, start1.theMethod, start1.args0, start1.below0, start1.atStart⟩
end Jvm.Pilot.@@N@@
