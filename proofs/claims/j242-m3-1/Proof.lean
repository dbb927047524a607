import JvmDerived
import JvmDerived.Pilot.@@N@@Statement
import JvmDerived.Pilot.@@N@@Code
set_option linter.unusedVariables false
set_option linter.unusedSimpArgs false
namespace Jvm.Pilot.@@N@@
open Jvm Jvm.ClassFile Sem Op Lib Jvm.Free Jvm.Stand Jvm.LawKit Jvm.RoadKit Bundle Jvm.Pilot.@@N@@.Jvm.D
section OwnKit
variable {p : Program} {l : Launch} {e : Env} {R : Room} {s : State} {m : MethodId} {args : Array Value} {below : List Frame} {meth : Method} {c : Code} {T : State} {cells slots cells' slots' : Nat} {Z : State} {a0 : Array Value} {h h' : Heap} {n0 : Nat} {Q : Option Value → Heap → Prop} {own nm : String} {bytes : ByteArray} {maxL : Nat} {ret : Option FieldType} {pc pc' pt : Nat} {Ls : Array Slot} {stk : List Value}

/-- what stays true all through a body's walk -/
def Ctx (p : Program) (s : State) (m : MethodId) (meth : Method) (c : Code) (Z : State) (own nm : String) (bytes : ByteArray) (maxL : Nat) (ret : Option FieldType) : Prop :=
  (p.tables.exec = Jvm.exec ∧ Z.Warmed39 s.vm) ∧ (c.code = bytes ∧ c.maxLocals = maxL) ∧ (s.vm.findClass own = some m.cls ∧ meth.name = nm) ∧ (meth.sig.returnType = ret ∧ meth.locks = false)
theorem Ctx.hx (K : Ctx p s m meth c Z own nm bytes maxL ret) : p.tables.exec = Jvm.exec := K.1.1
theorem Ctx.hZ (K : Ctx p s m meth c Z own nm bytes maxL ret) : Z.Warmed39 s.vm := K.1.2
theorem Ctx.by' (K : Ctx p s m meth c Z own nm bytes maxL ret) : c.code = bytes := K.2.1.1
theorem Ctx.ml (K : Ctx p s m meth c Z own nm bytes maxL ret) : c.maxLocals = maxL := K.2.1.2
theorem Ctx.own' (K : Ctx p s m meth c Z own nm bytes maxL ret) : s.vm.findClass own = some m.cls := K.2.2.1.1
theorem Ctx.nm' (K : Ctx p s m meth c Z own nm bytes maxL ret) : meth.name = nm := K.2.2.1.2
theorem Ctx.ret' (K : Ctx p s m meth c Z own nm bytes maxL ret) : meth.sig.returnType = ret := K.2.2.2.1
theorem Ctx.locks (K : Ctx p s m meth c Z own nm bytes maxL ret) : meth.locks = false := K.2.2.2.2

/-- where the walk stands; what it has written lies at or above n0 -/
def St (p : Program) (l : Launch) (e : Env) (R : Room) (s : State) (m : MethodId) (args : Array Value) (below : List Frame) (meth : Method) (c : Code) (n0 : Nat) (T : State) (cells slots : Nat) : Prop :=
  ∃ locs, Stand p l e R s m args below meth c T locs cells slots ∧ Fr n0 locs
theorem St.mono (X : St p l e R s m args below meth c n0 T cells slots) (hc : cells ≤ cells') (hs : slots ≤ slots') : St p l e R s m args below meth c n0 T cells' slots' := by
  obtain ⟨locs, X, N⟩ := X
  exact ⟨locs, { X with same := X.same.mono hc hs }, N⟩

/-- from the state st the body returns, and what it leaves is as Q says -/
def Go (p : Program) (e : Env) (below : List Frame) (s : State) (R : Room) (n0 : Nat) (Q : Option Value → Heap → Prop) (st : State) : Prop :=
  ∃ s₂ o, Steps p.tables e below st s₂ ∧ s₂.status = .running ∧ Ended s₂ below o ∧ ∃ v L, o = .returned v ∧ (Q v s₂.heap ∧ Fr n0 L) ∧ FrameEnd s o s₂ L R.cells R.slots
theorem go_by {st st' : State} (h : ∀ t, Steps p.tables e below st' t → Steps p.tables e below st t) (k : Go p e below s R n0 Q st') : Go p e below s R n0 Q st := by
  obtain ⟨s₂, o, h1, h2⟩ := k
  exact ⟨s₂, o, h _ h1, h2⟩
theorem own_cut {α : Sort _} {P : α → Prop} {S : α → State} {st : State} (h1 : (∀ b, P b → Go p e below s R n0 Q (S b)) → Go p e below s R n0 Q st) (h2 : ∀ b, P b → Go p e below s R n0 Q (S b)) : Go p e below s R n0 Q st := h1 h2
theorem go_mono {Q' : Option Value → Heap → Prop} {st : State} (k : Go p e below s R n0 Q st) (h : ∀ v u, Q v u → Q' v u) : Go p e below s R n0 Q' st := by
  obtain ⟨s₂, o, h1, h2, h3, v, L, h4, h5, h6⟩ := k
  exact ⟨s₂, o, h1, h2, h3, v, L, h4, ⟨h _ _ h5.1, h5.2⟩, h6⟩

/-- a body's contract at the arguments as' and the heap h0 -/
def Con (l : Launch) (Z : State) (n0 : Nat) (y : MethodName) (bytes : ByteArray) (maxL : Nat) (ret : Option FieldType) (rm : Room) (as' : Array Value) (h0 : Heap) (Q : Option Value → Heap → Prop) : Prop :=
  ∀ ws : List Jvm.Cond, MetFree l y (head1 (Jvm.Cond.code y bytes maxL ret :: ws) rm) (fun a U => a = as' ∧ Z.Warmed39 U.vm ∧ U.heap = h0) (fun _ _ _ _ _ => True) (fun _ U o U' => ∃ v L, o = .returned v ∧ (Q v U'.heap ∧ Fr n0 L) ∧ FrameEnd U o U' L rm.cells rm.slots)
theorem con_of {y : MethodName} {rm : Room} {as' : Array Value} {h0 : Heap} (hx : plainFor y = true)
    (body : ∀ p e s m below meth c T, Ctx p s m meth c Z y.cls y.name bytes maxL ret → St p l e rm s m as' below meth c n0 T 0 0 → T.heap = h0 → Go p e below s rm n0 Q (T.setTop (entryFrame m as' maxL))) :
    Con l Z n0 y bytes maxL ret rm as' h0 Q := by
  intro ws
  refine MetFree.of_bodySF hx hisR ?_
  intro p e s m args below meth c s₁ Bd hml0 hP hK
  obtain ⟨hargs, hZ, hh⟩ := hP
  have X0 := Stand.of_body Bd
  have hnm := (name_of_methodNamed Bd.named Bd.method).1
  rw [hargs] at X0 ⊢
  obtain ⟨s₂, o, h1, h2, h3, v, L, h4, h5, h6⟩ := body p e s m below meth c s₁ ⟨⟨Bd.exec, hZ⟩, ⟨Bd.bytes, hml0⟩, ⟨findClass_of_methodNamed Bd.named, hnm⟩, ⟨Bd.returns, BodyLoose.notSynchronized Bd⟩⟩ ⟨[], X0, Fr.nil n0⟩ (by rw [← hh, Bd.state]; rfl)
  exact ⟨s₂, o, h1, h2, h3, v, L, h4, h5, h6⟩
theorem con_mono {y : MethodName} {rm : Room} {as' : Array Value} {h0 : Heap} {Q' : Option Value → Heap → Prop} (C : Con l Z n0 y bytes maxL ret rm as' h0 Q) (h : ∀ v u, Q v u → Q' v u) : Con l Z n0 y bytes maxL ret rm as' h0 Q' := by
  intro ws p e ha hc hk s m args below hf happ hP hK
  obtain ⟨n, o, h1, h2, h3, v, L, h4, h5, h6⟩ := C ws p e ha hc hk s m args below hf happ hP hK
  exact ⟨n, o, h1, h2, h3, v, L, h4, ⟨h _ _ h5.1, h5.2⟩, h6⟩
theorem go_entry {as' : Array Value} {g : JFrame} (q : entryFrame m as' maxL = g) (k : Go p e below s R n0 Q (T.setTop g)) : Go p e below s R n0 Q (T.setTop (entryFrame m as' maxL)) := by rw [q]; exact k
theorem wd (hw : ∀ d ∈ tables_1, d.before a0 Z = true) (i : Nat) {d : Jvm.Cond} (q : tables_1[i]? = some d) : d.before a0 Z = true := hw d (List.mem_of_getElem? q)

theorem go_iloadN (K : Ctx p s m meth c Z own nm bytes maxL ret) (X : St p l e R s m args below meth c n0 T cells slots) {k0 : Fin 4} {v : Int32} (hd : decode bytes pc = .ok (.iload_n k0, 1)) (hl : Ls[k0.val]? = some (.val (.int v))) (hp : pc + 1 = pc')
    (k : Go p e below s R n0 Q (T.setTop (mkF m pc' Ls (.int v :: stk)))) : Go p e below s R n0 Q (T.setTop (mkF m pc Ls (stk))) := by
  subst hp; obtain ⟨locs, X, N⟩ := X
  exact go_by (fun t k => XS.iloadN X.here K.hx rfl (hb K.by' hd) hl k) k

theorem go_iload (K : Ctx p s m meth c Z own nm bytes maxL ret) (X : St p l e R s m args below meth c n0 T cells slots) {k0 : Nat} {v : Int32} (hd : decode bytes pc = .ok (.iload k0, 2)) (hl : Ls[k0]? = some (.val (.int v))) (hp : pc + 2 = pc')
    (k : Go p e below s R n0 Q (T.setTop (mkF m pc' Ls (.int v :: stk)))) : Go p e below s R n0 Q (T.setTop (mkF m pc Ls (stk))) := by
  subst hp; obtain ⟨locs, X, N⟩ := X
  exact go_by (fun t k => XS.iload X.here K.hx rfl (hb K.by' hd) hl k) k

theorem go_lloadN (K : Ctx p s m meth c Z own nm bytes maxL ret) (X : St p l e R s m args below meth c n0 T cells slots) {k0 : Fin 4} {v : Int64} (hd : decode bytes pc = .ok (.lload_n k0, 1)) (hl : Ls[k0.val]? = some (.val (.long v))) (hp : pc + 1 = pc')
    (k : Go p e below s R n0 Q (T.setTop (mkF m pc' Ls (.long v :: stk)))) : Go p e below s R n0 Q (T.setTop (mkF m pc Ls (stk))) := by
  subst hp; obtain ⟨locs, X, N⟩ := X
  exact go_by (fun t k => XS.lloadN X.here K.hx rfl (hb K.by' hd) hl k) k

theorem go_lload (K : Ctx p s m meth c Z own nm bytes maxL ret) (X : St p l e R s m args below meth c n0 T cells slots) {k0 : Nat} {v : Int64} (hd : decode bytes pc = .ok (.lload k0, 2)) (hl : Ls[k0]? = some (.val (.long v))) (hp : pc + 2 = pc')
    (k : Go p e below s R n0 Q (T.setTop (mkF m pc' Ls (.long v :: stk)))) : Go p e below s R n0 Q (T.setTop (mkF m pc Ls (stk))) := by
  subst hp; obtain ⟨locs, X, N⟩ := X
  exact go_by (fun t k => XS.lload X.here K.hx rfl (hb K.by' hd) hl k) k

theorem go_aloadN (K : Ctx p s m meth c Z own nm bytes maxL ret) (X : St p l e R s m args below meth c n0 T cells slots) {k0 : Fin 4} {v : Value} (hd : decode bytes pc = .ok (.aload_n k0, 1)) (hl : Ls[k0.val]? = some (.val v)) (hv : v.isRef = true) (hp : pc + 1 = pc')
    (k : Go p e below s R n0 Q (T.setTop (mkF m pc' Ls (v :: stk)))) : Go p e below s R n0 Q (T.setTop (mkF m pc Ls (stk))) := by
  subst hp; obtain ⟨locs, X, N⟩ := X
  exact go_by (fun t k => XS.aloadN X.here K.hx rfl (hb K.by' hd) hl hv k) k

theorem go_aload (K : Ctx p s m meth c Z own nm bytes maxL ret) (X : St p l e R s m args below meth c n0 T cells slots) {k0 : Nat} {v : Value} (hd : decode bytes pc = .ok (.aload k0, 2)) (hl : Ls[k0]? = some (.val v)) (hv : v.isRef = true) (hp : pc + 2 = pc')
    (k : Go p e below s R n0 Q (T.setTop (mkF m pc' Ls (v :: stk)))) : Go p e below s R n0 Q (T.setTop (mkF m pc Ls (stk))) := by
  subst hp; obtain ⟨locs, X, N⟩ := X
  exact go_by (fun t k => XS.aload X.here K.hx rfl (hb K.by' hd) hl hv k) k

theorem go_iconst (K : Ctx p s m meth c Z own nm bytes maxL ret) (X : St p l e R s m args below meth c n0 T cells slots) {i : Int} (v : Int32) (hd : decode bytes pc = .ok (.iconst i, 1)) (hv : Int32.ofInt i = v) (hp : pc + 1 = pc')
    (k : Go p e below s R n0 Q (T.setTop (mkF m pc' Ls (.int v :: stk)))) : Go p e below s R n0 Q (T.setTop (mkF m pc Ls (stk))) := by
  subst hp; obtain ⟨locs, X, N⟩ := X
  exact go_by (fun t k => XT.iconstV X.here K.hx rfl v (hb K.by' hd) hv k) k

theorem go_bipush (K : Ctx p s m meth c Z own nm bytes maxL ret) (X : St p l e R s m args below meth c n0 T cells slots) {i : Int} (v : Int32) (hd : decode bytes pc = .ok (.bipush i, 2)) (hv : (Int8.ofInt i).toInt32 = v) (hp : pc + 2 = pc')
    (k : Go p e below s R n0 Q (T.setTop (mkF m pc' Ls (.int v :: stk)))) : Go p e below s R n0 Q (T.setTop (mkF m pc Ls (stk))) := by
  subst hp; obtain ⟨locs, X, N⟩ := X
  exact go_by (fun t k => XT.bipushV X.here K.hx rfl v (hb K.by' hd) hv k) k

theorem go_sipush (K : Ctx p s m meth c Z own nm bytes maxL ret) (X : St p l e R s m args below meth c n0 T cells slots) {i : Int} (v : Int32) (hd : decode bytes pc = .ok (.sipush i, 3)) (hv : (Int16.ofInt i).toInt32 = v) (hp : pc + 3 = pc')
    (k : Go p e below s R n0 Q (T.setTop (mkF m pc' Ls (.int v :: stk)))) : Go p e below s R n0 Q (T.setTop (mkF m pc Ls (stk))) := by
  subst hp; obtain ⟨locs, X, N⟩ := X
  exact go_by (fun t k => XT.sipushV X.here K.hx rfl v (hb K.by' hd) hv k) k

theorem go_lconst (K : Ctx p s m meth c Z own nm bytes maxL ret) (X : St p l e R s m args below meth c n0 T cells slots) {i : Fin 2} (v : Int64) (hd : decode bytes pc = .ok (.lconst i, 1)) (hv : Int64.ofNat i = v) (hp : pc + 1 = pc')
    (k : Go p e below s R n0 Q (T.setTop (mkF m pc' Ls (.long v :: stk)))) : Go p e below s R n0 Q (T.setTop (mkF m pc Ls (stk))) := by
  subst hp; obtain ⟨locs, X, N⟩ := X
  exact go_by (fun t k => XT.lconstV X.here K.hx rfl v (hb K.by' hd) hv k) k

theorem go_null (K : Ctx p s m meth c Z own nm bytes maxL ret) (X : St p l e R s m args below meth c n0 T cells slots)  (hd : decode bytes pc = .ok (.aconst_null, 1)) (hp : pc + 1 = pc')
    (k : Go p e below s R n0 Q (T.setTop (mkF m pc' Ls (.null :: stk)))) : Go p e below s R n0 Q (T.setTop (mkF m pc Ls (stk))) := by
  subst hp; obtain ⟨locs, X, N⟩ := X
  exact go_by (fun t k => XS.aconstNull X.here K.hx rfl (hb K.by' hd) k) k

theorem go_ldcI (K : Ctx p s m meth c Z own nm bytes maxL ret) (X : St p l e R s m args below meth c n0 T cells slots) {index : Nat} {v : Int32} (w : (Cond.constant own index v).before a0 Z = true) (hd : decode bytes pc = .ok (.ldc index, 2)) (hp : pc + 2 = pc')
    (k : Go p e below s R n0 Q (T.setTop (mkF m pc' Ls (.int v :: stk)))) : Go p e below s R n0 Q (T.setTop (mkF m pc Ls (stk))) := by
  subst hp; obtain ⟨locs, X, N⟩ := X
  exact go_by (fun t k => X.ldcI K.hx K.own' (mvT K.hZ w) rfl (hb K.by' hd) k) k

theorem go_ldcWI (K : Ctx p s m meth c Z own nm bytes maxL ret) (X : St p l e R s m args below meth c n0 T cells slots) {index : Nat} {v : Int32} (w : (Cond.constant own index v).before a0 Z = true) (hd : decode bytes pc = .ok (.ldc_w index, 3)) (hp : pc + 3 = pc')
    (k : Go p e below s R n0 Q (T.setTop (mkF m pc' Ls (.int v :: stk)))) : Go p e below s R n0 Q (T.setTop (mkF m pc Ls (stk))) := by
  subst hp; obtain ⟨locs, X, N⟩ := X
  exact go_by (fun t k => X.ldcWI K.hx K.own' (mvT K.hZ w) rfl (hb K.by' hd) k) k

theorem go_ldc2J (K : Ctx p s m meth c Z own nm bytes maxL ret) (X : St p l e R s m args below meth c n0 T cells slots) {index : Nat} {v : Int64} (w : (Cond.constantLong own index v).before a0 Z = true) (hd : decode bytes pc = .ok (.ldc2_w index, 3)) (hp : pc + 3 = pc')
    (k : Go p e below s R n0 Q (T.setTop (mkF m pc' Ls (.long v :: stk)))) : Go p e below s R n0 Q (T.setTop (mkF m pc Ls (stk))) := by
  subst hp; obtain ⟨locs, X, N⟩ := X
  exact go_by (fun t k => X.ldc2J K.hx K.own' (mvT K.hZ w) rfl (hb K.by' hd) k) k

theorem go_iadd (K : Ctx p s m meth c Z own nm bytes maxL ret) (X : St p l e R s m args below meth c n0 T cells slots) {x y : Int32} (hd : decode bytes pc = .ok (.iadd, 1)) (hp : pc + 1 = pc')
    (k : Go p e below s R n0 Q (T.setTop (mkF m pc' Ls (.int (x + y) :: stk)))) : Go p e below s R n0 Q (T.setTop (mkF m pc Ls (.int y :: .int x :: stk))) := by
  subst hp; obtain ⟨locs, X, N⟩ := X
  exact go_by (fun t k => XS.iadd X.here K.hx rfl (hb K.by' hd) rfl k) k

theorem go_isub (K : Ctx p s m meth c Z own nm bytes maxL ret) (X : St p l e R s m args below meth c n0 T cells slots) {x y : Int32} (hd : decode bytes pc = .ok (.isub, 1)) (hp : pc + 1 = pc')
    (k : Go p e below s R n0 Q (T.setTop (mkF m pc' Ls (.int (x - y) :: stk)))) : Go p e below s R n0 Q (T.setTop (mkF m pc Ls (.int y :: .int x :: stk))) := by
  subst hp; obtain ⟨locs, X, N⟩ := X
  exact go_by (fun t k => XS.isub X.here K.hx rfl (hb K.by' hd) rfl k) k

theorem go_imul (K : Ctx p s m meth c Z own nm bytes maxL ret) (X : St p l e R s m args below meth c n0 T cells slots) {x y : Int32} (hd : decode bytes pc = .ok (.imul, 1)) (hp : pc + 1 = pc')
    (k : Go p e below s R n0 Q (T.setTop (mkF m pc' Ls (.int (x * y) :: stk)))) : Go p e below s R n0 Q (T.setTop (mkF m pc Ls (.int y :: .int x :: stk))) := by
  subst hp; obtain ⟨locs, X, N⟩ := X
  exact go_by (fun t k => XS.imul X.here K.hx rfl (hb K.by' hd) rfl k) k

theorem go_iand (K : Ctx p s m meth c Z own nm bytes maxL ret) (X : St p l e R s m args below meth c n0 T cells slots) {x y : Int32} (hd : decode bytes pc = .ok (.iand, 1)) (hp : pc + 1 = pc')
    (k : Go p e below s R n0 Q (T.setTop (mkF m pc' Ls (.int (x &&& y) :: stk)))) : Go p e below s R n0 Q (T.setTop (mkF m pc Ls (.int y :: .int x :: stk))) := by
  subst hp; obtain ⟨locs, X, N⟩ := X
  exact go_by (fun t k => XS.iand X.here K.hx rfl (hb K.by' hd) rfl k) k

theorem go_ior (K : Ctx p s m meth c Z own nm bytes maxL ret) (X : St p l e R s m args below meth c n0 T cells slots) {x y : Int32} (hd : decode bytes pc = .ok (.ior, 1)) (hp : pc + 1 = pc')
    (k : Go p e below s R n0 Q (T.setTop (mkF m pc' Ls (.int (x ||| y) :: stk)))) : Go p e below s R n0 Q (T.setTop (mkF m pc Ls (.int y :: .int x :: stk))) := by
  subst hp; obtain ⟨locs, X, N⟩ := X
  exact go_by (fun t k => XS.ior X.here K.hx rfl (hb K.by' hd) rfl k) k

theorem go_ixor (K : Ctx p s m meth c Z own nm bytes maxL ret) (X : St p l e R s m args below meth c n0 T cells slots) {x y : Int32} (hd : decode bytes pc = .ok (.ixor, 1)) (hp : pc + 1 = pc')
    (k : Go p e below s R n0 Q (T.setTop (mkF m pc' Ls (.int (x ^^^ y) :: stk)))) : Go p e below s R n0 Q (T.setTop (mkF m pc Ls (.int y :: .int x :: stk))) := by
  subst hp; obtain ⟨locs, X, N⟩ := X
  exact go_by (fun t k => XS.ixor X.here K.hx rfl (hb K.by' hd) rfl k) k

theorem go_ishl (K : Ctx p s m meth c Z own nm bytes maxL ret) (X : St p l e R s m args below meth c n0 T cells slots) {x y : Int32} (hd : decode bytes pc = .ok (.ishl, 1)) (hp : pc + 1 = pc')
    (k : Go p e below s R n0 Q (T.setTop (mkF m pc' Ls (.int (x <<< (y &&& 31)) :: stk)))) : Go p e below s R n0 Q (T.setTop (mkF m pc Ls (.int y :: .int x :: stk))) := by
  subst hp; obtain ⟨locs, X, N⟩ := X
  exact go_by (fun t k => XS.ishl X.here K.hx rfl (hb K.by' hd) rfl k) k

theorem go_ishr (K : Ctx p s m meth c Z own nm bytes maxL ret) (X : St p l e R s m args below meth c n0 T cells slots) {x y : Int32} (hd : decode bytes pc = .ok (.ishr, 1)) (hp : pc + 1 = pc')
    (k : Go p e below s R n0 Q (T.setTop (mkF m pc' Ls (.int (x >>> (y &&& 31)) :: stk)))) : Go p e below s R n0 Q (T.setTop (mkF m pc Ls (.int y :: .int x :: stk))) := by
  subst hp; obtain ⟨locs, X, N⟩ := X
  exact go_by (fun t k => XS.ishr X.here K.hx rfl (hb K.by' hd) rfl k) k

theorem go_iushr (K : Ctx p s m meth c Z own nm bytes maxL ret) (X : St p l e R s m args below meth c n0 T cells slots) {x y : Int32} (hd : decode bytes pc = .ok (.iushr, 1)) (hp : pc + 1 = pc')
    (k : Go p e below s R n0 Q (T.setTop (mkF m pc' Ls (.int ((x.toUInt32 >>> (y &&& 31).toUInt32).toInt32) :: stk)))) : Go p e below s R n0 Q (T.setTop (mkF m pc Ls (.int y :: .int x :: stk))) := by
  subst hp; obtain ⟨locs, X, N⟩ := X
  exact go_by (fun t k => XS.iushr X.here K.hx rfl (hb K.by' hd) rfl k) k

theorem go_ladd (K : Ctx p s m meth c Z own nm bytes maxL ret) (X : St p l e R s m args below meth c n0 T cells slots) {x y : Int64} (hd : decode bytes pc = .ok (.ladd, 1)) (hp : pc + 1 = pc')
    (k : Go p e below s R n0 Q (T.setTop (mkF m pc' Ls (.long (x + y) :: stk)))) : Go p e below s R n0 Q (T.setTop (mkF m pc Ls (.long y :: .long x :: stk))) := by
  subst hp; obtain ⟨locs, X, N⟩ := X
  exact go_by (fun t k => XS.ladd X.here K.hx rfl (hb K.by' hd) rfl k) k

theorem go_lsub (K : Ctx p s m meth c Z own nm bytes maxL ret) (X : St p l e R s m args below meth c n0 T cells slots) {x y : Int64} (hd : decode bytes pc = .ok (.lsub, 1)) (hp : pc + 1 = pc')
    (k : Go p e below s R n0 Q (T.setTop (mkF m pc' Ls (.long (x - y) :: stk)))) : Go p e below s R n0 Q (T.setTop (mkF m pc Ls (.long y :: .long x :: stk))) := by
  subst hp; obtain ⟨locs, X, N⟩ := X
  exact go_by (fun t k => XS.lsub X.here K.hx rfl (hb K.by' hd) rfl k) k

theorem go_lmul (K : Ctx p s m meth c Z own nm bytes maxL ret) (X : St p l e R s m args below meth c n0 T cells slots) {x y : Int64} (hd : decode bytes pc = .ok (.lmul, 1)) (hp : pc + 1 = pc')
    (k : Go p e below s R n0 Q (T.setTop (mkF m pc' Ls (.long (x * y) :: stk)))) : Go p e below s R n0 Q (T.setTop (mkF m pc Ls (.long y :: .long x :: stk))) := by
  subst hp; obtain ⟨locs, X, N⟩ := X
  exact go_by (fun t k => XS.lmul X.here K.hx rfl (hb K.by' hd) rfl k) k

theorem go_land (K : Ctx p s m meth c Z own nm bytes maxL ret) (X : St p l e R s m args below meth c n0 T cells slots) {x y : Int64} (hd : decode bytes pc = .ok (.land, 1)) (hp : pc + 1 = pc')
    (k : Go p e below s R n0 Q (T.setTop (mkF m pc' Ls (.long (x &&& y) :: stk)))) : Go p e below s R n0 Q (T.setTop (mkF m pc Ls (.long y :: .long x :: stk))) := by
  subst hp; obtain ⟨locs, X, N⟩ := X
  exact go_by (fun t k => XS.land X.here K.hx rfl (hb K.by' hd) rfl k) k

theorem go_lor (K : Ctx p s m meth c Z own nm bytes maxL ret) (X : St p l e R s m args below meth c n0 T cells slots) {x y : Int64} (hd : decode bytes pc = .ok (.lor, 1)) (hp : pc + 1 = pc')
    (k : Go p e below s R n0 Q (T.setTop (mkF m pc' Ls (.long (x ||| y) :: stk)))) : Go p e below s R n0 Q (T.setTop (mkF m pc Ls (.long y :: .long x :: stk))) := by
  subst hp; obtain ⟨locs, X, N⟩ := X
  exact go_by (fun t k => XS.lor X.here K.hx rfl (hb K.by' hd) rfl k) k

theorem go_lxor (K : Ctx p s m meth c Z own nm bytes maxL ret) (X : St p l e R s m args below meth c n0 T cells slots) {x y : Int64} (hd : decode bytes pc = .ok (.lxor, 1)) (hp : pc + 1 = pc')
    (k : Go p e below s R n0 Q (T.setTop (mkF m pc' Ls (.long (x ^^^ y) :: stk)))) : Go p e below s R n0 Q (T.setTop (mkF m pc Ls (.long y :: .long x :: stk))) := by
  subst hp; obtain ⟨locs, X, N⟩ := X
  exact go_by (fun t k => XS.lxor X.here K.hx rfl (hb K.by' hd) rfl k) k

theorem go_lshl (K : Ctx p s m meth c Z own nm bytes maxL ret) (X : St p l e R s m args below meth c n0 T cells slots) {x : Int64} {y : Int32} (hd : decode bytes pc = .ok (.lshl, 1)) (hp : pc + 1 = pc')
    (k : Go p e below s R n0 Q (T.setTop (mkF m pc' Ls (.long (x <<< (y &&& 0x3f).toInt64) :: stk)))) : Go p e below s R n0 Q (T.setTop (mkF m pc Ls (.int y :: .long x :: stk))) := by
  subst hp; obtain ⟨locs, X, N⟩ := X
  exact go_by (fun t k => XS.lshl X.here K.hx rfl (hb K.by' hd) rfl k) k

theorem go_lshr (K : Ctx p s m meth c Z own nm bytes maxL ret) (X : St p l e R s m args below meth c n0 T cells slots) {x : Int64} {y : Int32} (hd : decode bytes pc = .ok (.lshr, 1)) (hp : pc + 1 = pc')
    (k : Go p e below s R n0 Q (T.setTop (mkF m pc' Ls (.long (x >>> (y &&& 0x3f).toInt64) :: stk)))) : Go p e below s R n0 Q (T.setTop (mkF m pc Ls (.int y :: .long x :: stk))) := by
  subst hp; obtain ⟨locs, X, N⟩ := X
  exact go_by (fun t k => XS.lshr X.here K.hx rfl (hb K.by' hd) rfl k) k

theorem go_lushr (K : Ctx p s m meth c Z own nm bytes maxL ret) (X : St p l e R s m args below meth c n0 T cells slots) {x : Int64} {y : Int32} (hd : decode bytes pc = .ok (.lushr, 1)) (hp : pc + 1 = pc')
    (k : Go p e below s R n0 Q (T.setTop (mkF m pc' Ls (.long ((x.toUInt64 >>> (y &&& 0x3f).toInt64.toUInt64).toInt64) :: stk)))) : Go p e below s R n0 Q (T.setTop (mkF m pc Ls (.int y :: .long x :: stk))) := by
  subst hp; obtain ⟨locs, X, N⟩ := X
  exact go_by (fun t k => XS.lushr X.here K.hx rfl (hb K.by' hd) rfl k) k

theorem go_idiv (K : Ctx p s m meth c Z own nm bytes maxL ret) (X : St p l e R s m args below meth c n0 T cells slots) {x y : Int32} (hd : decode bytes pc = .ok (.idiv, 1)) (hy : y ≠ 0) (hp : pc + 1 = pc')
    (k : Go p e below s R n0 Q (T.setTop (mkF m pc' Ls (.int (x / y) :: stk)))) : Go p e below s R n0 Q (T.setTop (mkF m pc Ls (.int y :: .int x :: stk))) := by
  subst hp; obtain ⟨locs, X, N⟩ := X
  exact go_by (fun t k => XS.idiv X.here K.hx rfl (hb K.by' hd) rfl hy k) k

theorem go_irem (K : Ctx p s m meth c Z own nm bytes maxL ret) (X : St p l e R s m args below meth c n0 T cells slots) {x y : Int32} (hd : decode bytes pc = .ok (.irem, 1)) (hy : y ≠ 0) (hp : pc + 1 = pc')
    (k : Go p e below s R n0 Q (T.setTop (mkF m pc' Ls (.int (x % y) :: stk)))) : Go p e below s R n0 Q (T.setTop (mkF m pc Ls (.int y :: .int x :: stk))) := by
  subst hp; obtain ⟨locs, X, N⟩ := X
  exact go_by (fun t k => iremM X K.hx rfl (hb K.by' hd) rfl hy k) k

theorem go_ldiv (K : Ctx p s m meth c Z own nm bytes maxL ret) (X : St p l e R s m args below meth c n0 T cells slots) {x y : Int64} (hd : decode bytes pc = .ok (.ldiv, 1)) (hy : y ≠ 0) (hp : pc + 1 = pc')
    (k : Go p e below s R n0 Q (T.setTop (mkF m pc' Ls (.long (x / y) :: stk)))) : Go p e below s R n0 Q (T.setTop (mkF m pc Ls (.long y :: .long x :: stk))) := by
  subst hp; obtain ⟨locs, X, N⟩ := X
  exact go_by (fun t k => XS.ldiv X.here K.hx rfl (hb K.by' hd) rfl hy k) k

theorem go_lrem (K : Ctx p s m meth c Z own nm bytes maxL ret) (X : St p l e R s m args below meth c n0 T cells slots) {x y : Int64} (hd : decode bytes pc = .ok (.lrem, 1)) (hy : y ≠ 0) (hp : pc + 1 = pc')
    (k : Go p e below s R n0 Q (T.setTop (mkF m pc' Ls (.long (x - (x / y) * y) :: stk)))) : Go p e below s R n0 Q (T.setTop (mkF m pc Ls (.long y :: .long x :: stk))) := by
  subst hp; obtain ⟨locs, X, N⟩ := X
  exact go_by (fun t k => XS.lrem X.here K.hx rfl (hb K.by' hd) rfl hy k) k

theorem go_ineg (K : Ctx p s m meth c Z own nm bytes maxL ret) (X : St p l e R s m args below meth c n0 T cells slots) {x : Int32} (hd : decode bytes pc = .ok (.ineg, 1)) (hp : pc + 1 = pc')
    (k : Go p e below s R n0 Q (T.setTop (mkF m pc' Ls (.int (-x) :: stk)))) : Go p e below s R n0 Q (T.setTop (mkF m pc Ls (.int x :: stk))) := by
  subst hp; obtain ⟨locs, X, N⟩ := X
  exact go_by (fun t k => XS.ineg X.here K.hx rfl (hb K.by' hd) rfl k) k

theorem go_lneg (K : Ctx p s m meth c Z own nm bytes maxL ret) (X : St p l e R s m args below meth c n0 T cells slots) {x : Int64} (hd : decode bytes pc = .ok (.lneg, 1)) (hp : pc + 1 = pc')
    (k : Go p e below s R n0 Q (T.setTop (mkF m pc' Ls (.long (-x) :: stk)))) : Go p e below s R n0 Q (T.setTop (mkF m pc Ls (.long x :: stk))) := by
  subst hp; obtain ⟨locs, X, N⟩ := X
  exact go_by (fun t k => XS.lneg X.here K.hx rfl (hb K.by' hd) rfl k) k

theorem go_i2b (K : Ctx p s m meth c Z own nm bytes maxL ret) (X : St p l e R s m args below meth c n0 T cells slots) {x : Int32} (hd : decode bytes pc = .ok (.i2b, 1)) (hp : pc + 1 = pc')
    (k : Go p e below s R n0 Q (T.setTop (mkF m pc' Ls (.int (x.toInt8.toInt32) :: stk)))) : Go p e below s R n0 Q (T.setTop (mkF m pc Ls (.int x :: stk))) := by
  subst hp; obtain ⟨locs, X, N⟩ := X
  exact go_by (fun t k => XS.i2b X.here K.hx rfl (hb K.by' hd) rfl k) k

theorem go_i2c (K : Ctx p s m meth c Z own nm bytes maxL ret) (X : St p l e R s m args below meth c n0 T cells slots) {x : Int32} (hd : decode bytes pc = .ok (.i2c, 1)) (hp : pc + 1 = pc')
    (k : Go p e below s R n0 Q (T.setTop (mkF m pc' Ls (.int (x.toUInt32.toUInt16.toUInt32.toInt32) :: stk)))) : Go p e below s R n0 Q (T.setTop (mkF m pc Ls (.int x :: stk))) := by
  subst hp; obtain ⟨locs, X, N⟩ := X
  exact go_by (fun t k => XS.i2c X.here K.hx rfl (hb K.by' hd) rfl k) k

theorem go_i2s (K : Ctx p s m meth c Z own nm bytes maxL ret) (X : St p l e R s m args below meth c n0 T cells slots) {x : Int32} (hd : decode bytes pc = .ok (.i2s, 1)) (hp : pc + 1 = pc')
    (k : Go p e below s R n0 Q (T.setTop (mkF m pc' Ls (.int (x.toInt16.toInt32) :: stk)))) : Go p e below s R n0 Q (T.setTop (mkF m pc Ls (.int x :: stk))) := by
  subst hp; obtain ⟨locs, X, N⟩ := X
  exact go_by (fun t k => XS.i2s X.here K.hx rfl (hb K.by' hd) rfl k) k

theorem go_i2l (K : Ctx p s m meth c Z own nm bytes maxL ret) (X : St p l e R s m args below meth c n0 T cells slots) {x : Int32} (hd : decode bytes pc = .ok (.i2l, 1)) (hp : pc + 1 = pc')
    (k : Go p e below s R n0 Q (T.setTop (mkF m pc' Ls (.long x.toInt64 :: stk)))) : Go p e below s R n0 Q (T.setTop (mkF m pc Ls (.int x :: stk))) := by
  subst hp; obtain ⟨locs, X, N⟩ := X
  exact go_by (fun t k => XS.i2l X.here K.hx rfl (hb K.by' hd) rfl k) k

theorem go_l2i (K : Ctx p s m meth c Z own nm bytes maxL ret) (X : St p l e R s m args below meth c n0 T cells slots) {x : Int64} (hd : decode bytes pc = .ok (.l2i, 1)) (hp : pc + 1 = pc')
    (k : Go p e below s R n0 Q (T.setTop (mkF m pc' Ls (.int x.toInt32 :: stk)))) : Go p e below s R n0 Q (T.setTop (mkF m pc Ls (.long x :: stk))) := by
  subst hp; obtain ⟨locs, X, N⟩ := X
  exact go_by (fun t k => XS.l2i X.here K.hx rfl (hb K.by' hd) rfl k) k

theorem go_istoreN (K : Ctx p s m meth c Z own nm bytes maxL ret) (X : St p l e R s m args below meth c n0 T cells slots) {k0 : Fin 4} {v : Int32} (Ls' : Array Slot) (hd : decode bytes pc = .ok (.istore_n k0, 1)) (hl : storeLocals Ls k0.val (.int v) = some Ls') (hp : pc + 1 = pc')
    (k : Go p e below s R n0 Q (T.setTop (mkF m pc' Ls' (stk)))) : Go p e below s R n0 Q (T.setTop (mkF m pc Ls (.int v :: stk))) := by
  subst hp; obtain ⟨locs, X, N⟩ := X
  exact go_by (fun t k => XS.istoreN X.here K.hx rfl (hb K.by' hd) rfl hl k) k

theorem go_istore (K : Ctx p s m meth c Z own nm bytes maxL ret) (X : St p l e R s m args below meth c n0 T cells slots) {k0 : Nat} {v : Int32} (Ls' : Array Slot) (hd : decode bytes pc = .ok (.istore k0, 2)) (hl : storeLocals Ls k0 (.int v) = some Ls') (hp : pc + 2 = pc')
    (k : Go p e below s R n0 Q (T.setTop (mkF m pc' Ls' (stk)))) : Go p e below s R n0 Q (T.setTop (mkF m pc Ls (.int v :: stk))) := by
  subst hp; obtain ⟨locs, X, N⟩ := X
  exact go_by (fun t k => XS.istore X.here K.hx rfl (hb K.by' hd) rfl hl k) k

theorem go_lstoreN (K : Ctx p s m meth c Z own nm bytes maxL ret) (X : St p l e R s m args below meth c n0 T cells slots) {k0 : Fin 4} {v : Int64} (Ls' : Array Slot) (hd : decode bytes pc = .ok (.lstore_n k0, 1)) (hl : storeLocals Ls k0.val (.long v) = some Ls') (hp : pc + 1 = pc')
    (k : Go p e below s R n0 Q (T.setTop (mkF m pc' Ls' (stk)))) : Go p e below s R n0 Q (T.setTop (mkF m pc Ls (.long v :: stk))) := by
  subst hp; obtain ⟨locs, X, N⟩ := X
  exact go_by (fun t k => XS.lstoreN X.here K.hx rfl (hb K.by' hd) rfl hl k) k

theorem go_lstore (K : Ctx p s m meth c Z own nm bytes maxL ret) (X : St p l e R s m args below meth c n0 T cells slots) {k0 : Nat} {v : Int64} (Ls' : Array Slot) (hd : decode bytes pc = .ok (.lstore k0, 2)) (hl : storeLocals Ls k0 (.long v) = some Ls') (hp : pc + 2 = pc')
    (k : Go p e below s R n0 Q (T.setTop (mkF m pc' Ls' (stk)))) : Go p e below s R n0 Q (T.setTop (mkF m pc Ls (.long v :: stk))) := by
  subst hp; obtain ⟨locs, X, N⟩ := X
  exact go_by (fun t k => XS.lstore X.here K.hx rfl (hb K.by' hd) rfl hl k) k

theorem go_astoreN (K : Ctx p s m meth c Z own nm bytes maxL ret) (X : St p l e R s m args below meth c n0 T cells slots) {k0 : Fin 4} {v : Value} (Ls' : Array Slot) (hd : decode bytes pc = .ok (.astore_n k0, 1)) (hv : v.isRef = true) (hl : storeLocals Ls k0.val v = some Ls') (hp : pc + 1 = pc')
    (k : Go p e below s R n0 Q (T.setTop (mkF m pc' Ls' (stk)))) : Go p e below s R n0 Q (T.setTop (mkF m pc Ls (v :: stk))) := by
  subst hp; obtain ⟨locs, X, N⟩ := X
  exact go_by (fun t k => XS.astoreN X.here K.hx rfl (hb K.by' hd) rfl hv hl k) k

theorem go_astore (K : Ctx p s m meth c Z own nm bytes maxL ret) (X : St p l e R s m args below meth c n0 T cells slots) {k0 : Nat} {v : Value} (Ls' : Array Slot) (hd : decode bytes pc = .ok (.astore k0, 2)) (hv : v.isRef = true) (hl : storeLocals Ls k0 v = some Ls') (hp : pc + 2 = pc')
    (k : Go p e below s R n0 Q (T.setTop (mkF m pc' Ls' (stk)))) : Go p e below s R n0 Q (T.setTop (mkF m pc Ls (v :: stk))) := by
  subst hp; obtain ⟨locs, X, N⟩ := X
  exact go_by (fun t k => XS.astore X.here K.hx rfl (hb K.by' hd) rfl hv hl k) k

theorem go_iinc (K : Ctx p s m meth c Z own nm bytes maxL ret) (X : St p l e R s m args below meth c n0 T cells slots) {k0 : Nat} {cst : Int} {x : Int32} (v : Int32) (Ls' : Array Slot) (hd : decode bytes pc = .ok (.iinc k0 cst, 3)) (hv : Int32.ofInt cst = v) (hl : Ls[k0]? = some (.val (.int x))) (hl' : storeLocals Ls k0 (.int (x + v)) = some Ls') (hp : pc + 3 = pc')
    (k : Go p e below s R n0 Q (T.setTop (mkF m pc' Ls' (stk)))) : Go p e below s R n0 Q (T.setTop (mkF m pc Ls (stk))) := by
  subst hp; obtain ⟨locs, X, N⟩ := X
  exact go_by (fun t k => XT.iincV X.here K.hx rfl v (hb K.by' hd) hv hl hl' k) k

theorem go_dup (K : Ctx p s m meth c Z own nm bytes maxL ret) (X : St p l e R s m args below meth c n0 T cells slots) {x : Value} (hd : decode bytes pc = .ok (.dup, 1)) (hc : x.category = 1) (hp : pc + 1 = pc')
    (k : Go p e below s R n0 Q (T.setTop (mkF m pc' Ls (x :: x :: stk)))) : Go p e below s R n0 Q (T.setTop (mkF m pc Ls (x :: stk))) := by
  subst hp; obtain ⟨locs, X, N⟩ := X
  exact go_by (fun t k => XS.dup X.here K.hx rfl (hb K.by' hd) rfl hc k) k

theorem go_pop (K : Ctx p s m meth c Z own nm bytes maxL ret) (X : St p l e R s m args below meth c n0 T cells slots) {x : Value} (hd : decode bytes pc = .ok (.pop, 1)) (hc : x.category = 1) (hp : pc + 1 = pc')
    (k : Go p e below s R n0 Q (T.setTop (mkF m pc' Ls (stk)))) : Go p e below s R n0 Q (T.setTop (mkF m pc Ls (x :: stk))) := by
  subst hp; obtain ⟨locs, X, N⟩ := X
  exact go_by (fun t k => XS.pop X.here K.hx rfl (hb K.by' hd) rfl hc k) k

theorem go_dupX1 (K : Ctx p s m meth c Z own nm bytes maxL ret) (X : St p l e R s m args below meth c n0 T cells slots) {x y : Value} (hd : decode bytes pc = .ok (.dup_x1, 1)) (hc : x.category = 1) (hc' : y.category = 1) (hp : pc + 1 = pc')
    (k : Go p e below s R n0 Q (T.setTop (mkF m pc' Ls (x :: y :: x :: stk)))) : Go p e below s R n0 Q (T.setTop (mkF m pc Ls (x :: y :: stk))) := by
  subst hp; obtain ⟨locs, X, N⟩ := X
  exact go_by (fun t k => XS.dupX1 X.here K.hx rfl (hb K.by' hd) rfl hc hc' k) k

theorem go_dup2 (K : Ctx p s m meth c Z own nm bytes maxL ret) (X : St p l e R s m args below meth c n0 T cells slots) {x y : Value} (hd : decode bytes pc = .ok (.dup2, 1)) (hc : x.category = 1) (hc' : y.category = 1) (hp : pc + 1 = pc')
    (k : Go p e below s R n0 Q (T.setTop (mkF m pc' Ls (x :: y :: x :: y :: stk)))) : Go p e below s R n0 Q (T.setTop (mkF m pc Ls (x :: y :: stk))) := by
  subst hp; obtain ⟨locs, X, N⟩ := X
  exact go_by (fun t k => XT.dup2 X.here K.hx rfl (hb K.by' hd) rfl hc hc' k) k

theorem go_dup2L (K : Ctx p s m meth c Z own nm bytes maxL ret) (X : St p l e R s m args below meth c n0 T cells slots) {x : Int64} (hd : decode bytes pc = .ok (.dup2, 1)) (hp : pc + 1 = pc')
    (k : Go p e below s R n0 Q (T.setTop (mkF m pc' Ls (.long x :: .long x :: stk)))) : Go p e below s R n0 Q (T.setTop (mkF m pc Ls (.long x :: stk))) := by
  subst hp; obtain ⟨locs, X, N⟩ := X
  exact go_by (fun t k => XT.dup2L X.here K.hx rfl (hb K.by' hd) rfl k) k

theorem go_goto (K : Ctx p s m meth c Z own nm bytes maxL ret) (X : St p l e R s m args below meth c n0 T cells slots) {o : Int} (hd : decode bytes pc = .ok (.goto o, 3)) (ho : 0 ≤ (pc : Int) + o) (hp : ((pc : Int) + o).toNat = pt)
    (k : Go p e below s R n0 Q (T.setTop (mkF m pt Ls stk))) : Go p e below s R n0 Q (T.setTop (mkF m pc Ls stk)) := by
  obtain ⟨locs, X, N⟩ := X
  exact go_by (fun t k => XS.goto X.here K.hx rfl (pc0 := pc) rfl (hb K.by' hd) ho hp k) k
/-- what a taken branch says, and what one says that isn't -/
def cT : ClassFile.Cond → Int32 → Int32 → Prop
  | .eq, x, y => x = y | .ne, x, y => ¬ x = y | .lt, x, y => x < y | .ge, x, y => ¬ x < y | .gt, x, y => y < x | .le, x, y => ¬ y < x
def cF : ClassFile.Cond → Int32 → Int32 → Prop
  | .eq, x, y => ¬ x = y | .ne, x, y => x = y | .lt, x, y => ¬ x < y | .ge, x, y => x < y | .gt, x, y => ¬ y < x | .le, x, y => y < x
theorem cT_or (cd : ClassFile.Cond) (x y : Int32) : cT cd x y ∨ cF cd x y := by
  cases cd <;> simp only [cT, cF] <;> first | exact Decidable.em _ | exact (Decidable.em _).symm
theorem cT_holds {cd : ClassFile.Cond} {x y : Int32} (q : cT cd x y) : if_icmp.holds cd x y = true := by
  cases cd
  · exact XT.ii_eq_t q
  · exact XT.ii_ne_t q
  · exact XT.ii_lt_t q
  · exact XT.ii_ge_t q
  · exact XT.ii_gt_t q
  · exact XT.ii_le_t q
theorem cF_holds {cd : ClassFile.Cond} {x y : Int32} (q : cF cd x y) : if_icmp.holds cd x y = false := by
  cases cd
  · exact XT.ii_eq_f q
  · exact XT.ii_ne_f q
  · exact XT.ii_lt_f q
  · exact XT.ii_ge_f q
  · exact XT.ii_gt_f q
  · exact XT.ii_le_f q
def lT : ClassFile.Cond → Int64 → Int64 → Prop
  | .eq, x, y => x = y | .ne, x, y => ¬ x = y | .lt, x, y => x < y | .ge, x, y => ¬ x < y | .gt, x, y => y < x | .le, x, y => ¬ y < x
def lF : ClassFile.Cond → Int64 → Int64 → Prop
  | .eq, x, y => ¬ x = y | .ne, x, y => x = y | .lt, x, y => ¬ x < y | .ge, x, y => x < y | .gt, x, y => ¬ y < x | .le, x, y => y < x
theorem lT_or (cd : ClassFile.Cond) (x y : Int64) : lT cd x y ∨ lF cd x y := by
  cases cd <;> simp only [lT, lF] <;> first | exact Decidable.em _ | exact (Decidable.em _).symm
theorem lT_holds {cd : ClassFile.Cond} {x y : Int64} (q : lT cd x y) : ifCond.holds cd (XT.cmpL x y) = true := by
  cases cd
  · exact XT.ll_eq_t q
  · exact XT.ll_ne_t q
  · exact XT.ll_lt_t q
  · exact XT.ll_ge_t q
  · exact XT.ll_gt_t q
  · exact XT.ll_le_t q
theorem lF_holds {cd : ClassFile.Cond} {x y : Int64} (q : lF cd x y) : ifCond.holds cd (XT.cmpL x y) = false := by
  cases cd
  · exact XT.ll_eq_f q
  · exact XT.ll_ne_f q
  · exact XT.ll_lt_f q
  · exact XT.ll_ge_f q
  · exact XT.ll_gt_f q
  · exact XT.ll_le_f q

theorem go_icmpT (K : Ctx p s m meth c Z own nm bytes maxL ret) (X : St p l e R s m args below meth c n0 T cells slots) {cd : ClassFile.Cond} {o : Int} {x y : Int32} (hd : decode bytes pc = .ok (.if_icmp cd o, 3)) (ho : 0 ≤ (pc : Int) + o) (hp : ((pc : Int) + o).toNat = pt) (q : cT cd x y)
    (k : Go p e below s R n0 Q (T.setTop (mkF m pt Ls stk))) : Go p e below s R n0 Q (T.setTop (mkF m pc Ls (.int y :: .int x :: stk))) := by
  obtain ⟨locs, X, N⟩ := X
  exact go_by (fun t k => XS.icmpYes X.here K.hx rfl (pc0 := pc) rfl (hb K.by' hd) rfl (cT_holds q) ho hp k) k
theorem go_icmpF (K : Ctx p s m meth c Z own nm bytes maxL ret) (X : St p l e R s m args below meth c n0 T cells slots) {cd : ClassFile.Cond} {o : Int} {x y : Int32} (hd : decode bytes pc = .ok (.if_icmp cd o, 3)) (hp : pc + 3 = pc') (q : cF cd x y)
    (k : Go p e below s R n0 Q (T.setTop (mkF m pc' Ls stk))) : Go p e below s R n0 Q (T.setTop (mkF m pc Ls (.int y :: .int x :: stk))) := by
  subst hp; obtain ⟨locs, X, N⟩ := X
  exact go_by (fun t k => XS.icmpNo X.here K.hx rfl (hb K.by' hd) rfl (cF_holds q) k) k
theorem go_icmp (K : Ctx p s m meth c Z own nm bytes maxL ret) (X : St p l e R s m args below meth c n0 T cells slots) {cd : ClassFile.Cond} {o : Int} {x y : Int32} (hd : decode bytes pc = .ok (.if_icmp cd o, 3)) (ho : 0 ≤ (pc : Int) + o) (ht : ((pc : Int) + o).toNat = pt) (hp : pc + 3 = pc')
    (k1 : cT cd x y → Go p e below s R n0 Q (T.setTop (mkF m pt Ls stk))) (k2 : cF cd x y → Go p e below s R n0 Q (T.setTop (mkF m pc' Ls stk))) : Go p e below s R n0 Q (T.setTop (mkF m pc Ls (.int y :: .int x :: stk))) :=
  (cT_or cd _ _).elim (fun q => go_icmpT K X hd ho ht q (k1 q)) (fun q => go_icmpF K X hd hp q (k2 q))

theorem go_ifT (K : Ctx p s m meth c Z own nm bytes maxL ret) (X : St p l e R s m args below meth c n0 T cells slots) {cd : ClassFile.Cond} {o : Int} {x : Int32} (hd : decode bytes pc = .ok (.ifCond cd o, 3)) (ho : 0 ≤ (pc : Int) + o) (hp : ((pc : Int) + o).toNat = pt) (q : cT cd x 0)
    (k : Go p e below s R n0 Q (T.setTop (mkF m pt Ls stk))) : Go p e below s R n0 Q (T.setTop (mkF m pc Ls (.int x :: stk))) := by
  obtain ⟨locs, X, N⟩ := X
  exact go_by (fun t k => XS.ifYes X.here K.hx rfl (pc0 := pc) rfl (hb K.by' hd) rfl ((if0 _ _).trans (cT_holds q)) ho hp k) k
theorem go_ifF (K : Ctx p s m meth c Z own nm bytes maxL ret) (X : St p l e R s m args below meth c n0 T cells slots) {cd : ClassFile.Cond} {o : Int} {x : Int32} (hd : decode bytes pc = .ok (.ifCond cd o, 3)) (hp : pc + 3 = pc') (q : cF cd x 0)
    (k : Go p e below s R n0 Q (T.setTop (mkF m pc' Ls stk))) : Go p e below s R n0 Q (T.setTop (mkF m pc Ls (.int x :: stk))) := by
  subst hp; obtain ⟨locs, X, N⟩ := X
  exact go_by (fun t k => XS.ifNo X.here K.hx rfl (hb K.by' hd) rfl ((if0 _ _).trans (cF_holds q)) k) k
theorem go_if (K : Ctx p s m meth c Z own nm bytes maxL ret) (X : St p l e R s m args below meth c n0 T cells slots) {cd : ClassFile.Cond} {o : Int} {x : Int32} (hd : decode bytes pc = .ok (.ifCond cd o, 3)) (ho : 0 ≤ (pc : Int) + o) (ht : ((pc : Int) + o).toNat = pt) (hp : pc + 3 = pc')
    (k1 : cT cd x 0 → Go p e below s R n0 Q (T.setTop (mkF m pt Ls stk))) (k2 : cF cd x 0 → Go p e below s R n0 Q (T.setTop (mkF m pc' Ls stk))) : Go p e below s R n0 Q (T.setTop (mkF m pc Ls (.int x :: stk))) :=
  (cT_or cd _ _).elim (fun q => go_ifT K X hd ho ht q (k1 q)) (fun q => go_ifF K X hd hp q (k2 q))

theorem go_lifT (K : Ctx p s m meth c Z own nm bytes maxL ret) (X : St p l e R s m args below meth c n0 T cells slots) {cd : ClassFile.Cond} {o : Int} {x y : Int64} (hd1 : decode bytes pc = .ok (.lcmp, 1)) (hp : pc + 1 = pc') (hd : decode bytes pc' = .ok (.ifCond cd o, 3)) (ho : 0 ≤ (pc' : Int) + o) (ht : ((pc' : Int) + o).toNat = pt) (q : lT cd x y)
    (k : Go p e below s R n0 Q (T.setTop (mkF m pt Ls stk))) : Go p e below s R n0 Q (T.setTop (mkF m pc Ls (.long y :: .long x :: stk))) := by
  subst hp; obtain ⟨locs, X, N⟩ := X
  exact go_by (fun t k => XT.lcmp X.here K.hx rfl (hb K.by' hd1) rfl (XS.ifYes X.here K.hx rfl (pc0 := pc + 1) rfl (hb K.by' hd) rfl (lT_holds q) ho ht k)) k
theorem go_lifF (K : Ctx p s m meth c Z own nm bytes maxL ret) (X : St p l e R s m args below meth c n0 T cells slots) {cd : ClassFile.Cond} {o : Int} {x y : Int64} {pn : Nat} (hd1 : decode bytes pc = .ok (.lcmp, 1)) (hp : pc + 1 = pc') (hd : decode bytes pc' = .ok (.ifCond cd o, 3)) (hn : pc' + 3 = pn) (q : lF cd x y)
    (k : Go p e below s R n0 Q (T.setTop (mkF m pn Ls stk))) : Go p e below s R n0 Q (T.setTop (mkF m pc Ls (.long y :: .long x :: stk))) := by
  subst hp hn; obtain ⟨locs, X, N⟩ := X
  exact go_by (fun t k => XT.lcmp X.here K.hx rfl (hb K.by' hd1) rfl (XS.ifNo X.here K.hx rfl (hb K.by' hd) rfl (lF_holds q) k)) k
theorem go_lif (K : Ctx p s m meth c Z own nm bytes maxL ret) (X : St p l e R s m args below meth c n0 T cells slots) {cd : ClassFile.Cond} {o : Int} {x y : Int64} {pn : Nat} (hd1 : decode bytes pc = .ok (.lcmp, 1)) (hp : pc + 1 = pc') (hd : decode bytes pc' = .ok (.ifCond cd o, 3)) (ho : 0 ≤ (pc' : Int) + o) (ht : ((pc' : Int) + o).toNat = pt) (hn : pc' + 3 = pn)
    (k1 : lT cd x y → Go p e below s R n0 Q (T.setTop (mkF m pt Ls stk))) (k2 : lF cd x y → Go p e below s R n0 Q (T.setTop (mkF m pn Ls stk))) : Go p e below s R n0 Q (T.setTop (mkF m pc Ls (.long y :: .long x :: stk))) :=
  (lT_or cd _ _).elim (fun q => go_lifT K X hd1 hp hd ho ht q (k1 q)) (fun q => go_lifF K X hd1 hp hd hn q (k2 q))
theorem go_nullT (K : Ctx p s m meth c Z own nm bytes maxL ret) (X : St p l e R s m args below meth c n0 T cells slots) {o : Int} (hd : decode bytes pc = .ok (.ifnull o, 3)) (ho : 0 ≤ (pc : Int) + o) (hp : ((pc : Int) + o).toNat = pt)
    (k : Go p e below s R n0 Q (T.setTop (mkF m pt Ls stk))) : Go p e below s R n0 Q (T.setTop (mkF m pc Ls (.null :: stk))) := by
  obtain ⟨locs, X, N⟩ := X
  exact go_by (fun t k => XS.ifnullYes X.here K.hx rfl (pc0 := pc) rfl (hb K.by' hd) rfl ho hp k) k
theorem go_nullF (K : Ctx p s m meth c Z own nm bytes maxL ret) (X : St p l e R s m args below meth c n0 T cells slots) {o : Int} {a : Addr} (hd : decode bytes pc = .ok (.ifnull o, 3)) (hp : pc + 3 = pc')
    (k : Go p e below s R n0 Q (T.setTop (mkF m pc' Ls stk))) : Go p e below s R n0 Q (T.setTop (mkF m pc Ls (.ref a :: stk))) := by
  subst hp; obtain ⟨locs, X, N⟩ := X
  exact go_by (fun t k => XS.ifnullNo X.here K.hx rfl (hb K.by' hd) rfl k) k
theorem go_nonnullT (K : Ctx p s m meth c Z own nm bytes maxL ret) (X : St p l e R s m args below meth c n0 T cells slots) {o : Int} {a : Addr} (hd : decode bytes pc = .ok (.ifnonnull o, 3)) (ho : 0 ≤ (pc : Int) + o) (hp : ((pc : Int) + o).toNat = pt)
    (k : Go p e below s R n0 Q (T.setTop (mkF m pt Ls stk))) : Go p e below s R n0 Q (T.setTop (mkF m pc Ls (.ref a :: stk))) := by
  obtain ⟨locs, X, N⟩ := X
  exact go_by (fun t k => XS.ifnonnullYes X.here K.hx rfl (pc0 := pc) rfl (hb K.by' hd) rfl ho hp k) k
theorem go_nonnullF (K : Ctx p s m meth c Z own nm bytes maxL ret) (X : St p l e R s m args below meth c n0 T cells slots) {o : Int} (hd : decode bytes pc = .ok (.ifnonnull o, 3)) (hp : pc + 3 = pc')
    (k : Go p e below s R n0 Q (T.setTop (mkF m pc' Ls stk))) : Go p e below s R n0 Q (T.setTop (mkF m pc Ls (.null :: stk))) := by
  subst hp; obtain ⟨locs, X, N⟩ := X
  exact go_by (fun t k => XS.ifnonnullNo X.here K.hx rfl (hb K.by' hd) rfl k) k
theorem go_acmpT (K : Ctx p s m meth c Z own nm bytes maxL ret) (X : St p l e R s m args below meth c n0 T cells slots) {cd : ClassFile.ACond} {o : Int} {x y : Value} (hd : decode bytes pc = .ok (.if_acmp cd o, 3)) (ho : 0 ≤ (pc : Int) + o) (hp : ((pc : Int) + o).toNat = pt) (h1 : x.isRef = true) (h2 : y.isRef = true) (q : XT.acmp cd x y = true)
    (k : Go p e below s R n0 Q (T.setTop (mkF m pt Ls stk))) : Go p e below s R n0 Q (T.setTop (mkF m pc Ls (y :: x :: stk))) := by
  obtain ⟨locs, X, N⟩ := X
  exact go_by (fun t k => XT.acmpYes X.here K.hx rfl (pc0 := pc) rfl (hb K.by' hd) rfl h1 h2 q ho hp k) k
theorem go_acmpF (K : Ctx p s m meth c Z own nm bytes maxL ret) (X : St p l e R s m args below meth c n0 T cells slots) {cd : ClassFile.ACond} {o : Int} {x y : Value} (hd : decode bytes pc = .ok (.if_acmp cd o, 3)) (hp : pc + 3 = pc') (h1 : x.isRef = true) (h2 : y.isRef = true) (q : XT.acmp cd x y = false)
    (k : Go p e below s R n0 Q (T.setTop (mkF m pc' Ls stk))) : Go p e below s R n0 Q (T.setTop (mkF m pc Ls (y :: x :: stk))) := by
  subst hp; obtain ⟨locs, X, N⟩ := X
  exact go_by (fun t k => XT.acmpNo X.here K.hx rfl (hb K.by' hd) rfl h1 h2 q k) k
/-- the return -/
theorem go_retV (K : Ctx p s m meth c Z own nm bytes maxL ret) (X : St p l e R s m args below meth c n0 T cells slots) {w : Value} {t : FieldType} {i : Instr} (hret : ret = some t) (hn : narrow t w = w)
    (hi : (i = .ireturn ∧ (t = .int ∨ t = .boolean ∨ t = .byte ∨ t = .char ∨ t = .short) ∧ ∃ z, w = .int z) ∨ (i = .lreturn ∧ t = .long ∧ ∃ z, w = .long z) ∨ (i = .dreturn ∧ t = .double ∧ ∃ z, w = .double z) ∨ (i = .freturn ∧ t = .float ∧ ∃ z, w = .float z) ∨ (i = .areturn ∧ t.isReference = true ∧ w.isRef = true))
    (hd : decode bytes pc = .ok (i, 1)) (hc : cells ≤ R.cells) (hs : slots ≤ R.slots) (q : Q (some w) T.heap) : Go p e below s R n0 Q (T.setTop (mkF m pc Ls (w :: stk))) := by
  obtain ⟨locs, X, N⟩ := X
  obtain ⟨fs, hr, hrun, hended, hW, hsame⟩ := X.leave (v := some w) (fun h => by rw [K.ret', hret] at h; cases h) K.locks
  exact ⟨_, _, retOut X K.hx (K.ret'.trans hret) hn hi (hb K.by' hd) hr, hrun, hended, _, _, rfl, ⟨q, N⟩, ⟨_, rfl⟩, hW, hsame.mono hc hs⟩
theorem go_retI (K : Ctx p s m meth c Z own nm bytes maxL (some .int)) (X : St p l e R s m args below meth c n0 T cells slots) {z : Int32} (hd : decode bytes pc = .ok (.ireturn, 1)) (hc : cells ≤ R.cells) (hs : slots ≤ R.slots) (q : Q (some (.int z)) T.heap) : Go p e below s R n0 Q (T.setTop (mkF m pc Ls (.int z :: stk))) :=
  go_retV K X rfl rfl (Or.inl ⟨rfl, Or.inl rfl, z, rfl⟩) hd hc hs q
theorem go_retZ (K : Ctx p s m meth c Z own nm bytes maxL (some .boolean)) (X : St p l e R s m args below meth c n0 T cells slots) {z : Int32} (hz : z = 0 ∨ z = 1) (hd : decode bytes pc = .ok (.ireturn, 1)) (hc : cells ≤ R.cells) (hs : slots ≤ R.slots) (q : Q (some (.int z)) T.heap) : Go p e below s R n0 Q (T.setTop (mkF m pc Ls (.int z :: stk))) :=
  go_retV K X rfl (by rcases hz with rfl | rfl <;> rfl) (Or.inl ⟨rfl, Or.inr (Or.inl rfl), z, rfl⟩) hd hc hs q
theorem go_retJ (K : Ctx p s m meth c Z own nm bytes maxL (some .long)) (X : St p l e R s m args below meth c n0 T cells slots) {z : Int64} (hd : decode bytes pc = .ok (.lreturn, 1)) (hc : cells ≤ R.cells) (hs : slots ≤ R.slots) (q : Q (some (.long z)) T.heap) : Go p e below s R n0 Q (T.setTop (mkF m pc Ls (.long z :: stk))) :=
  go_retV K X rfl rfl (Or.inr (Or.inl ⟨rfl, rfl, z, rfl⟩)) hd hc hs q
theorem go_retA (K : Ctx p s m meth c Z own nm bytes maxL (some t)) (X : St p l e R s m args below meth c n0 T cells slots) {w : Value} (ht : t.isReference = true) (hw : w.isRef = true) (hn : narrow t w = w) (hd : decode bytes pc = .ok (.areturn, 1)) (hc : cells ≤ R.cells) (hs : slots ≤ R.slots) (q : Q (some w) T.heap) : Go p e below s R n0 Q (T.setTop (mkF m pc Ls (w :: stk))) :=
  go_retV K X rfl hn (Or.inr (Or.inr (Or.inr (Or.inr ⟨rfl, ht, hw⟩)))) hd hc hs q
theorem go_ret (K : Ctx p s m meth c Z own nm bytes maxL none) (X : St p l e R s m args below meth c n0 T cells slots) (hd : decode bytes pc = .ok (.return_, 1)) (hc : cells ≤ R.cells) (hs : slots ≤ R.slots) (q : Q none T.heap) : Go p e below s R n0 Q (T.setTop (mkF m pc Ls [])) := by
  obtain ⟨locs, X, N⟩ := X
  obtain ⟨fs, hr, hrun, hended, hW, hsame⟩ := X.leave (v := none) (fun _ => rfl) K.locks
  exact ⟨_, _, X.returnOut K.hx K.ret' (hb K.by' hd) hr, hrun, hended, _, _, rfl, ⟨q, N⟩, ⟨_, rfl⟩, hW, hsame.mono hc hs⟩

/-! ## the heap -/
theorem go_getF (K : Ctx p s m meth c Z own nm bytes maxL ret) (X : St p l e R s m args below meth c n0 T cells slots) {R0 O n d host : String} {index : Nat} (w : (Cond.fieldLink own index R0 n d).before a0 Z = true ∨ (Cond.fieldLinkNest own index R0 n d host).before a0 Z = true) (via : Via Z R0 O n d) (eT : T.heap = h) {a : Addr} {v : Value} (F : Fld Z h a O n d v) (hd : decode bytes pc = .ok (.getfield index, 3)) (hp : pc + 3 = pc')
    (k : ∀ T', St p l e R s m args below meth c n0 T' cells slots → T'.heap = h → Go p e below s R n0 Q (T'.setTop (mkF m pc' Ls (v :: stk)))) : Go p e below s R n0 Q (T.setTop (mkF m pc Ls (.ref a :: stk))) := by
  subst hp; obtain ⟨locs, X, N⟩ := X
  obtain ⟨T', X', e', st⟩ := getF X K.hx K.hZ K.own' w via eT F (g := mkF m pc Ls (.ref a :: stk)) rfl rfl (hb K.by' hd)
  exact go_by st (k T' ⟨locs, X', N⟩ e')
theorem go_getS (K : Ctx p s m meth c Z own nm bytes maxL ret) (X : St p l e R s m args below meth c n0 T cells slots) {R0 O n d host : String} {index : Nat} (w : (Cond.fieldLink own index R0 n d).before a0 Z = true ∨ (Cond.fieldLinkNest own index R0 n d host).before a0 Z = true) (via : Via Z R0 O n d) (eT : T.heap = h) {v : Value} (F : Sta Z h O n d v) (hd : decode bytes pc = .ok (.getstatic index, 3)) (hp : pc + 3 = pc')
    (k : ∀ T', St p l e R s m args below meth c n0 T' cells slots → T'.heap = h → Go p e below s R n0 Q (T'.setTop (mkF m pc' Ls (v :: stk)))) : Go p e below s R n0 Q (T.setTop (mkF m pc Ls stk)) := by
  subst hp; obtain ⟨locs, X, N⟩ := X
  obtain ⟨T', X', e', st⟩ := getS2 X K.hx K.hZ K.own' w via eT F (g := mkF m pc Ls stk) rfl (hb K.by' hd)
  exact go_by st (k T' ⟨locs, X', N⟩ e')
theorem go_putF (K : Ctx p s m meth c Z own nm bytes maxL ret) (X : St p l e R s m args below meth c n0 T cells slots) {R0 O n d host C : String} {index kk : Nat} {ty : FieldType} (w : (Cond.fieldLink own index R0 n d).before a0 Z = true ∨ (Cond.fieldLinkNest own index R0 n d host).before a0 Z = true) (via : Via Z R0 O n d) (eT : T.heap = h) {a : Addr} {v old : Value} (F : Fld Z h a O n d old) (E : Exa Z h a C)
    (L : (Cond.lays C O n d).before a0 Z = true ∨ ((Cond.laysFinal C O n d).before a0 Z = true ∧ own = O ∧ nm = "<init>")) (wi : (Cond.instantiable C kk).before a0 Z = true) (hty : parseFieldDescriptor d = some ty) (hn : narrow ty v = v) (hf : fits ty v = true) (ge : n0 ≤ a) (hd : decode bytes pc = .ok (.putfield index, 3)) (hp : pc + 3 = pc')
    (k : ∀ T' h', St p l e R s m args below meth c n0 T' cells slots → T'.heap = h' → Wr h h' a (Jvm.RoadKit.slotOf Z O n d) v → Go p e below s R n0 Q (T'.setTop (mkF m pc' Ls stk))) : Go p e below s R n0 Q (T.setTop (mkF m pc Ls (v :: .ref a :: stk))) := by
  subst hp; obtain ⟨locs, X, N⟩ := X
  obtain ⟨T', h', X', e', W', st⟩ := putF X K.hx K.hZ K.own' w via eT F E (L.imp id fun q => ⟨q.1, q.2.1, K.nm'.trans q.2.2⟩) wi hty hn hf (g := mkF m pc Ls (v :: .ref a :: stk)) rfl rfl (hb K.by' hd)
  exact go_by st (k T' h' ⟨_, X', Fr.snoc X' N ge⟩ e' W')
theorem go_new (K : Ctx p s m meth c Z own nm bytes maxL ret) (X : St p l e R s m args below meth c n0 T cells slots) {C : String} {index n : Nat} (w : (Cond.classLink own index C).before a0 Z = true) (wi : (Cond.instantiable C n).before a0 Z = true) (wz : (Cond.initialized C).before a0 Z = true) (eT : T.heap = h) (hd : decode bytes pc = .ok (.new index, 3)) (hp : pc + 3 = pc') (hc' : cells + 1 = cells') (hs' : slots + n = slots') (hc : cells' ≤ R.cells) (hs : slots' ≤ R.slots)
    (k : ∀ T' h' a, a = h.size → St p l e R s m args below meth c n0 T' cells' slots' → T'.heap = h' → Ext h h' → Exa Z h' a C → (∀ {O nm d : String} {ty : FieldType}, Laid Z a0 C O nm d → parseFieldDescriptor d = some ty → Fld Z h' a O nm d (defaultValue ty)) → Go p e below s R n0 Q (T'.setTop (mkF m pc' Ls (.ref a :: stk)))) : Go p e below s R n0 Q (T.setTop (mkF m pc Ls stk)) := by
  subst hp hc' hs'; obtain ⟨locs, X, N⟩ := X
  obtain ⟨T', h', X', e', E', A', D', -, st⟩ := newO X K.hx K.hZ K.own' w wi wz eT (g := mkF m pc Ls stk) rfl (hb K.by' hd) hc hs
  exact go_by st (k T' h' _ rfl ⟨_, X', N⟩ e' E' A' D')
theorem go_initO (K : Ctx p s m meth c Z own nm bytes maxL ret) (X : St p l e R s m args below meth c n0 T cells slots) {idx : Nat} {a : Addr} (w1 : (Cond.methodLink own idx Lib.objectInit).before a0 Z = true) (w2 : (Cond.instanceMethod Lib.objectInit).before a0 Z = true) (w3 : (Cond.code Lib.objectInit ⟨#[0xb1]⟩ 1 none).before a0 Z = true) (eT : T.heap = h) (hsize : Ls.size = maxL) (hd : decode bytes pc = .ok (.invokespecial idx, 3)) (hp : pc + 3 = pc')
    (hf : 1 ≤ R.frames) {W : Nat} (hW : (stk.map fun v => v.category).sum ≤ W) (hl : W + 12 ≤ R.locals)
    (k : ∀ T', St p l e R s m args below meth c n0 T' cells slots → T'.heap = h → Go p e below s R n0 Q (T'.setTop (mkF m pc' Ls stk))) : Go p e below s R n0 Q (T.setTop (mkF m pc Ls (.ref a :: stk))) := by
  subst hp; obtain ⟨locs, X, N⟩ := X
  obtain ⟨T', X', e', st⟩ := initO X K.hx K.hZ K.own' w1 w2 w3 eT (g := mkF m pc Ls (.ref a :: stk)) rfl (by rw [K.ml]; exact hsize) rfl (hb K.by' hd) hf (W := W) (by show 2 * 0 + _ ≤ _; omega) hl
  exact go_by st (k T' ⟨_, X', N⟩ e')
theorem go_cast (K : Ctx p s m meth c Z own nm bytes maxL ret) (X : St p l e R s m args below meth c n0 T cells slots) {C : String} {index : Nat} (w : (Cond.classLink own index C).before a0 Z = true) (eT : T.heap = h) {a : Addr} (F : Ins Z h a C true) (hd : decode bytes pc = .ok (.checkcast index, 3)) (hp : pc + 3 = pc')
    (k : ∀ T', St p l e R s m args below meth c n0 T' cells slots → T'.heap = h → Go p e below s R n0 Q (T'.setTop (mkF m pc' Ls (.ref a :: stk)))) : Go p e below s R n0 Q (T.setTop (mkF m pc Ls (.ref a :: stk))) := by
  subst hp; obtain ⟨locs, X, N⟩ := X
  obtain ⟨T', X', e', st⟩ := castY X K.hx K.hZ K.own' w eT F (g := mkF m pc Ls (.ref a :: stk)) rfl rfl (hb K.by' hd)
  exact go_by st (k T' ⟨_, X', N⟩ e')
theorem go_instY (K : Ctx p s m meth c Z own nm bytes maxL ret) (X : St p l e R s m args below meth c n0 T cells slots) {C : String} {index : Nat} (w : (Cond.classLink own index C).before a0 Z = true) (eT : T.heap = h) {a : Addr} (F : Ins Z h a C true) (hd : decode bytes pc = .ok (.instanceof index, 3)) (hp : pc + 3 = pc')
    (k : ∀ T', St p l e R s m args below meth c n0 T' cells slots → T'.heap = h → Go p e below s R n0 Q (T'.setTop (mkF m pc' Ls (.int 1 :: stk)))) : Go p e below s R n0 Q (T.setTop (mkF m pc Ls (.ref a :: stk))) := by
  subst hp; obtain ⟨locs, X, N⟩ := X
  obtain ⟨T', X', e', st⟩ := instY X K.hx K.hZ K.own' w eT F (g := mkF m pc Ls (.ref a :: stk)) rfl rfl (hb K.by' hd)
  exact go_by st (k T' ⟨_, X', N⟩ e')
theorem go_instN (K : Ctx p s m meth c Z own nm bytes maxL ret) (X : St p l e R s m args below meth c n0 T cells slots) {C C' : String} {index : Nat} (w : (Cond.classLink own index C).before a0 Z = true) (eT : T.heap = h) {a : Addr} (E : Exa Z h a C') (F : ∃ c t, Z.vm.findClass C' = some c ∧ Z.vm.findClass C = some t ∧ Z.vm.assignable c t = false) (hd : decode bytes pc = .ok (.instanceof index, 3)) (hp : pc + 3 = pc')
    (k : ∀ T', St p l e R s m args below meth c n0 T' cells slots → T'.heap = h → Go p e below s R n0 Q (T'.setTop (mkF m pc' Ls (.int 0 :: stk)))) : Go p e below s R n0 Q (T.setTop (mkF m pc Ls (.ref a :: stk))) := by
  subst hp; obtain ⟨locs, X, N⟩ := X
  obtain ⟨T', X', e', st⟩ := instNo X K.hx K.hZ K.own' w eT E F (g := mkF m pc Ls (.ref a :: stk)) rfl rfl (hb K.by' hd)
  exact go_by st (k T' ⟨_, X', N⟩ e')

/-! ## arrays -/
/-- at a lies an array of ty that holds just vs -/
def AV (Z : State) (h : Heap) (a : Addr) (ty : FieldType) (vs : List Value) : Prop := ∃ cl : Cell, Arr Z h a cl ty ∧ cl.slots = vs.toArray ∧ vs.length < 2 ^ 31
theorem AV.lt {a : Addr} {ty : FieldType} {vs : List Value} (F : AV Z h a ty vs) : a < h.size := by obtain ⟨cl, A, -⟩ := F; exact A.lt
theorem AV.keep {a : Addr} {ty : FieldType} {vs : List Value} {ws : List Addr} (F : AV Z h a ty vs) (K : Keep h h' ws) (q : a ∉ ws) : AV Z h' a ty vs := by
  obtain ⟨cl, A, r⟩ := F; exact ⟨cl, ⟨K.2.1 _ _ A.1 q, A.2⟩, r⟩
theorem AV.ext {a : Addr} {ty : FieldType} {vs : List Value} (F : AV Z h a ty vs) (E : Ext h h') : AV Z h' a ty vs := by
  obtain ⟨cl, A, r⟩ := F; exact ⟨cl, A.ext E, r⟩
theorem AV.len {a : Addr} {ty : FieldType} {vs : List Value} (F : AV Z h a ty vs) : vs.length < 2 ^ 31 := by obtain ⟨cl, -, -, r⟩ := F; exact r
theorem idx_nat {j : Int32} {i : Nat} (hj : j.toInt = (i : Int)) : j.toNatClampNeg = i ∧ ¬ j < 0 := by
  have h1 : j.toNatClampNeg = j.toInt.toNat := rfl
  have h2 : ¬ j < 0 := by rw [XT.negI32]; omega
  exact ⟨by rw [h1, hj]; rfl, h2⟩
theorem AV.in {a : Addr} {ty : FieldType} {vs : List Value} {cl : Cell} {j : Int32} {i : Nat} (hs : cl.slots = vs.toArray) (hj : j.toInt = (i : Int)) (hi : i < vs.length) : ¬ (j < 0 ∨ cl.slots.size ≤ j.toNatClampNeg) := by
  obtain ⟨h1, h2⟩ := idx_nat hj
  rintro (q | q)
  · exact h2 q
  · rw [h1, hs] at q
    simp at q
    omega
theorem AV.get {vs : List Value} {cl : Cell} {j : Int32} {i : Nat} {v : Value} (hs : cl.slots = vs.toArray) (hj : j.toInt = (i : Int)) (hv : vs[i]? = some v) : cl.slots[j.toNatClampNeg]? = some v := by
  rw [(idx_nat hj).1, hs]; simpa using hv
theorem AV.set {a : Addr} {ty : FieldType} {vs : List Value} {cl : Cell} {i : Nat} {v : Value} (A : Arr Z h a cl ty) (hs : cl.slots = vs.toArray) (hl : vs.length < 2 ^ 31) (W : Wr h h' a i v) : AV Z h' a ty (vs.set i v) := by
  refine ⟨_, A.same W, ?_, by simpa using hl⟩
  show cl.slots.setIfInBounds i v = _
  rw [hs]; simp
theorem lt_of_get {vs : List Value} {i : Nat} {v : Value} (hv : vs[i]? = some v) : i < vs.length := (List.getElem?_eq_some_iff.mp hv).1

theorem go_iaload (K : Ctx p s m meth c Z own nm bytes maxL ret) (X : St p l e R s m args below meth c n0 T cells slots) (eT : T.heap = h) {a : Addr} {vs : List Value} {j : Int32} {i : Nat} {v : Value} (F : AV Z h a .int vs) (hj : j.toInt = (i : Int)) (hv : vs[i]? = some v) (hd : decode bytes pc = .ok (.iaload, 1)) (hp : pc + 1 = pc')
    (k : Go p e below s R n0 Q (T.setTop (mkF m pc' Ls (v :: stk)))) : Go p e below s R n0 Q (T.setTop (mkF m pc Ls (.int j :: .ref a :: stk))) := by
  subst hp; obtain ⟨locs, X, N⟩ := X; obtain ⟨cl, A, hs, hl⟩ := F
  exact go_by (fun t k => X.iaload K.hx (by rw [eT]; exact A.1) (State.isArrayOf_alike K.hZ.alike A.2.1) A.2.2 (AV.in (a := a) (ty := .int) hs hj (lt_of_get hv)) (AV.get hs hj hv) (g := mkF m pc Ls (.int j :: .ref a :: stk)) rfl rfl (hb K.by' hd) t k) k

theorem go_laload (K : Ctx p s m meth c Z own nm bytes maxL ret) (X : St p l e R s m args below meth c n0 T cells slots) (eT : T.heap = h) {a : Addr} {vs : List Value} {j : Int32} {i : Nat} {v : Value} (F : AV Z h a .long vs) (hj : j.toInt = (i : Int)) (hv : vs[i]? = some v) (hd : decode bytes pc = .ok (.laload, 1)) (hp : pc + 1 = pc')
    (k : Go p e below s R n0 Q (T.setTop (mkF m pc' Ls (v :: stk)))) : Go p e below s R n0 Q (T.setTop (mkF m pc Ls (.int j :: .ref a :: stk))) := by
  subst hp; obtain ⟨locs, X, N⟩ := X; obtain ⟨cl, A, hs, hl⟩ := F
  exact go_by (fun t k => X.laload K.hx (by rw [eT]; exact A.1) (State.isArrayOf_alike K.hZ.alike A.2.1) A.2.2 (AV.in (a := a) (ty := .long) hs hj (lt_of_get hv)) (AV.get hs hj hv) (g := mkF m pc Ls (.int j :: .ref a :: stk)) rfl rfl (hb K.by' hd) t k) k

theorem go_caload (K : Ctx p s m meth c Z own nm bytes maxL ret) (X : St p l e R s m args below meth c n0 T cells slots) (eT : T.heap = h) {a : Addr} {vs : List Value} {j : Int32} {i : Nat} {v : Value} (F : AV Z h a .char vs) (hj : j.toInt = (i : Int)) (hv : vs[i]? = some v) (hd : decode bytes pc = .ok (.caload, 1)) (hp : pc + 1 = pc')
    (k : Go p e below s R n0 Q (T.setTop (mkF m pc' Ls (v :: stk)))) : Go p e below s R n0 Q (T.setTop (mkF m pc Ls (.int j :: .ref a :: stk))) := by
  subst hp; obtain ⟨locs, X, N⟩ := X; obtain ⟨cl, A, hs, hl⟩ := F
  exact go_by (fun t k => X.caload K.hx (by rw [eT]; exact A.1) (State.isArrayOf_alike K.hZ.alike A.2.1) A.2.2 (AV.in (a := a) (ty := .char) hs hj (lt_of_get hv)) (AV.get hs hj hv) (g := mkF m pc Ls (.int j :: .ref a :: stk)) rfl rfl (hb K.by' hd) t k) k

theorem go_baloadB (K : Ctx p s m meth c Z own nm bytes maxL ret) (X : St p l e R s m args below meth c n0 T cells slots) (eT : T.heap = h) {a : Addr} {vs : List Value} {j : Int32} {i : Nat} {v : Value} (F : AV Z h a .byte vs) (hj : j.toInt = (i : Int)) (hv : vs[i]? = some v) (hd : decode bytes pc = .ok (.baload, 1)) (hp : pc + 1 = pc')
    (k : Go p e below s R n0 Q (T.setTop (mkF m pc' Ls (v :: stk)))) : Go p e below s R n0 Q (T.setTop (mkF m pc Ls (.int j :: .ref a :: stk))) := by
  subst hp; obtain ⟨locs, X, N⟩ := X; obtain ⟨cl, A, hs, hl⟩ := F
  exact go_by (fun t k => X.baloadBytes K.hx (by rw [eT]; exact A.1) (State.isArrayOf_alike K.hZ.alike A.2.1) A.2.2 (AV.in (a := a) (ty := .byte) hs hj (lt_of_get hv)) (AV.get hs hj hv) (g := mkF m pc Ls (.int j :: .ref a :: stk)) rfl rfl (hb K.by' hd) t k) k

theorem go_baloadZ (K : Ctx p s m meth c Z own nm bytes maxL ret) (X : St p l e R s m args below meth c n0 T cells slots) (eT : T.heap = h) {a : Addr} {vs : List Value} {j : Int32} {i : Nat} {v : Value} (F : AV Z h a .boolean vs) (hj : j.toInt = (i : Int)) (hv : vs[i]? = some v) (hd : decode bytes pc = .ok (.baload, 1)) (hp : pc + 1 = pc')
    (k : Go p e below s R n0 Q (T.setTop (mkF m pc' Ls (v :: stk)))) : Go p e below s R n0 Q (T.setTop (mkF m pc Ls (.int j :: .ref a :: stk))) := by
  subst hp; obtain ⟨locs, X, N⟩ := X; obtain ⟨cl, A, hs, hl⟩ := F
  exact go_by (fun t k => X.baloadBooleans K.hx (by rw [eT]; exact A.1) (State.isArrayOf_alike K.hZ.alike A.2.1) A.2.2 (AV.in (a := a) (ty := .boolean) hs hj (lt_of_get hv)) (AV.get hs hj hv) (g := mkF m pc Ls (.int j :: .ref a :: stk)) rfl rfl (hb K.by' hd) t k) k

theorem go_aaload (K : Ctx p s m meth c Z own nm bytes maxL ret) (X : St p l e R s m args below meth c n0 T cells slots) (eT : T.heap = h) {a : Addr} {ty : FieldType} {vs : List Value} {j : Int32} {i : Nat} {v : Value} (F : AV Z h a ty vs) (hj : j.toInt = (i : Int)) (hv : vs[i]? = some v) (hty : ty.isReference = true) (hd : decode bytes pc = .ok (.aaload, 1)) (hp : pc + 1 = pc')
    (k : Go p e below s R n0 Q (T.setTop (mkF m pc' Ls (v :: stk)))) : Go p e below s R n0 Q (T.setTop (mkF m pc Ls (.int j :: .ref a :: stk))) := by
  subst hp; obtain ⟨locs, X, N⟩ := X; obtain ⟨cl, A, hs, hl⟩ := F
  exact go_by (fun t k => X.aaload K.hx (by rw [eT]; exact A.1) (State.isArrayOf_alike K.hZ.alike A.2.1) hty A.2.2 (AV.in (a := a) (ty := ty) hs hj (lt_of_get hv)) (AV.get hs hj hv) (g := mkF m pc Ls (.int j :: .ref a :: stk)) rfl rfl (hb K.by' hd) t k) k
theorem go_arraylength (K : Ctx p s m meth c Z own nm bytes maxL ret) (X : St p l e R s m args below meth c n0 T cells slots) (eT : T.heap = h) {a : Addr} {ty : FieldType} {vs : List Value} {z : Int32} (F : AV Z h a ty vs) (hz : vs.length.toInt32 = z) (hd : decode bytes pc = .ok (.arraylength, 1)) (hp : pc + 1 = pc')
    (k : Go p e below s R n0 Q (T.setTop (mkF m pc' Ls (.int z :: stk)))) : Go p e below s R n0 Q (T.setTop (mkF m pc Ls (.ref a :: stk))) := by
  subst hp hz; obtain ⟨locs, X, N⟩ := X; obtain ⟨cl, A, hs, hl⟩ := F
  refine go_by (fun t k => X.arraylength K.hx (by rw [eT]; exact A.1) (State.isArrayOf_alike K.hZ.alike A.2.1) (g := mkF m pc Ls (.ref a :: stk)) rfl rfl (hb K.by' hd) t ?_) k
  rw [show cl.slots.size = vs.length by rw [hs]; simp]; exact k

theorem go_iastore (K : Ctx p s m meth c Z own nm bytes maxL ret) (X : St p l e R s m args below meth c n0 T cells slots) (eT : T.heap = h) {a : Addr} {vs : List Value} {j : Int32} {x : Int32} {i : Nat} (F : AV Z h a .int vs) (hj : j.toInt = (i : Int)) (hi : i < vs.length) (ge : n0 ≤ a) (hd : decode bytes pc = .ok (.iastore, 1)) (hp : pc + 1 = pc')
    (k : ∀ T' h', St p l e R s m args below meth c n0 T' cells slots → T'.heap = h' → Wr h h' a i (.int x) → AV Z h' a .int (vs.set i (.int x)) → Go p e below s R n0 Q (T'.setTop (mkF m pc' Ls stk))) : Go p e below s R n0 Q (T.setTop (mkF m pc Ls (.int x :: .int j :: .ref a :: stk))) := by
  subst hp; obtain ⟨locs, X, N⟩ := X; obtain ⟨cl, A, hs, hl⟩ := F
  obtain ⟨T', h', X', e', W', st⟩ := stI X K.hx K.hZ eT A (AV.in (a := a) (ty := .int) hs hj hi) (g := mkF m pc Ls (.int x :: .int j :: .ref a :: stk)) rfl rfl (hb K.by' hd)
  have W2 := W'; rw [(idx_nat hj).1] at W2
  exact go_by st (k T' h' ⟨_, X', Fr.snoc X' N ge⟩ e' W2 (AV.set A hs hl W2))

theorem go_lastore (K : Ctx p s m meth c Z own nm bytes maxL ret) (X : St p l e R s m args below meth c n0 T cells slots) (eT : T.heap = h) {a : Addr} {vs : List Value} {j : Int32} {x : Int64} {i : Nat} (F : AV Z h a .long vs) (hj : j.toInt = (i : Int)) (hi : i < vs.length) (ge : n0 ≤ a) (hd : decode bytes pc = .ok (.lastore, 1)) (hp : pc + 1 = pc')
    (k : ∀ T' h', St p l e R s m args below meth c n0 T' cells slots → T'.heap = h' → Wr h h' a i (.long x) → AV Z h' a .long (vs.set i (.long x)) → Go p e below s R n0 Q (T'.setTop (mkF m pc' Ls stk))) : Go p e below s R n0 Q (T.setTop (mkF m pc Ls (.long x :: .int j :: .ref a :: stk))) := by
  subst hp; obtain ⟨locs, X, N⟩ := X; obtain ⟨cl, A, hs, hl⟩ := F
  obtain ⟨T', h', X', e', W', st⟩ := stJ X K.hx K.hZ eT A (AV.in (a := a) (ty := .long) hs hj hi) (g := mkF m pc Ls (.long x :: .int j :: .ref a :: stk)) rfl rfl (hb K.by' hd)
  have W2 := W'; rw [(idx_nat hj).1] at W2
  exact go_by st (k T' h' ⟨_, X', Fr.snoc X' N ge⟩ e' W2 (AV.set A hs hl W2))

theorem go_bastoreB (K : Ctx p s m meth c Z own nm bytes maxL ret) (X : St p l e R s m args below meth c n0 T cells slots) (eT : T.heap = h) {a : Addr} {vs : List Value} {j x : Int32} {i : Nat} (F : AV Z h a .byte vs) (hj : j.toInt = (i : Int)) (hi : i < vs.length) (hx' : nar .byte x = x) (ge : n0 ≤ a) (hd : decode bytes pc = .ok (.bastore, 1)) (hp : pc + 1 = pc')
    (k : ∀ T' h', St p l e R s m args below meth c n0 T' cells slots → T'.heap = h' → Wr h h' a i (.int x) → AV Z h' a .byte (vs.set i (.int x)) → Go p e below s R n0 Q (T'.setTop (mkF m pc' Ls stk))) : Go p e below s R n0 Q (T.setTop (mkF m pc Ls (.int x :: .int j :: .ref a :: stk))) := by
  subst hp; obtain ⟨locs, X, N⟩ := X; obtain ⟨cl, A, hs, hl⟩ := F
  obtain ⟨T', h', X', e', W', st⟩ := stB X K.hx K.hZ eT A (AV.in (a := a) (ty := .byte) hs hj hi) (g := mkF m pc Ls (.int x :: .int j :: .ref a :: stk)) rfl rfl (hb K.by' hd)
  have W2 := W'; rw [(idx_nat hj).1, hx'] at W2
  exact go_by st (k T' h' ⟨_, X', Fr.snoc X' N ge⟩ e' W2 (AV.set A hs hl W2))

theorem go_bastoreZ (K : Ctx p s m meth c Z own nm bytes maxL ret) (X : St p l e R s m args below meth c n0 T cells slots) (eT : T.heap = h) {a : Addr} {vs : List Value} {j x : Int32} {i : Nat} (F : AV Z h a .boolean vs) (hj : j.toInt = (i : Int)) (hi : i < vs.length) (hx' : nar .boolean x = x) (ge : n0 ≤ a) (hd : decode bytes pc = .ok (.bastore, 1)) (hp : pc + 1 = pc')
    (k : ∀ T' h', St p l e R s m args below meth c n0 T' cells slots → T'.heap = h' → Wr h h' a i (.int x) → AV Z h' a .boolean (vs.set i (.int x)) → Go p e below s R n0 Q (T'.setTop (mkF m pc' Ls stk))) : Go p e below s R n0 Q (T.setTop (mkF m pc Ls (.int x :: .int j :: .ref a :: stk))) := by
  subst hp; obtain ⟨locs, X, N⟩ := X; obtain ⟨cl, A, hs, hl⟩ := F
  obtain ⟨T', h', X', e', W', st⟩ := stZ X K.hx K.hZ eT A (AV.in (a := a) (ty := .boolean) hs hj hi) (g := mkF m pc Ls (.int x :: .int j :: .ref a :: stk)) rfl rfl (hb K.by' hd)
  have W2 := W'; rw [(idx_nat hj).1, hx'] at W2
  exact go_by st (k T' h' ⟨_, X', Fr.snoc X' N ge⟩ e' W2 (AV.set A hs hl W2))

theorem go_castore (K : Ctx p s m meth c Z own nm bytes maxL ret) (X : St p l e R s m args below meth c n0 T cells slots) (eT : T.heap = h) {a : Addr} {vs : List Value} {j x : Int32} {i : Nat} (F : AV Z h a .char vs) (hj : j.toInt = (i : Int)) (hi : i < vs.length) (hx' : nar .char x = x) (ge : n0 ≤ a) (hd : decode bytes pc = .ok (.castore, 1)) (hp : pc + 1 = pc')
    (k : ∀ T' h', St p l e R s m args below meth c n0 T' cells slots → T'.heap = h' → Wr h h' a i (.int x) → AV Z h' a .char (vs.set i (.int x)) → Go p e below s R n0 Q (T'.setTop (mkF m pc' Ls stk))) : Go p e below s R n0 Q (T.setTop (mkF m pc Ls (.int x :: .int j :: .ref a :: stk))) := by
  subst hp; obtain ⟨locs, X, N⟩ := X; obtain ⟨cl, A, hs, hl⟩ := F
  obtain ⟨T', h', X', e', W', st⟩ := stC X K.hx K.hZ eT A (AV.in (a := a) (ty := .char) hs hj hi) (g := mkF m pc Ls (.int x :: .int j :: .ref a :: stk)) rfl rfl (hb K.by' hd)
  have W2 := W'; rw [(idx_nat hj).1, hx'] at W2
  exact go_by st (k T' h' ⟨_, X', Fr.snoc X' N ge⟩ e' W2 (AV.set A hs hl W2))

theorem go_aastore (K : Ctx p s m meth c Z own nm bytes maxL ret) (X : St p l e R s m args below meth c n0 T cells slots) (eT : T.heap = h) {a : Addr} {ty : FieldType} {vs : List Value} {j : Int32} {v : Value} {i : Nat} (F : AV Z h a ty vs) (hj : j.toInt = (i : Int)) (hi : i < vs.length) (hty : ty.isReference = true) (S : Sto Z h a v) (ge : n0 ≤ a) (hd : decode bytes pc = .ok (.aastore, 1)) (hp : pc + 1 = pc')
    (k : ∀ T' h', St p l e R s m args below meth c n0 T' cells slots → T'.heap = h' → Wr h h' a i v → AV Z h' a ty (vs.set i v) → Go p e below s R n0 Q (T'.setTop (mkF m pc' Ls stk))) : Go p e below s R n0 Q (T.setTop (mkF m pc Ls (v :: .int j :: .ref a :: stk))) := by
  subst hp; obtain ⟨locs, X, N⟩ := X; obtain ⟨cl, A, hs, hl⟩ := F
  obtain ⟨T', h', X', e', W', st⟩ := stR X K.hx K.hZ eT A (AV.in (a := a) (ty := ty) hs hj hi) hty S (g := mkF m pc Ls (v :: .int j :: .ref a :: stk)) rfl rfl (hb K.by' hd)
  have W2 := W'; rw [(idx_nat hj).1] at W2
  exact go_by st (k T' h' ⟨_, X', Fr.snoc X' N ge⟩ e' W2 (AV.set A hs hl W2))
theorem go_newarray (K : Ctx p s m meth c Z own nm bytes maxL ret) (X : St p l e R s m args below meth c n0 T cells slots) {aty : ArrayType} (w : (Cond.arrayClass (newarray.typeOf aty)).before a0 Z = true) (eT : T.heap = h) {j : Int32} {i cap : Nat} (hd : decode bytes pc = .ok (.newarray aty, 2)) (hj : j.toInt = (i : Int)) (hcap : i ≤ cap) (hb' : cap * 8 ≤ 536870912) (hp : pc + 2 = pc') (hc' : cells + 1 = cells') (hs' : slots + cap = slots') (hc : cells' ≤ R.cells) (hs : slots' ≤ R.slots)
    (k : ∀ T' h' a, a = h.size → St p l e R s m args below meth c n0 T' cells' slots' → T'.heap = h' → Ext h h' → AV Z h' a (newarray.typeOf aty) (List.replicate i (defaultValue (newarray.typeOf aty))) → Go p e below s R n0 Q (T'.setTop (mkF m pc' Ls (.ref a :: stk)))) : Go p e below s R n0 Q (T.setTop (mkF m pc Ls (.int j :: stk))) := by
  subst hp hc' hs'; obtain ⟨locs, X, N⟩ := X
  obtain ⟨h1, h2⟩ := idx_nat hj
  obtain ⟨T', h', cA, X', e', E', A', st⟩ := newP X K.hx K.hZ w eT (g := mkF m pc Ls (.int j :: stk)) rfl (hb K.by' hd) rfl h2 (cap := cap) (by rw [h1]; exact hcap) hb' hc hs
  refine go_by st (k T' h' _ rfl ⟨_, X', N⟩ e' E' ⟨_, A', ?_, ?_⟩)
  · show Array.replicate _ _ = _
    rw [h1]; simp
  · have := j.toInt_lt; rw [hj] at this; simp; omega

theorem nat32 {n : Nat} (h : n < 2 ^ 31) : n.toInt32.toNatClampNeg = n ∧ ¬ n.toInt32 < 0 := idx_nat (len_toInt h)
theorem AV.toArv {a : Addr} {ty : FieldType} {vs : List Value} (F : AV Z h a ty vs) (hf : ∀ v ∈ vs, fits ty v = true) (dv : Value) : ∃ k, Arv Z h a k ty vs.length.toInt32 vs dv := by
  obtain ⟨cl, A, hs, hl⟩ := F
  have hz : cl.slots.size = vs.length := by rw [hs]; simp
  refine ⟨cl.cls, cl, A, rfl, by rw [hz, (nat32 hl).1], (nat32 hl).2, fun i hi => ?_, fun i hi => ?_⟩
  · rw [hz] at hi
    rw [hs]; simp [List.getD, hi]
  · rw [hz] at hi
    have : vs.getD i dv = vs[i] := by simp [List.getD, hi]
    rw [this]; exact hf _ (List.getElem_mem hi)
theorem Arv.toAV {a : Addr} {k : ClassId} {ty : FieldType} {z : Int32} {vs : List Value} {dv : Value} (F : Arv Z h a k ty z vs dv) (hl : z.toNatClampNeg = vs.length) : AV Z h a ty vs := by
  obtain ⟨cl, A, -, hs, hn, H, -⟩ := F
  refine ⟨cl, A, ?_, ?_⟩
  · apply Array.ext
    · rw [hs, hl]; simp
    · intro i h1 h2
      have := H i h1
      have h3 : i < vs.length := by rw [hs, hl] at h1; exact h1
      rw [Array.getElem?_eq_getElem h1] at this
      have e := Option.some.inj this
      rw [e]; simp [List.getD, h3]
  · rw [← hl]; exact (back32 hn).2
theorem go_newarrayE (K : Ctx p s m meth c Z own nm bytes maxL ret) (X : St p l e R s m args below meth c n0 T cells slots) {aty : ArrayType} {ad : String} (had : "[" ++ (newarray.typeOf aty).toString = ad) (w : (Cond.arrayClass (newarray.typeOf aty)).before a0 Z = true) (eT : T.heap = h) {j : Int32} {i cap : Nat} (hd : decode bytes pc = .ok (.newarray aty, 2)) (hj : j.toInt = (i : Int)) (hcap : i ≤ cap) (hb' : cap * 8 ≤ 536870912) (hp : pc + 2 = pc') (hc' : cells + 1 = cells') (hs' : slots + cap = slots') (hc : cells' ≤ R.cells) (hs : slots' ≤ R.slots)
    (k : ∀ T' h' a, a = h.size → St p l e R s m args below meth c n0 T' cells' slots' → T'.heap = h' → Ext h h' → AV Z h' a (newarray.typeOf aty) (List.replicate i (defaultValue (newarray.typeOf aty))) → Exa Z h' a ad → Go p e below s R n0 Q (T'.setTop (mkF m pc' Ls (.ref a :: stk)))) : Go p e below s R n0 Q (T.setTop (mkF m pc Ls (.int j :: stk))) := by
  subst hp hc' hs'; obtain ⟨locs, X, N⟩ := X
  obtain ⟨h1, h2⟩ := idx_nat hj
  obtain ⟨T', h', cA, X', e', E', A', x', st⟩ := newPE X K.hx K.hZ w eT (g := mkF m pc Ls (.int j :: stk)) rfl (hb K.by' hd) rfl h2 (cap := cap) (by rw [h1]; exact hcap) hb' hc hs had
  refine go_by st (k T' h' _ rfl ⟨_, X', N⟩ e' E' ⟨_, A', ?_, ?_⟩ x')
  · show Array.replicate _ _ = _
    rw [h1]; simp
  · have := j.toInt_lt; rw [hj] at this; simp; omega
theorem go_clone (K : Ctx p s m meth c Z own nm bytes maxL ret) (X : St p l e R s m args below meth c n0 T cells slots) {ad : String} {index : Nat} (w1 : (Cond.methodLink own index ⟨ad, "clone", "()Ljava/lang/Object;"⟩).before a0 Z = true) (w2 : (Cond.sameMethod ad "java/lang/Object" "clone" "()Ljava/lang/Object;").before a0 Z = true) (w3 : (Cond.native ⟨"java/lang/Object", "clone", "()Ljava/lang/Object;"⟩).before a0 Z = true)
    (w4 : (Cond.instanceMethod ⟨"java/lang/Object", "clone", "()Ljava/lang/Object;"⟩).before a0 Z = true) (w5 : (Cond.selects ad ⟨ad, "clone", "()Ljava/lang/Object;"⟩ ⟨"java/lang/Object", "clone", "()Ljava/lang/Object;"⟩).before a0 Z = true) (w6 : (Cond.castable ad "java/lang/Cloneable").before a0 Z = true)
    (eT : T.heap = h) {a : Addr} {ty : FieldType} {vs : List Value} (F : AV Z h a ty vs) (E : Exa Z h a ad) (hfit : ∀ v ∈ vs, fits ty v = true) (hsize : Ls.size = maxL) (hd : decode bytes pc = .ok (.invokevirtual index, 3)) (hp : pc + 3 = pc')
    (hf : 1 ≤ R.frames) {W cap : Nat} (hW : (stk.map fun v => v.category).sum ≤ W) (hl : W + 14 ≤ R.locals) (hcap : vs.length ≤ cap) (hc' : cells + 1 = cells') (hs' : slots + cap = slots') (hc : cells' ≤ R.cells) (hs : slots' ≤ R.slots)
    (k : ∀ T' h' b, b = h.size → St p l e R s m args below meth c n0 T' cells' slots' → T'.heap = h' → Ext h h' → AV Z h' b ty vs → Exa Z h' b ad → Go p e below s R n0 Q (T'.setTop (mkF m pc' Ls (.ref b :: stk)))) : Go p e below s R n0 Q (T.setTop (mkF m pc Ls (.ref a :: stk))) := by
  subst hp hc' hs'; obtain ⟨locs, X, N⟩ := X
  obtain ⟨kk, V⟩ := F.toArv hfit .null
  have hlen := F.len
  obtain ⟨T', h', X', e', E', V', x', st⟩ := cloneH X K.hx K.hZ K.own' w1 w2 w3 w4 w5 w6 eT (Arv.arh V) E (g := mkF m pc Ls (.ref a :: stk)) rfl (by rw [K.ml]; exact hsize) rfl (hb K.by' hd) hf (W := W) (by show 2 * 0 + _ ≤ _; omega) hl (cap := cap) (by rw [(nat32 hlen).1]; exact hcap) hc hs
  exact go_by st (k T' h' _ rfl ⟨_, X', N⟩ e' E' (Arv.toAV V' (nat32 hlen).1) x')
theorem go_arraycopy (K : Ctx p s m meth c Z own nm bytes maxL ret) (X : St p l e R s m args below meth c n0 T cells slots) {index : Nat} (w1 : (Cond.methodLink own index Jvm.Stand.acN).before a0 Z = true) (w2 : (Cond.native Jvm.Stand.acN).before a0 Z = true) (w3 : (Cond.static Jvm.Stand.acN).before a0 Z = true) (w4 : (Cond.initialized "java/lang/System").before a0 Z = true)
    (eT : T.heap = h) {a b : Addr} {ty : FieldType} {vs vd us : List Value} {sp dp nn : Int32} {i j n : Nat} (F : AV Z h a ty vs) (G : AV Z h b ty vd) (hty : refKind ty = false) (hf1 : ∀ v ∈ vs, fits ty v = true) (hf2 : ∀ v ∈ vd, fits ty v = true) (hi : sp.toInt = (i : Int)) (hj : dp.toInt = (j : Int)) (hn : nn.toInt = (n : Int)) (h4 : i + n ≤ vs.length) (h5 : j + n ≤ vd.length) (hus : us = vd.take j ++ (vs.drop i).take n ++ vd.drop (j + n)) (ge : n0 ≤ b) (hsize : Ls.size = maxL) (hd : decode bytes pc = .ok (.invokestatic index, 3)) (hp : pc + 3 = pc')
    (hf : 1 ≤ R.frames) {W : Nat} (hW : (stk.map fun v => v.category).sum ≤ W) (hlo : W + (nativeFrameWords "java/lang/System" "arraycopy" 5 + 11) ≤ R.locals)
    (k : ∀ T' h', St p l e R s m args below meth c n0 T' cells slots → T'.heap = h' → Keep h h' [b] → AV Z h' b ty us → Go p e below s R n0 Q (T'.setTop (mkF m pc' Ls stk))) : Go p e below s R n0 Q (T.setTop (mkF m pc Ls (.int nn :: .int dp :: .ref b :: .int sp :: .ref a :: stk))) := by
  subst hp; obtain ⟨locs, X, N⟩ := X
  obtain ⟨k1, V1⟩ := F.toArv hf1 .null
  obtain ⟨k2, V2⟩ := G.toArv hf2 .null
  obtain ⟨i1, i2⟩ := idx_nat hi
  obtain ⟨j1, j2⟩ := idx_nat hj
  obtain ⟨n1, n2⟩ := idx_nat hn
  have l1 := (nat32 F.len).1
  have l2 := (nat32 G.len).1
  have e3 : (List.range n).map (fun q => vs.getD (i + q) .null) = (vs.drop i).take n := by
    apply List.ext_getElem
    · simp; omega
    · intro q h6 h7
      have : q < n := by simpa using h6
      have h8 : i + q < vs.length := by omega
      simp [List.getD, h8]
  obtain ⟨T', h', L', X', e', N', KK, V', st⟩ := cpA X K.hx K.hZ K.own' w1 w2 w3 w4 eT V1 V2 (Or.inl ⟨rfl, hty⟩) i2 j2 n2 (by rw [i1, n1, l1]; exact h4) (by rw [j1, n1, l2]; exact h5) rfl (by rw [j1, n1]; exact h5) N ge (g := mkF m pc Ls (.int nn :: .int dp :: .ref b :: .int sp :: .ref a :: stk)) rfl (by rw [K.ml]; exact hsize) rfl (hb K.by' hd) hf (W := W) (by show 2 * 0 + _ ≤ _; omega) hlo
  rw [i1, j1, n1, e3, ← hus] at V'
  have hl : us.length = vd.length := by rw [hus]; simp; omega
  exact go_by st (k T' h' ⟨_, X', N'⟩ e' KK (Arv.toAV V' (by rw [l2, hl])))

/-! ## calls: the callee's contract pays -/
theorem go_static (K : Ctx p s m meth c Z own nm bytes maxL ret) (X : St p l e R s m args below meth c n0 T cells slots) {index : Nat} {y : MethodName} {bytes' : ByteArray} {maxL' : Nat} {ret' : Option FieldType} {rm : Room} {Q' : Option Value → Heap → Prop} {argsL st0 : List Value}
    (w1 : (Cond.methodLink own index y).before a0 Z = true) (w2 : (Cond.static y).before a0 Z = true) (w3 : (Cond.initialized y.cls).before a0 Z = true) (w4 : (Cond.code y bytes' maxL' ret').before a0 Z = true) (hy : y.cls ≠ "java/lang/invoke/MethodHandle" ∧ y.cls ≠ "java/lang/invoke/VarHandle")
    (hlen : ∀ sig, parseMethodDescriptor y.desc = some sig → argsL.length = sig.parameters.length) (eT : T.heap = h) (C : Con l Z n0 y bytes' maxL' ret' rm argsL.toArray h Q') (hst : st0 = argsL.reverse ++ stk) (hsize : Ls.size = maxL) (hd : decode bytes pc = .ok (.invokestatic index, 3)) (hp : pc + 3 = pc')
    (hf : rm.frames + 1 ≤ R.frames) {W : Nat} (hW : (stk.map fun v => v.category).sum ≤ W) (hl : W + (maxL' + 11) + rm.locals ≤ R.locals) (hc' : cells + rm.cells = cells') (hs' : slots + rm.slots = slots') (hc : cells' ≤ R.cells) (hs : slots' ≤ R.slots)
    (k : ∀ T' h' v, St p l e R s m args below meth c n0 T' cells' slots' → T'.heap = h' → Q' v h' → Go p e below s R n0 Q (T'.setTop (mkF m pc' Ls (v.toList ++ stk)))) : Go p e below s R n0 Q (T.setTop (mkF m pc Ls st0)) := by
  subst hp hc' hs' hst; obtain ⟨locs, X, N⟩ := X
  obtain ⟨_, _, ⟨T1, L1, k1, n1⟩, -, X1, ⟨Lc1, hQ1, l1, y1, z1⟩, st1⟩ := Jvm.LawKit.callS X K.hx K.own' (mvT K.hZ w1) (mvT K.hZ w2) (mvT K.hZ w3) (mvT K.hZ w4) hy (backOf (W := W) (Q := fun v u L => Q' v u ∧ Fr n0 L) (C []) K.hZ w4 w3 hf hl) (g := mkF m pc Ls (argsL.reverse ++ stk)) rfl (by rw [K.ml]; exact hsize) (argsL := argsL) (rest := stk) hlen rfl (by show 2 * 0 + _ ≤ _; omega) (hb K.by' hd) (fun _ _ => ⟨rfl, eT, hc, hs⟩)
  dsimp only [Pt.U, Pt.locs, Pt.cells, Pt.slots] at X1 l1 y1 z1 st1 hQ1
  subst l1 y1 z1
  exact go_by st1 (k T1 _ _ ⟨_, X1, Fr.app N hQ1.2⟩ rfl hQ1.1)

theorem go_init (K : Ctx p s m meth c Z own nm bytes maxL ret) (X : St p l e R s m args below meth c n0 T cells slots) {index : Nat} {y : MethodName} {bytes' : ByteArray} {maxL' : Nat} {rm : Room} {Q' : Option Value → Heap → Prop} {a : Addr} {argsL st0 : List Value}
    (w1 : (Cond.methodLink own index y).before a0 Z = true) (w2 : (Cond.instanceMethod y).before a0 Z = true) (w3 : (Cond.initialized y.cls).before a0 Z = true) (w4 : (Cond.code y bytes' maxL' none).before a0 Z = true) (hy : y.cls ≠ "java/lang/invoke/MethodHandle" ∧ y.cls ≠ "java/lang/invoke/VarHandle") (hi : y.name = "<init>")
    (hlen : ∀ sig, parseMethodDescriptor y.desc = some sig → argsL.length = sig.parameters.length) (eT : T.heap = h) (C : Con l Z n0 y bytes' maxL' none rm (.ref a :: argsL).toArray h Q') (hst : st0 = argsL.reverse ++ .ref a :: stk) (hsize : Ls.size = maxL) (hd : decode bytes pc = .ok (.invokespecial index, 3)) (hp : pc + 3 = pc')
    (hf : rm.frames + 1 ≤ R.frames) {W : Nat} (hW : (stk.map fun v => v.category).sum ≤ W) (hl : W + (maxL' + 11) + rm.locals ≤ R.locals) (hc' : cells + rm.cells = cells') (hs' : slots + rm.slots = slots') (hc : cells' ≤ R.cells) (hs : slots' ≤ R.slots)
    (k : ∀ T' h' v, St p l e R s m args below meth c n0 T' cells' slots' → T'.heap = h' → Q' v h' → Go p e below s R n0 Q (T'.setTop (mkF m pc' Ls (v.toList ++ stk)))) : Go p e below s R n0 Q (T.setTop (mkF m pc Ls st0)) := by
  subst hp hc' hs' hst; obtain ⟨locs, X, N⟩ := X
  obtain ⟨_, _, ⟨T1, L1, k1, n1⟩, -, X1, ⟨Lc1, hQ1, l1, y1, z1⟩, st1⟩ := X.specialBack K.hx hi K.own' (mvT K.hZ w1) (mvT K.hZ w2) (mvT K.hZ w4) hy (backOf (W := W) (Q := fun v u L => Q' v u ∧ Fr n0 L) (C []) K.hZ w4 w3 hf hl) (g := mkF m pc Ls (argsL.reverse ++ .ref a :: stk)) rfl (by rw [K.ml]; exact hsize) (Steps.refl _) (a := a) (argsL := argsL) (rest := stk) hlen rfl (by show 2 * 0 + _ ≤ _; omega) (hb K.by' hd) (fun _ _ => ⟨rfl, eT, hc, hs⟩)
  dsimp only [Pt.U, Pt.locs, Pt.cells, Pt.slots] at X1 l1 y1 z1 st1 hQ1
  subst l1 y1 z1
  exact go_by (fun t k => st1.trans k) (k T1 _ _ ⟨_, X1, Fr.app N hQ1.2⟩ rfl hQ1.1)

theorem go_virt (K : Ctx p s m meth c Z own nm bytes maxL ret) (X : St p l e R s m args below meth c n0 T cells slots) {C : String} {index : Nat} {y z : MethodName} {bytes' : ByteArray} {maxL' : Nat} {ret' : Option FieldType} {rm : Room} {Q' : Option Value → Heap → Prop} {a : Addr} {argsL st0 : List Value}
    (w1 : (Cond.methodLink own index y).before a0 Z = true) (w2 : (Cond.declares y).before a0 Z = true) (wn : (Cond.selects y.cls y y).before a0 Z = true) (w3 : (Cond.selects C y z).before a0 Z = true) (w4 : (Cond.instanceMethod z).before a0 Z = true) (w5 : (Cond.code z bytes' maxL' ret').before a0 Z = true) (w6 : (Cond.initialized z.cls).before a0 Z = true) (hy : y.cls ≠ "java/lang/invoke/MethodHandle" ∧ y.cls ≠ "java/lang/invoke/VarHandle")
    (hlen : ∀ sig, parseMethodDescriptor y.desc = some sig → argsL.length = sig.parameters.length) (eT : T.heap = h) (E : Exa Z h a C) (C0 : Con l Z n0 z bytes' maxL' ret' rm (.ref a :: argsL).toArray h Q') (hst : st0 = argsL.reverse ++ .ref a :: stk) (hsize : Ls.size = maxL) (hd : decode bytes pc = .ok (.invokevirtual index, 3)) (hp : pc + 3 = pc')
    (hf : rm.frames + 1 ≤ R.frames) {W : Nat} (hW : (stk.map fun v => v.category).sum ≤ W) (hl : W + (maxL' + 11) + rm.locals ≤ R.locals) (hc' : cells + rm.cells = cells') (hs' : slots + rm.slots = slots') (hc : cells' ≤ R.cells) (hs : slots' ≤ R.slots)
    (k : ∀ T' h' v, St p l e R s m args below meth c n0 T' cells' slots' → T'.heap = h' → Q' v h' → Go p e below s R n0 Q (T'.setTop (mkF m pc' Ls (v.toList ++ stk)))) : Go p e below s R n0 Q (T.setTop (mkF m pc Ls st0)) := by
  subst hp hc' hs' hst; obtain ⟨locs, X, N⟩ := X
  obtain ⟨cq, kq, qa, qb, qc⟩ := isOf K.hZ eT E
  obtain ⟨_, _, ⟨T1, L1, k1, n1⟩, -, X1, ⟨Lc1, hQ1, l1, y1, z1⟩, st1⟩ := X.virtualBack K.hx K.own' (mvT K.hZ w1) (mvT K.hZ w2) (notFace_of_selects (args := #[]) (mvT K.hZ wn)) (mvT K.hZ w3) (mvT K.hZ w4) hy (backOf (W := W) (Q := fun v u L => Q' v u ∧ Fr n0 L) (C0 []) K.hZ w5 w6 hf hl) qa qc (g := mkF m pc Ls (argsL.reverse ++ .ref a :: stk)) rfl (by rw [K.ml]; exact hsize) (Steps.refl _) (argsL := argsL) (rest := stk) hlen rfl (by show 2 * 0 + _ ≤ _; omega) (hb K.by' hd) (fun _ _ => ⟨rfl, eT, hc, hs⟩)
  dsimp only [Pt.U, Pt.locs, Pt.cells, Pt.slots] at X1 l1 y1 z1 st1 hQ1
  subst l1 y1 z1
  exact go_by (fun t k => st1.trans k) (k T1 _ _ ⟨_, X1, Fr.app N hQ1.2⟩ rfl hQ1.1)

theorem go_face (K : Ctx p s m meth c Z own nm bytes maxL ret) (X : St p l e R s m args below meth c n0 T cells slots) {C : String} {index count : Nat} {y z : MethodName} {bytes' : ByteArray} {maxL' : Nat} {ret' : Option FieldType} {rm : Room} {Q' : Option Value → Heap → Prop} {a : Addr} {argsL st0 : List Value}
    (w1 : (Cond.methodLink own index y).before a0 Z = true) (w2 : (Cond.declares y).before a0 Z = true) (w7 : (Cond.interfaceMethod y.cls y.cls y.name y.desc).before a0 Z = true) (w3 : (Cond.selects C y z).before a0 Z = true) (w4 : (Cond.instanceMethod z).before a0 Z = true) (w8 : (Cond.publicMethod z).before a0 Z = true) (w9 : (Cond.unhidden C y.name y.desc).before a0 Z = true) (w10 : (Cond.castable C y.cls).before a0 Z = true) (w5 : (Cond.code z bytes' maxL' ret').before a0 Z = true) (w6 : (Cond.initialized z.cls).before a0 Z = true) (hy : y.cls ≠ "java/lang/invoke/MethodHandle" ∧ y.cls ≠ "java/lang/invoke/VarHandle")
    (hlen : ∀ sig, parseMethodDescriptor y.desc = some sig → argsL.length = sig.parameters.length) (eT : T.heap = h) (E : Exa Z h a C) (C0 : Con l Z n0 z bytes' maxL' ret' rm (.ref a :: argsL).toArray h Q') (hst : st0 = argsL.reverse ++ .ref a :: stk) (hsize : Ls.size = maxL) (hd : decode bytes pc = .ok (.invokeinterface index count, 5)) (hp : pc + 5 = pc')
    (hf : rm.frames + 1 ≤ R.frames) {W : Nat} (hW : (stk.map fun v => v.category).sum ≤ W) (hl : W + (maxL' + 11) + rm.locals ≤ R.locals) (hc' : cells + rm.cells = cells') (hs' : slots + rm.slots = slots') (hc : cells' ≤ R.cells) (hs : slots' ≤ R.slots)
    (k : ∀ T' h' v, St p l e R s m args below meth c n0 T' cells' slots' → T'.heap = h' → Q' v h' → Go p e below s R n0 Q (T'.setTop (mkF m pc' Ls (v.toList ++ stk)))) : Go p e below s R n0 Q (T.setTop (mkF m pc Ls st0)) := by
  subst hp hc' hs' hst; obtain ⟨locs, X, N⟩ := X
  obtain ⟨cq, kq, qa, qb, qc⟩ := isOf K.hZ eT E
  obtain ⟨_, _, ⟨T1, L1, k1, n1⟩, -, X1, ⟨Lc1, hQ1, l1, y1, z1⟩, st1⟩ := X.interfaceBack K.hx K.own' (mvT K.hZ w1) (mvT K.hZ w2) (mvT K.hZ w7 (by simp [Cond.onTables, Cond.keepsFace, Cond.keeps, Cond.steady, Cond.faceAtom, hy.1, hy.2])) (mvT K.hZ w3) (mvT K.hZ w4) (mvT K.hZ w8) (mvT K.hZ w9) (mvT K.hZ w10) hy (backOf (W := W) (Q := fun v u L => Q' v u ∧ Fr n0 L) (C0 []) K.hZ w5 w6 hf hl) qa qb qc (g := mkF m pc Ls (argsL.reverse ++ .ref a :: stk)) rfl (by rw [K.ml]; exact hsize) (Steps.refl _) (argsL := argsL) (rest := stk) hlen rfl (by show 2 * 0 + _ ≤ _; omega) (hb K.by' hd) (fun _ _ => ⟨rfl, eT, hc, hs⟩)
  dsimp only [Pt.U, Pt.locs, Pt.cells, Pt.slots] at X1 l1 y1 z1 st1 hQ1
  subst l1 y1 z1
  exact go_by (fun t k => st1.trans k) (k T1 _ _ ⟨_, X1, Fr.app N hQ1.2⟩ rfl hQ1.1)

end OwnKit

def own_gap (g : Int32) : Int64 := if g &&& 1 = 0 then 1 else 2 + (((g.toUInt32 >>> ((1 : Int32) &&& 31).toUInt32).toInt32) &&& 1073741823).toInt64
def own_min (x y : Int32) : Int32 := if y < x then y else x
def own_step : List Int32 → Int32 → List Int32
  | [], x => [x + 1, x]
  | z :: acc, x => if z = x then (z + 1) :: acc else (x + 1) :: x :: z :: acc
theorem own_step0 (x : Int32) : own_step [] x = [x + 1, x] := rfl
theorem own_stepY {z x : Int32} {acc : List Int32} (h : z = x) : own_step (z :: acc) x = (z + 1) :: acc := if_pos h
theorem own_stepN {z x : Int32} {acc : List Int32} (h : ¬ z = x) : own_step (z :: acc) x = (x + 1) :: x :: z :: acc := if_neg h
def own_runs (ys : List Int32) : List Value := ((ys.foldl own_step []).reverse).map .int
theorem own_lt32 {x y : Int32} : x < y ↔ x.toInt < y.toInt := Int32.lt_iff_toInt_lt
theorem own_n5 {x n : Int32} (h : (x &&& 2147483647) % 5 = n) : n = 0 ∨ n = 1 ∨ n = 2 ∨ n = 3 ∨ n = 4 := by
  have m := c_mask x 2147483647 31 (by omega) (by decide)
  have h2 : (2 ^ 31 : Nat) = 2147483648 := by decide
  rw [h2] at m
  have r := (c_irem (x &&& 2147483647) 5 5 (by decide)).1 (by omega)
  rw [h] at r
  have k0 : (0 : Int32).toInt = 0 := by decide
  have k1 : (1 : Int32).toInt = 1 := by decide
  have k2 : (2 : Int32).toInt = 2 := by decide
  have k3 : (3 : Int32).toInt = 3 := by decide
  have k4 : (4 : Int32).toInt = 4 := by decide
  simp only [← Int32.toInt_inj, k0, k1, k2, k3, k4]
  omega
theorem own_len32 {n : Nat} (h : n ≤ 8) : n.toInt32.toInt = n := len_toInt (by omega)
theorem own_ne_len {p2 : Int32} {k : Nat} {vs : List Value} (hk : p2.toInt = (k : Int)) (hl : k < vs.length) (h8 : vs.length ≤ 8) : ¬ p2 = vs.length.toInt32 := fun q => by
  have := own_len32 h8
  rw [← q, hk] at this
  omega
theorem own_min_len {p2 : Int32} {k : Nat} {vs : List Value} (hk : p2.toInt = (k : Int)) (hl : k < vs.length) (h8 : vs.length ≤ 8) : own_min vs.length.toInt32 p2 = p2 := by
  unfold own_min
  rw [if_pos]
  rw [own_lt32, own_len32 h8, hk]
  omega
theorem own_fit_rep (k : Nat) : ∀ v ∈ List.replicate k (Value.int (0 : Int32)), fits .int v = true := fun v hv => by
  rw [(List.mem_replicate.mp hv).2]; rfl
theorem own_fit_list {vs : List Value} (h : ∀ v ∈ vs, ∃ x, v = Value.int x) : ∀ v ∈ vs, fits .int v = true := fun v hv => by
  obtain ⟨x, rfl⟩ := h v hv; rfl
theorem own_nar {t : Int32} {P : Prop} [Decidable P] (h : t = if P then 1 else 0) : nar .boolean t = t := by
  rw [h]; split <;> rfl

theorem own_lt64 {x : Int64} (h : x < 2147483647) : x.toInt < 2147483647 := by
  have := Int64.lt_iff_toInt_lt.mp h
  have k : (2147483647 : Int64).toInt = 2147483647 := by decide
  omega
theorem own_gap_spec (g : Int32) : (g &&& 1 = 0 → (own_gap g).toInt = 1) ∧ (¬ g &&& 1 = 0 → 2 ≤ (own_gap g).toInt) ∧ 1 ≤ (own_gap g).toInt ∧ (own_gap g).toInt ≤ 1073741825 := by
  unfold own_gap
  split
  · rename_i q
    have k : (1 : Int64).toInt = 1 := by decide
    exact ⟨fun _ => k, fun r => absurd q r, by omega, by omega⟩
  · rename_i q
    generalize ((g.toUInt32 >>> ((1 : Int32) &&& 31).toUInt32).toInt32) = z
    have m := c_mask z 1073741823 30 (by omega) (by decide)
    have h2 : (2 ^ 30 : Nat) = 1073741824 := by decide
    rw [h2] at m
    have k : (2 : Int64).toInt = 2 := by decide
    have e : (2 + (z &&& 1073741823).toInt64).toInt = 2 + (z &&& 1073741823).toInt := by
      rw [XT.add64 (by rw [k, c_i2l]; constructor <;> omega), k, c_i2l]
    rw [e]
    exact ⟨fun r => absurd r q, fun _ => by omega, by omega, by omega⟩
theorem own_next {x y : Int64} {g : Int32} (h : x + own_gap g = y) {a b : Int} (h1 : a ≤ x.toInt) (h2 : x.toInt < b) (ha : -2147483648 ≤ a := by decide) (hb : b ≤ 8589934592 := by decide) : a ≤ y.toInt ∧ y.toInt < b + 1073741825 ∧ x.toInt < y.toInt := by
  have s := (own_gap_spec g).2.2
  rw [← h, XT.add64 (by constructor <;> omega)]
  omega
theorem own_succ {x : Int64} (h1 : -2147483648 ≤ x.toInt) (h2 : x.toInt < 2147483647) : (x + (1 : Int64)).toInt32 = x.toInt32 + 1 := by
  have k : (1 : Int64).toInt = 1 := by decide
  have k2 : (1 : Int32).toInt = 1 := by decide
  have e : (x + 1).toInt = x.toInt + 1 := by rw [XT.add64 (by rw [k]; constructor <;> omega), k]
  have e2 := XT.narrowInt (x := x) (by constructor <;> omega)
  apply Int32.toInt_inj.mp
  rw [XT.narrowInt (by rw [e]; constructor <;> omega), XT.add32 (by rw [e2, k2]; constructor <;> omega), e, e2, k2]
theorem own_flag {x y : Int64} {g t : Int32} (h : x + own_gap g = y) (ht : t = if (g &&& 1) = 0 then 1 else 0) (h1 : -2147483648 ≤ x.toInt) (h2 : x.toInt < 2147483647) (h3 : y.toInt < 2147483647) :
    (t = 1 ∧ x.toInt32 + 1 = y.toInt32) ∨ (t = 0 ∧ ¬ x.toInt32 + 1 = y.toInt32) := by
  have s := own_gap_spec g
  have e1 : y.toInt = x.toInt + (own_gap g).toInt := by rw [← h, XT.add64 (by constructor <;> omega)]
  have k2 : (1 : Int32).toInt = 1 := by decide
  have e2 := XT.narrowInt (x := x) (by constructor <;> omega)
  have e3 := XT.narrowInt (x := y) (by constructor <;> omega)
  have e4 : (x.toInt32 + 1).toInt = x.toInt + 1 := by rw [XT.add32 (by rw [e2, k2]; constructor <;> omega), e2, k2]
  by_cases q : g &&& 1 = 0
  · refine Or.inl ⟨by rw [ht, if_pos q], Int32.toInt_inj.mp ?_⟩
    rw [e4, e3, e1, s.1 q]
  · refine Or.inr ⟨by rw [ht, if_neg q], fun z => ?_⟩
    have := s.2.1 q
    rw [z, e3] at e4
    omega
theorem own_good1 {p1 p2 p3 p4 t1 t2 t3 r1 r2 r3 c2 c3 : Int32} {x0 x1 x2 x3 : Int64} (h_x0 : p1.toInt64 = x0) (h_x1 : (x0 + own_gap p2) = x1) (h_x2 : (x1 + own_gap p3) = x2) (h_x3 : (x2 + own_gap p4) = x3) (h_t1 : t1 = if (p2 &&& 1) = 0 then 1 else 0) (h_t2 : t2 = if (p3 &&& 1) = 0 then 1 else 0) (h_t3 : t3 = if (p4 &&& 1) = 0 then 1 else 0) (h_r1 : r1 = if t1 = 0 then 1 else 0) (h_c2 : c2 = if t2 = 0 then 1 else 0) (h_r2 : (r1 + c2) = r2) (h_c3 : c3 = if t3 = 0 then 1 else 0) (h_r3 : (r2 + c3) = r3) (lim : x0 < 2147483647) :
    ((own_runs [(x0.toInt32)]).length.toInt32 / (2 : Int32)) = (1 : Int32) ∧ (∃ j : Nat, ((2 : Int32) * (0 : Int32)).toInt = (j : Int) ∧ (own_runs [(x0.toInt32)])[j]? = some (.int (x0.toInt32))) ∧ (∃ j : Nat, (((2 : Int32) * (0 : Int32)) + (1 : Int32)).toInt = (j : Int) ∧ (own_runs [(x0.toInt32)])[j]? = some (.int ((x0 + (1 : Int64)).toInt32))) := by
  have b0 : -2147483648 ≤ x0.toInt := by rw [← h_x0, c_i2l]; exact p1.le_toInt
  have u0 : x0.toInt < 2147483648 := by rw [← h_x0, c_i2l]; exact p1.toInt_lt
  have lim' := own_lt64 lim
  have s0 := own_succ (x := x0) (by omega) (by omega)
  simp only [s0]
  generalize hy0 : x0.toInt32 = y0 at *
  exact ⟨by show (2 : Nat).toInt32 / (2 : Int32) = _; decide, ⟨0, rfl, rfl⟩, ⟨1, rfl, rfl⟩⟩
theorem own_good2 {p1 p2 p3 p4 t1 t2 t3 r1 r2 r3 c2 c3 : Int32} {x0 x1 x2 x3 : Int64} (h_x0 : p1.toInt64 = x0) (h_x1 : (x0 + own_gap p2) = x1) (h_x2 : (x1 + own_gap p3) = x2) (h_x3 : (x2 + own_gap p4) = x3) (h_t1 : t1 = if (p2 &&& 1) = 0 then 1 else 0) (h_t2 : t2 = if (p3 &&& 1) = 0 then 1 else 0) (h_t3 : t3 = if (p4 &&& 1) = 0 then 1 else 0) (h_r1 : r1 = if t1 = 0 then 1 else 0) (h_c2 : c2 = if t2 = 0 then 1 else 0) (h_r2 : (r1 + c2) = r2) (h_c3 : c3 = if t3 = 0 then 1 else 0) (h_r3 : (r2 + c3) = r3) (lim : x1 < 2147483647) :
    ((own_runs [(x0.toInt32), (x1.toInt32)]).length.toInt32 / (2 : Int32)) = (r1 + (1 : Int32)) ∧ (∃ j : Nat, ((2 : Int32) * (0 : Int32)).toInt = (j : Int) ∧ (own_runs [(x0.toInt32), (x1.toInt32)])[j]? = some (.int (x0.toInt32))) ∧ (t1 = 0 → ∃ j : Nat, (((2 : Int32) * (0 : Int32)) + (1 : Int32)).toInt = (j : Int) ∧ (own_runs [(x0.toInt32), (x1.toInt32)])[j]? = some (.int ((x0 + (1 : Int64)).toInt32))) ∧ (t1 = 0 → ∃ j : Nat, ((2 : Int32) * r1).toInt = (j : Int) ∧ (own_runs [(x0.toInt32), (x1.toInt32)])[j]? = some (.int (x1.toInt32))) ∧ (∃ j : Nat, (((2 : Int32) * r1) + (1 : Int32)).toInt = (j : Int) ∧ (own_runs [(x0.toInt32), (x1.toInt32)])[j]? = some (.int ((x1 + (1 : Int64)).toInt32))) := by
  have b0 : -2147483648 ≤ x0.toInt := by rw [← h_x0, c_i2l]; exact p1.le_toInt
  have u0 : x0.toInt < 2147483648 := by rw [← h_x0, c_i2l]; exact p1.toInt_lt
  obtain ⟨b1, u1, v1⟩ := own_next h_x1 b0 u0
  have lim' := own_lt64 lim
  have s0 := own_succ (x := x0) (by omega) (by omega)
  have s1 := own_succ (x := x1) (by omega) (by omega)
  have f1 := own_flag h_x1 h_t1 (by omega) (by omega) (by omega)
  simp only [s0, s1]
  generalize hy0 : x0.toInt32 = y0 at *
  generalize hy1 : x1.toInt32 = y1 at *
  rcases f1 with ⟨k1, l1⟩ | ⟨k1, l1⟩
  · have q1 : r1 = 0 := by rw [h_r1, k1]; rfl
    have R : own_runs [y0, y1] = [Value.int (y0), Value.int (y1 + 1)] := by
      show ((own_step (own_step ([]) y0) y1).reverse).map Value.int = _
      rw [own_step0]
      rw [own_stepY l1, l1]
      rfl
    rw [R]
    exact ⟨by rw [q1]; show (2 : Nat).toInt32 / (2 : Int32) = _; decide, ⟨0, by rfl, by simp⟩, fun z => absurd (k1.symm.trans z) (by decide), fun z => absurd (k1.symm.trans z) (by decide), ⟨1, by rw [q1]; rfl, by simp [l1]⟩⟩
  · have q1 : r1 = 1 := by rw [h_r1, k1]; rfl
    have R : own_runs [y0, y1] = [Value.int (y0), Value.int (y0 + 1), Value.int (y1), Value.int (y1 + 1)] := by
      show ((own_step (own_step ([]) y0) y1).reverse).map Value.int = _
      rw [own_step0]
      rw [own_stepN l1]
      rfl
    rw [R]
    exact ⟨by rw [q1]; show (4 : Nat).toInt32 / (2 : Int32) = _; decide, ⟨0, by rfl, by simp⟩, fun _ => ⟨1, by rfl, by simp []⟩, fun _ => ⟨2, by rw [q1]; rfl, by simp⟩, ⟨3, by rw [q1]; rfl, by simp []⟩⟩
theorem own_good3 {p1 p2 p3 p4 t1 t2 t3 r1 r2 r3 c2 c3 : Int32} {x0 x1 x2 x3 : Int64} (h_x0 : p1.toInt64 = x0) (h_x1 : (x0 + own_gap p2) = x1) (h_x2 : (x1 + own_gap p3) = x2) (h_x3 : (x2 + own_gap p4) = x3) (h_t1 : t1 = if (p2 &&& 1) = 0 then 1 else 0) (h_t2 : t2 = if (p3 &&& 1) = 0 then 1 else 0) (h_t3 : t3 = if (p4 &&& 1) = 0 then 1 else 0) (h_r1 : r1 = if t1 = 0 then 1 else 0) (h_c2 : c2 = if t2 = 0 then 1 else 0) (h_r2 : (r1 + c2) = r2) (h_c3 : c3 = if t3 = 0 then 1 else 0) (h_r3 : (r2 + c3) = r3) (lim : x2 < 2147483647) :
    ((own_runs [(x0.toInt32), (x1.toInt32), (x2.toInt32)]).length.toInt32 / (2 : Int32)) = (r2 + (1 : Int32)) ∧ (∃ j : Nat, ((2 : Int32) * (0 : Int32)).toInt = (j : Int) ∧ (own_runs [(x0.toInt32), (x1.toInt32), (x2.toInt32)])[j]? = some (.int (x0.toInt32))) ∧ (t1 = 0 → ∃ j : Nat, (((2 : Int32) * (0 : Int32)) + (1 : Int32)).toInt = (j : Int) ∧ (own_runs [(x0.toInt32), (x1.toInt32), (x2.toInt32)])[j]? = some (.int ((x0 + (1 : Int64)).toInt32))) ∧ (t1 = 0 → ∃ j : Nat, ((2 : Int32) * r1).toInt = (j : Int) ∧ (own_runs [(x0.toInt32), (x1.toInt32), (x2.toInt32)])[j]? = some (.int (x1.toInt32))) ∧ (t2 = 0 → ∃ j : Nat, (((2 : Int32) * r1) + (1 : Int32)).toInt = (j : Int) ∧ (own_runs [(x0.toInt32), (x1.toInt32), (x2.toInt32)])[j]? = some (.int ((x1 + (1 : Int64)).toInt32))) ∧ (t2 = 0 → ∃ j : Nat, ((2 : Int32) * r2).toInt = (j : Int) ∧ (own_runs [(x0.toInt32), (x1.toInt32), (x2.toInt32)])[j]? = some (.int (x2.toInt32))) ∧ (∃ j : Nat, (((2 : Int32) * r2) + (1 : Int32)).toInt = (j : Int) ∧ (own_runs [(x0.toInt32), (x1.toInt32), (x2.toInt32)])[j]? = some (.int ((x2 + (1 : Int64)).toInt32))) := by
  have b0 : -2147483648 ≤ x0.toInt := by rw [← h_x0, c_i2l]; exact p1.le_toInt
  have u0 : x0.toInt < 2147483648 := by rw [← h_x0, c_i2l]; exact p1.toInt_lt
  obtain ⟨b1, u1, v1⟩ := own_next h_x1 b0 u0
  obtain ⟨b2, u2, v2⟩ := own_next h_x2 b1 u1
  have lim' := own_lt64 lim
  have s0 := own_succ (x := x0) (by omega) (by omega)
  have s1 := own_succ (x := x1) (by omega) (by omega)
  have s2 := own_succ (x := x2) (by omega) (by omega)
  have f1 := own_flag h_x1 h_t1 (by omega) (by omega) (by omega)
  have f2 := own_flag h_x2 h_t2 (by omega) (by omega) (by omega)
  simp only [s0, s1, s2]
  generalize hy0 : x0.toInt32 = y0 at *
  generalize hy1 : x1.toInt32 = y1 at *
  generalize hy2 : x2.toInt32 = y2 at *
  rcases f1 with ⟨k1, l1⟩ | ⟨k1, l1⟩ <;> rcases f2 with ⟨k2, l2⟩ | ⟨k2, l2⟩
  · have q1 : r1 = 0 := by rw [h_r1, k1]; rfl
    have q2 : r2 = 0 := by rw [← h_r2, q1, h_c2, k2]; rfl
    have R : own_runs [y0, y1, y2] = [Value.int (y0), Value.int (y2 + 1)] := by
      show ((own_step (own_step (own_step ([]) y0) y1) y2).reverse).map Value.int = _
      rw [own_step0]
      rw [own_stepY l1, l1]
      rw [own_stepY l2, l2]
      rfl
    rw [R]
    exact ⟨by rw [q2]; show (2 : Nat).toInt32 / (2 : Int32) = _; decide, ⟨0, by rfl, by simp⟩, fun z => absurd (k1.symm.trans z) (by decide), fun z => absurd (k1.symm.trans z) (by decide), fun z => absurd (k2.symm.trans z) (by decide), fun z => absurd (k2.symm.trans z) (by decide), ⟨1, by rw [q2]; rfl, by simp [l1, l2]⟩⟩
  · have q1 : r1 = 0 := by rw [h_r1, k1]; rfl
    have q2 : r2 = 1 := by rw [← h_r2, q1, h_c2, k2]; rfl
    have R : own_runs [y0, y1, y2] = [Value.int (y0), Value.int (y1 + 1), Value.int (y2), Value.int (y2 + 1)] := by
      show ((own_step (own_step (own_step ([]) y0) y1) y2).reverse).map Value.int = _
      rw [own_step0]
      rw [own_stepY l1, l1]
      rw [own_stepN l2]
      rfl
    rw [R]
    exact ⟨by rw [q2]; show (4 : Nat).toInt32 / (2 : Int32) = _; decide, ⟨0, by rfl, by simp⟩, fun z => absurd (k1.symm.trans z) (by decide), fun z => absurd (k1.symm.trans z) (by decide), fun _ => ⟨1, by rw [q1]; rfl, by simp [l1]⟩, fun _ => ⟨2, by rw [q2]; rfl, by simp⟩, ⟨3, by rw [q2]; rfl, by simp [l1]⟩⟩
  · have q1 : r1 = 1 := by rw [h_r1, k1]; rfl
    have q2 : r2 = 1 := by rw [← h_r2, q1, h_c2, k2]; rfl
    have R : own_runs [y0, y1, y2] = [Value.int (y0), Value.int (y0 + 1), Value.int (y1), Value.int (y2 + 1)] := by
      show ((own_step (own_step (own_step ([]) y0) y1) y2).reverse).map Value.int = _
      rw [own_step0]
      rw [own_stepN l1]
      rw [own_stepY l2, l2]
      rfl
    rw [R]
    exact ⟨by rw [q2]; show (4 : Nat).toInt32 / (2 : Int32) = _; decide, ⟨0, by rfl, by simp⟩, fun _ => ⟨1, by rfl, by simp [l2]⟩, fun _ => ⟨2, by rw [q1]; rfl, by simp⟩, fun z => absurd (k2.symm.trans z) (by decide), fun z => absurd (k2.symm.trans z) (by decide), ⟨3, by rw [q2]; rfl, by simp [l2]⟩⟩
  · have q1 : r1 = 1 := by rw [h_r1, k1]; rfl
    have q2 : r2 = 2 := by rw [← h_r2, q1, h_c2, k2]; rfl
    have R : own_runs [y0, y1, y2] = [Value.int (y0), Value.int (y0 + 1), Value.int (y1), Value.int (y1 + 1), Value.int (y2), Value.int (y2 + 1)] := by
      show ((own_step (own_step (own_step ([]) y0) y1) y2).reverse).map Value.int = _
      rw [own_step0]
      rw [own_stepN l1]
      rw [own_stepN l2]
      rfl
    rw [R]
    exact ⟨by rw [q2]; show (6 : Nat).toInt32 / (2 : Int32) = _; decide, ⟨0, by rfl, by simp⟩, fun _ => ⟨1, by rfl, by simp []⟩, fun _ => ⟨2, by rw [q1]; rfl, by simp⟩, fun _ => ⟨3, by rw [q1]; rfl, by simp []⟩, fun _ => ⟨4, by rw [q2]; rfl, by simp⟩, ⟨5, by rw [q2]; rfl, by simp []⟩⟩
theorem own_good4 {p1 p2 p3 p4 t1 t2 t3 r1 r2 r3 c2 c3 : Int32} {x0 x1 x2 x3 : Int64} (h_x0 : p1.toInt64 = x0) (h_x1 : (x0 + own_gap p2) = x1) (h_x2 : (x1 + own_gap p3) = x2) (h_x3 : (x2 + own_gap p4) = x3) (h_t1 : t1 = if (p2 &&& 1) = 0 then 1 else 0) (h_t2 : t2 = if (p3 &&& 1) = 0 then 1 else 0) (h_t3 : t3 = if (p4 &&& 1) = 0 then 1 else 0) (h_r1 : r1 = if t1 = 0 then 1 else 0) (h_c2 : c2 = if t2 = 0 then 1 else 0) (h_r2 : (r1 + c2) = r2) (h_c3 : c3 = if t3 = 0 then 1 else 0) (h_r3 : (r2 + c3) = r3) (lim : x3 < 2147483647) :
    ((own_runs [(x0.toInt32), (x1.toInt32), (x2.toInt32), (x3.toInt32)]).length.toInt32 / (2 : Int32)) = (r3 + (1 : Int32)) ∧ (∃ j : Nat, ((2 : Int32) * (0 : Int32)).toInt = (j : Int) ∧ (own_runs [(x0.toInt32), (x1.toInt32), (x2.toInt32), (x3.toInt32)])[j]? = some (.int (x0.toInt32))) ∧ (t1 = 0 → ∃ j : Nat, (((2 : Int32) * (0 : Int32)) + (1 : Int32)).toInt = (j : Int) ∧ (own_runs [(x0.toInt32), (x1.toInt32), (x2.toInt32), (x3.toInt32)])[j]? = some (.int ((x0 + (1 : Int64)).toInt32))) ∧ (t1 = 0 → ∃ j : Nat, ((2 : Int32) * r1).toInt = (j : Int) ∧ (own_runs [(x0.toInt32), (x1.toInt32), (x2.toInt32), (x3.toInt32)])[j]? = some (.int (x1.toInt32))) ∧ (t2 = 0 → ∃ j : Nat, (((2 : Int32) * r1) + (1 : Int32)).toInt = (j : Int) ∧ (own_runs [(x0.toInt32), (x1.toInt32), (x2.toInt32), (x3.toInt32)])[j]? = some (.int ((x1 + (1 : Int64)).toInt32))) ∧ (t2 = 0 → ∃ j : Nat, ((2 : Int32) * r2).toInt = (j : Int) ∧ (own_runs [(x0.toInt32), (x1.toInt32), (x2.toInt32), (x3.toInt32)])[j]? = some (.int (x2.toInt32))) ∧ (t3 = 0 → ∃ j : Nat, (((2 : Int32) * r2) + (1 : Int32)).toInt = (j : Int) ∧ (own_runs [(x0.toInt32), (x1.toInt32), (x2.toInt32), (x3.toInt32)])[j]? = some (.int ((x2 + (1 : Int64)).toInt32))) ∧ (t3 = 0 → ∃ j : Nat, ((2 : Int32) * r3).toInt = (j : Int) ∧ (own_runs [(x0.toInt32), (x1.toInt32), (x2.toInt32), (x3.toInt32)])[j]? = some (.int (x3.toInt32))) ∧ (∃ j : Nat, (((2 : Int32) * r3) + (1 : Int32)).toInt = (j : Int) ∧ (own_runs [(x0.toInt32), (x1.toInt32), (x2.toInt32), (x3.toInt32)])[j]? = some (.int ((x3 + (1 : Int64)).toInt32))) := by
  have b0 : -2147483648 ≤ x0.toInt := by rw [← h_x0, c_i2l]; exact p1.le_toInt
  have u0 : x0.toInt < 2147483648 := by rw [← h_x0, c_i2l]; exact p1.toInt_lt
  obtain ⟨b1, u1, v1⟩ := own_next h_x1 b0 u0
  obtain ⟨b2, u2, v2⟩ := own_next h_x2 b1 u1
  obtain ⟨b3, u3, v3⟩ := own_next h_x3 b2 u2
  have lim' := own_lt64 lim
  have s0 := own_succ (x := x0) (by omega) (by omega)
  have s1 := own_succ (x := x1) (by omega) (by omega)
  have s2 := own_succ (x := x2) (by omega) (by omega)
  have s3 := own_succ (x := x3) (by omega) (by omega)
  have f1 := own_flag h_x1 h_t1 (by omega) (by omega) (by omega)
  have f2 := own_flag h_x2 h_t2 (by omega) (by omega) (by omega)
  have f3 := own_flag h_x3 h_t3 (by omega) (by omega) (by omega)
  simp only [s0, s1, s2, s3]
  generalize hy0 : x0.toInt32 = y0 at *
  generalize hy1 : x1.toInt32 = y1 at *
  generalize hy2 : x2.toInt32 = y2 at *
  generalize hy3 : x3.toInt32 = y3 at *
  rcases f1 with ⟨k1, l1⟩ | ⟨k1, l1⟩ <;> rcases f2 with ⟨k2, l2⟩ | ⟨k2, l2⟩ <;> rcases f3 with ⟨k3, l3⟩ | ⟨k3, l3⟩
  · have q1 : r1 = 0 := by rw [h_r1, k1]; rfl
    have q2 : r2 = 0 := by rw [← h_r2, q1, h_c2, k2]; rfl
    have q3 : r3 = 0 := by rw [← h_r3, q2, h_c3, k3]; rfl
    have R : own_runs [y0, y1, y2, y3] = [Value.int (y0), Value.int (y3 + 1)] := by
      show ((own_step (own_step (own_step (own_step ([]) y0) y1) y2) y3).reverse).map Value.int = _
      rw [own_step0]
      rw [own_stepY l1, l1]
      rw [own_stepY l2, l2]
      rw [own_stepY l3, l3]
      rfl
    rw [R]
    exact ⟨by rw [q3]; show (2 : Nat).toInt32 / (2 : Int32) = _; decide, ⟨0, by rfl, by simp⟩, fun z => absurd (k1.symm.trans z) (by decide), fun z => absurd (k1.symm.trans z) (by decide), fun z => absurd (k2.symm.trans z) (by decide), fun z => absurd (k2.symm.trans z) (by decide), fun z => absurd (k3.symm.trans z) (by decide), fun z => absurd (k3.symm.trans z) (by decide), ⟨1, by rw [q3]; rfl, by simp [l1, l2, l3]⟩⟩
  · have q1 : r1 = 0 := by rw [h_r1, k1]; rfl
    have q2 : r2 = 0 := by rw [← h_r2, q1, h_c2, k2]; rfl
    have q3 : r3 = 1 := by rw [← h_r3, q2, h_c3, k3]; rfl
    have R : own_runs [y0, y1, y2, y3] = [Value.int (y0), Value.int (y2 + 1), Value.int (y3), Value.int (y3 + 1)] := by
      show ((own_step (own_step (own_step (own_step ([]) y0) y1) y2) y3).reverse).map Value.int = _
      rw [own_step0]
      rw [own_stepY l1, l1]
      rw [own_stepY l2, l2]
      rw [own_stepN l3]
      rfl
    rw [R]
    exact ⟨by rw [q3]; show (4 : Nat).toInt32 / (2 : Int32) = _; decide, ⟨0, by rfl, by simp⟩, fun z => absurd (k1.symm.trans z) (by decide), fun z => absurd (k1.symm.trans z) (by decide), fun z => absurd (k2.symm.trans z) (by decide), fun z => absurd (k2.symm.trans z) (by decide), fun _ => ⟨1, by rw [q2]; rfl, by simp [l1, l2]⟩, fun _ => ⟨2, by rw [q3]; rfl, by simp⟩, ⟨3, by rw [q3]; rfl, by simp [l1, l2]⟩⟩
  · have q1 : r1 = 0 := by rw [h_r1, k1]; rfl
    have q2 : r2 = 1 := by rw [← h_r2, q1, h_c2, k2]; rfl
    have q3 : r3 = 1 := by rw [← h_r3, q2, h_c3, k3]; rfl
    have R : own_runs [y0, y1, y2, y3] = [Value.int (y0), Value.int (y1 + 1), Value.int (y2), Value.int (y3 + 1)] := by
      show ((own_step (own_step (own_step (own_step ([]) y0) y1) y2) y3).reverse).map Value.int = _
      rw [own_step0]
      rw [own_stepY l1, l1]
      rw [own_stepN l2]
      rw [own_stepY l3, l3]
      rfl
    rw [R]
    exact ⟨by rw [q3]; show (4 : Nat).toInt32 / (2 : Int32) = _; decide, ⟨0, by rfl, by simp⟩, fun z => absurd (k1.symm.trans z) (by decide), fun z => absurd (k1.symm.trans z) (by decide), fun _ => ⟨1, by rw [q1]; rfl, by simp [l1, l3]⟩, fun _ => ⟨2, by rw [q2]; rfl, by simp⟩, fun z => absurd (k3.symm.trans z) (by decide), fun z => absurd (k3.symm.trans z) (by decide), ⟨3, by rw [q3]; rfl, by simp [l1, l3]⟩⟩
  · have q1 : r1 = 0 := by rw [h_r1, k1]; rfl
    have q2 : r2 = 1 := by rw [← h_r2, q1, h_c2, k2]; rfl
    have q3 : r3 = 2 := by rw [← h_r3, q2, h_c3, k3]; rfl
    have R : own_runs [y0, y1, y2, y3] = [Value.int (y0), Value.int (y1 + 1), Value.int (y2), Value.int (y2 + 1), Value.int (y3), Value.int (y3 + 1)] := by
      show ((own_step (own_step (own_step (own_step ([]) y0) y1) y2) y3).reverse).map Value.int = _
      rw [own_step0]
      rw [own_stepY l1, l1]
      rw [own_stepN l2]
      rw [own_stepN l3]
      rfl
    rw [R]
    exact ⟨by rw [q3]; show (6 : Nat).toInt32 / (2 : Int32) = _; decide, ⟨0, by rfl, by simp⟩, fun z => absurd (k1.symm.trans z) (by decide), fun z => absurd (k1.symm.trans z) (by decide), fun _ => ⟨1, by rw [q1]; rfl, by simp [l1]⟩, fun _ => ⟨2, by rw [q2]; rfl, by simp⟩, fun _ => ⟨3, by rw [q2]; rfl, by simp [l1]⟩, fun _ => ⟨4, by rw [q3]; rfl, by simp⟩, ⟨5, by rw [q3]; rfl, by simp [l1]⟩⟩
  · have q1 : r1 = 1 := by rw [h_r1, k1]; rfl
    have q2 : r2 = 1 := by rw [← h_r2, q1, h_c2, k2]; rfl
    have q3 : r3 = 1 := by rw [← h_r3, q2, h_c3, k3]; rfl
    have R : own_runs [y0, y1, y2, y3] = [Value.int (y0), Value.int (y0 + 1), Value.int (y1), Value.int (y3 + 1)] := by
      show ((own_step (own_step (own_step (own_step ([]) y0) y1) y2) y3).reverse).map Value.int = _
      rw [own_step0]
      rw [own_stepN l1]
      rw [own_stepY l2, l2]
      rw [own_stepY l3, l3]
      rfl
    rw [R]
    exact ⟨by rw [q3]; show (4 : Nat).toInt32 / (2 : Int32) = _; decide, ⟨0, by rfl, by simp⟩, fun _ => ⟨1, by rfl, by simp [l2, l3]⟩, fun _ => ⟨2, by rw [q1]; rfl, by simp⟩, fun z => absurd (k2.symm.trans z) (by decide), fun z => absurd (k2.symm.trans z) (by decide), fun z => absurd (k3.symm.trans z) (by decide), fun z => absurd (k3.symm.trans z) (by decide), ⟨3, by rw [q3]; rfl, by simp [l2, l3]⟩⟩
  · have q1 : r1 = 1 := by rw [h_r1, k1]; rfl
    have q2 : r2 = 1 := by rw [← h_r2, q1, h_c2, k2]; rfl
    have q3 : r3 = 2 := by rw [← h_r3, q2, h_c3, k3]; rfl
    have R : own_runs [y0, y1, y2, y3] = [Value.int (y0), Value.int (y0 + 1), Value.int (y1), Value.int (y2 + 1), Value.int (y3), Value.int (y3 + 1)] := by
      show ((own_step (own_step (own_step (own_step ([]) y0) y1) y2) y3).reverse).map Value.int = _
      rw [own_step0]
      rw [own_stepN l1]
      rw [own_stepY l2, l2]
      rw [own_stepN l3]
      rfl
    rw [R]
    exact ⟨by rw [q3]; show (6 : Nat).toInt32 / (2 : Int32) = _; decide, ⟨0, by rfl, by simp⟩, fun _ => ⟨1, by rfl, by simp [l2]⟩, fun _ => ⟨2, by rw [q1]; rfl, by simp⟩, fun z => absurd (k2.symm.trans z) (by decide), fun z => absurd (k2.symm.trans z) (by decide), fun _ => ⟨3, by rw [q2]; rfl, by simp [l2]⟩, fun _ => ⟨4, by rw [q3]; rfl, by simp⟩, ⟨5, by rw [q3]; rfl, by simp [l2]⟩⟩
  · have q1 : r1 = 1 := by rw [h_r1, k1]; rfl
    have q2 : r2 = 2 := by rw [← h_r2, q1, h_c2, k2]; rfl
    have q3 : r3 = 2 := by rw [← h_r3, q2, h_c3, k3]; rfl
    have R : own_runs [y0, y1, y2, y3] = [Value.int (y0), Value.int (y0 + 1), Value.int (y1), Value.int (y1 + 1), Value.int (y2), Value.int (y3 + 1)] := by
      show ((own_step (own_step (own_step (own_step ([]) y0) y1) y2) y3).reverse).map Value.int = _
      rw [own_step0]
      rw [own_stepN l1]
      rw [own_stepN l2]
      rw [own_stepY l3, l3]
      rfl
    rw [R]
    exact ⟨by rw [q3]; show (6 : Nat).toInt32 / (2 : Int32) = _; decide, ⟨0, by rfl, by simp⟩, fun _ => ⟨1, by rfl, by simp [l3]⟩, fun _ => ⟨2, by rw [q1]; rfl, by simp⟩, fun _ => ⟨3, by rw [q1]; rfl, by simp [l3]⟩, fun _ => ⟨4, by rw [q2]; rfl, by simp⟩, fun z => absurd (k3.symm.trans z) (by decide), fun z => absurd (k3.symm.trans z) (by decide), ⟨5, by rw [q3]; rfl, by simp [l3]⟩⟩
  · have q1 : r1 = 1 := by rw [h_r1, k1]; rfl
    have q2 : r2 = 2 := by rw [← h_r2, q1, h_c2, k2]; rfl
    have q3 : r3 = 3 := by rw [← h_r3, q2, h_c3, k3]; rfl
    have R : own_runs [y0, y1, y2, y3] = [Value.int (y0), Value.int (y0 + 1), Value.int (y1), Value.int (y1 + 1), Value.int (y2), Value.int (y2 + 1), Value.int (y3), Value.int (y3 + 1)] := by
      show ((own_step (own_step (own_step (own_step ([]) y0) y1) y2) y3).reverse).map Value.int = _
      rw [own_step0]
      rw [own_stepN l1]
      rw [own_stepN l2]
      rw [own_stepN l3]
      rfl
    rw [R]
    exact ⟨by rw [q3]; show (8 : Nat).toInt32 / (2 : Int32) = _; decide, ⟨0, by rfl, by simp⟩, fun _ => ⟨1, by rfl, by simp []⟩, fun _ => ⟨2, by rw [q1]; rfl, by simp⟩, fun _ => ⟨3, by rw [q1]; rfl, by simp []⟩, fun _ => ⟨4, by rw [q2]; rfl, by simp⟩, fun _ => ⟨5, by rw [q2]; rfl, by simp []⟩, fun _ => ⟨6, by rw [q3]; rfl, by simp⟩, ⟨7, by rw [q3]; rfl, by simp []⟩⟩

theorem d1_0 : decode method_2_code 0 = .ok (.iload_n 0, 1) := by decide +kernel
theorem d1_1 : decode method_2_code 1 = .ok (.iconst 1, 1) := by decide +kernel
theorem d1_2 : decode method_2_code 2 = .ok (.iand, 1) := by decide +kernel
theorem d1_3 : decode method_2_code 3 = .ok (.ifCond .ne 7, 3) := by decide +kernel
theorem d1_10 : decode method_2_code 10 = .ok (.ldc2_w 7, 3) := by decide +kernel
theorem d1_13 : decode method_2_code 13 = .ok (.iload_n 0, 1) := by decide +kernel
theorem d1_14 : decode method_2_code 14 = .ok (.iconst 1, 1) := by decide +kernel
theorem d1_15 : decode method_2_code 15 = .ok (.iushr, 1) := by decide +kernel
theorem d1_16 : decode method_2_code 16 = .ok (.ldc 9, 2) := by decide +kernel
theorem d1_18 : decode method_2_code 18 = .ok (.iand, 1) := by decide +kernel
theorem d1_19 : decode method_2_code 19 = .ok (.i2l, 1) := by decide +kernel
theorem d1_20 : decode method_2_code 20 = .ok (.ladd, 1) := by decide +kernel
theorem d1_21 : decode method_2_code 21 = .ok (.lreturn, 1) := by decide +kernel
theorem d1_6 : decode method_2_code 6 = .ok (.lconst 1, 1) := by decide +kernel
theorem d1_7 : decode method_2_code 7 = .ok (.goto 14, 3) := by decide +kernel
theorem pn_com_example_divided_duty_dividedduty_policy_RangesOfSortedPinLaw : plainName "com/example/divided_duty/dividedduty/policy/RangesOfSortedPinLaw" = true := by first | (simp [plainName, overriddenIn]; done) | decide +kernel
theorem ef_rmGap (m : MethodId) (p1 : Int32) : entryFrame m #[(.int p1)] 1 = mkF m 0 #[.val (.int p1)] [] := by first | (simp [entryFrame, mkF, argsToLocals, Value.category]; done) | rfl
def Q_rmGap (Z : State) (n0 : Nat) (p1 : Int32) (h0 : Heap) (v : Option Value) (h : Heap) : Prop := v = some (.long (own_gap p1)) ∧ h = h0
abbrev R_rmGap : Room := { frames := 0, cells := 0, slots := 0, locals := 0 }
set_option maxRecDepth 65536 in
set_option maxHeartbeats 40000000 in
theorem rmGap {l : Launch} {Z : State} {n0 : Nat} {a0 : Array Value} (hw : ∀ d ∈ tables_1, d.before a0 Z = true) (p1 : Int32) (h0 : Heap) :
    Con l Z n0 (⟨"com/example/divided_duty/dividedduty/policy/RangesOfSortedPinLaw", "gap", "(I)J"⟩ : MethodName) method_2_code 1 (some .long) R_rmGap #[(.int p1)] h0 (Q_rmGap Z n0 p1 h0) := by
  refine con_of (plainFor_of_name pn_com_example_divided_duty_dividedduty_policy_RangesOfSortedPinLaw) ?_
  intro p e s m below meth c T0 K X0 e0
  replace K : Ctx p s m meth c Z "com/example/divided_duty/dividedduty/policy/RangesOfSortedPinLaw" "gap" method_2_code 1 (some .long) := K
  refine go_entry (ef_rmGap m p1) ?_
  refine go_iloadN K X0 d1_0 rfl rfl ?_
  refine go_iconst K X0 (1 : Int32) d1_1 rfl rfl ?_
  refine go_iand K X0 d1_2 rfl ?_
  refine go_if K X0 d1_3 (by decide) rfl rfl ?_ ?_
  · intro (hc1 : ¬ (p1 &&& (1 : Int32)) = (0 : Int32))
    refine go_ldc2J K X0 (wd hw 5 rfl) d1_10 rfl ?_
    refine go_iloadN K X0 d1_13 rfl rfl ?_
    refine go_iconst K X0 (1 : Int32) d1_14 rfl rfl ?_
    refine go_iushr K X0 d1_15 rfl ?_
    refine go_ldcI K X0 (wd hw 6 rfl) d1_16 rfl ?_
    refine go_iand K X0 d1_18 rfl ?_
    refine go_i2l K X0 d1_19 rfl ?_
    refine go_ladd K X0 d1_20 rfl ?_
    refine go_retJ K X0 d1_21 (by decide) (by decide) ?_
    rw [e0]
    exact ⟨(by simp [own_gap, hc1]), rfl⟩
  · intro (hc1 : (p1 &&& (1 : Int32)) = (0 : Int32))
    refine go_lconst K X0 (1 : Int64) d1_6 rfl rfl ?_
    refine go_goto K X0 d1_7 (by decide) rfl ?_
    refine go_retJ K X0 d1_21 (by decide) (by decide) ?_
    rw [e0]
    exact ⟨(by simp [own_gap, hc1]), rfl⟩
theorem d2_0 : decode method_3_code 0 = .ok (.iload_n 0, 1) := by decide +kernel
theorem d2_1 : decode method_3_code 1 = .ok (.ifCond .ne 7, 3) := by decide +kernel
theorem d2_4 : decode method_3_code 4 = .ok (.iconst 0, 1) := by decide +kernel
theorem d2_5 : decode method_3_code 5 = .ok (.newarray .int, 2) := by decide +kernel
theorem d2_7 : decode method_3_code 7 = .ok (.areturn, 1) := by decide +kernel
theorem ef_rmMake0 (m : MethodId) (a2 : Addr) : entryFrame m #[(.int (0 : Int32)), (.ref a2)] 2 = mkF m 0 #[.val (.int (0 : Int32)), .val (.ref a2)] [] := by first | (simp [entryFrame, mkF, argsToLocals, Value.category]; done) | rfl
def Q_rmMake0 (Z : State) (n0 : Nat) (a2 : Addr) (x0 : Int64) (x1 : Int64) (x2 : Int64) (x3 : Int64) (h0 : Heap) (v : Option Value) (h : Heap) : Prop := ∃ r : Addr, v = some (.ref r) ∧ Keep h0 h [] ∧ h0.size ≤ r ∧ AV Z h r .int []
abbrev R_rmMake0 : Room := { frames := 0, cells := 1, slots := 0, locals := 0 }
set_option maxRecDepth 65536 in
set_option maxHeartbeats 40000000 in
theorem rmMake0 {l : Launch} {Z : State} {n0 : Nat} {a0 : Array Value} (hw : ∀ d ∈ tables_1, d.before a0 Z = true) (a2 : Addr) (x0 : Int64) (x1 : Int64) (x2 : Int64) (x3 : Int64) (h0 : Heap) (H0 : n0 ≤ h0.size) (H1 : AV Z h0 a2 .long [(.long x0), (.long x1), (.long x2), (.long x3)]) :
    Con l Z n0 (⟨"com/example/divided_duty/dividedduty/policy/RangesOfSortedPinLaw", "make", "(I[J)[I"⟩ : MethodName) method_3_code 2 (some (.array .int)) R_rmMake0 #[(.int (0 : Int32)), (.ref a2)] h0 (Q_rmMake0 Z n0 a2 x0 x1 x2 x3 h0) := by
  refine con_of (plainFor_of_name pn_com_example_divided_duty_dividedduty_policy_RangesOfSortedPinLaw) ?_
  intro p e s m below meth c T0 K X0 e0
  replace K : Ctx p s m meth c Z "com/example/divided_duty/dividedduty/policy/RangesOfSortedPinLaw" "make" method_3_code 2 (some (.array .int)) := K
  refine go_entry (ef_rmMake0 m a2) ?_
  refine go_iloadN K X0 d2_0 rfl rfl ?_
  refine go_ifF K X0 d2_1 rfl (by decide : (0 : Int32) = (0 : Int32)) ?_
  refine go_iconst K X0 (0 : Int32) d2_4 rfl rfl ?_
  refine go_newarray K X0 (wd hw 11 rfl) e0 d2_5 (i := 0) (cap := 0) rfl (by decide) (by decide) rfl (cells' := 1) (slots' := 0) rfl rfl (by decide) (by decide) ?_
  intro T2 h2 b2 g2 X2 e2 E2 A2
  have ga3 : n0 ≤ b2 := Nat.le_trans H0 (Nat.le_of_eq g2.symm)
  have gb4 : h0.size ≤ b2 := Nat.le_trans (Keep.refl h0 []).1 (Nat.le_of_eq g2.symm)
  have kp5 : Keep h0 h2 [] := (Keep.refl h0 []).trans (Keep.ext (Keep.refl _ []) E2) all0
  have f6 : AV Z h2 b2 .int [] := A2
  refine go_retA K X2 rfl rfl rfl d2_7 (by decide) (by decide) ?_
  rw [e2]
  exact ⟨b2, rfl, kp5, gb4, f6⟩
theorem d2_8 : decode method_3_code 8 = .ok (.iload_n 0, 1) := by decide +kernel
theorem d2_9 : decode method_3_code 9 = .ok (.iconst 1, 1) := by decide +kernel
theorem d2_10 : decode method_3_code 10 = .ok (.if_icmp .ne 14, 3) := by decide +kernel
theorem d2_13 : decode method_3_code 13 = .ok (.iconst 1, 1) := by decide +kernel
theorem d2_14 : decode method_3_code 14 = .ok (.newarray .int, 2) := by decide +kernel
theorem d2_16 : decode method_3_code 16 = .ok (.dup, 1) := by decide +kernel
theorem d2_17 : decode method_3_code 17 = .ok (.iconst 0, 1) := by decide +kernel
theorem d2_18 : decode method_3_code 18 = .ok (.aload_n 1, 1) := by decide +kernel
theorem d2_19 : decode method_3_code 19 = .ok (.iconst 0, 1) := by decide +kernel
theorem d2_20 : decode method_3_code 20 = .ok (.laload, 1) := by decide +kernel
theorem d2_21 : decode method_3_code 21 = .ok (.l2i, 1) := by decide +kernel
theorem d2_22 : decode method_3_code 22 = .ok (.iastore, 1) := by decide +kernel
theorem d2_23 : decode method_3_code 23 = .ok (.areturn, 1) := by decide +kernel
theorem ef_rmMake1 (m : MethodId) (a2 : Addr) : entryFrame m #[(.int (1 : Int32)), (.ref a2)] 2 = mkF m 0 #[.val (.int (1 : Int32)), .val (.ref a2)] [] := by first | (simp [entryFrame, mkF, argsToLocals, Value.category]; done) | rfl
def Q_rmMake1 (Z : State) (n0 : Nat) (a2 : Addr) (x0 : Int64) (x1 : Int64) (x2 : Int64) (x3 : Int64) (h0 : Heap) (v : Option Value) (h : Heap) : Prop := ∃ r : Addr, v = some (.ref r) ∧ Keep h0 h [] ∧ h0.size ≤ r ∧ AV Z h r .int [(.int (x0.toInt32))]
abbrev R_rmMake1 : Room := { frames := 0, cells := 1, slots := 1, locals := 0 }
set_option maxRecDepth 65536 in
set_option maxHeartbeats 40000000 in
theorem rmMake1 {l : Launch} {Z : State} {n0 : Nat} {a0 : Array Value} (hw : ∀ d ∈ tables_1, d.before a0 Z = true) (a2 : Addr) (x0 : Int64) (x1 : Int64) (x2 : Int64) (x3 : Int64) (h0 : Heap) (H0 : n0 ≤ h0.size) (H1 : AV Z h0 a2 .long [(.long x0), (.long x1), (.long x2), (.long x3)]) :
    Con l Z n0 (⟨"com/example/divided_duty/dividedduty/policy/RangesOfSortedPinLaw", "make", "(I[J)[I"⟩ : MethodName) method_3_code 2 (some (.array .int)) R_rmMake1 #[(.int (1 : Int32)), (.ref a2)] h0 (Q_rmMake1 Z n0 a2 x0 x1 x2 x3 h0) := by
  refine con_of (plainFor_of_name pn_com_example_divided_duty_dividedduty_policy_RangesOfSortedPinLaw) ?_
  intro p e s m below meth c T0 K X0 e0
  replace K : Ctx p s m meth c Z "com/example/divided_duty/dividedduty/policy/RangesOfSortedPinLaw" "make" method_3_code 2 (some (.array .int)) := K
  refine go_entry (ef_rmMake1 m a2) ?_
  refine go_iloadN K X0 d2_0 rfl rfl ?_
  refine go_ifT K X0 d2_1 (by decide) rfl (by decide : ¬ (1 : Int32) = (0 : Int32)) ?_
  refine go_iloadN K X0 d2_8 rfl rfl ?_
  refine go_iconst K X0 (1 : Int32) d2_9 rfl rfl ?_
  refine go_icmpF K X0 d2_10 rfl (by decide : (1 : Int32) = (1 : Int32)) ?_
  refine go_iconst K X0 (1 : Int32) d2_13 rfl rfl ?_
  refine go_newarray K X0 (wd hw 11 rfl) e0 d2_14 (i := 1) (cap := 1) rfl (by decide) (by decide) rfl (cells' := 1) (slots' := 1) rfl rfl (by decide) (by decide) ?_
  intro T7 h7 b7 g7 X7 e7 E7 A7
  have ga8 : n0 ≤ b7 := Nat.le_trans H0 (Nat.le_of_eq g7.symm)
  have gb9 : h0.size ≤ b7 := Nat.le_trans (Keep.refl h0 []).1 (Nat.le_of_eq g7.symm)
  have kp10 : Keep h0 h7 [] := (Keep.refl h0 []).trans (Keep.ext (Keep.refl _ []) E7) all0
  have f11 : AV Z h7 b7 .int [(.int (0 : Int32))] := A7
  refine go_dup K X7 d2_16 rfl rfl ?_
  refine go_iconst K X7 (0 : Int32) d2_17 rfl rfl ?_
  refine go_aloadN K X7 d2_18 rfl rfl rfl ?_
  refine go_iconst K X7 (0 : Int32) d2_19 rfl rfl ?_
  have f12 : AV Z h7 a2 .long [(.long x0), (.long x1), (.long x2), (.long x3)] := (H1.keep (Keep.ext (Keep.refl _ []) E7) nin0)
  refine go_laload K X7 e7 f12 (i := 0) rfl rfl d2_20 rfl ?_
  refine go_l2i K X7 d2_21 rfl ?_
  refine go_iastore K X7 e7 f11 (i := 0) rfl (Nat.le_of_ble_eq_true rfl) ga8 d2_22 rfl ?_
  intro T13 h13 X13 e13 W13 A13
  have kp14 : Keep h0 h13 [] := kp10.trans (Keep.of_wr W13) (allS (Or.inr gb9) all0)
  have f15 : AV Z h13 b7 .int [(.int (x0.toInt32))] := A13
  refine go_retA K X13 rfl rfl rfl d2_23 (by decide) (by decide) ?_
  rw [e13]
  exact ⟨b7, rfl, kp14, gb9, f15⟩
theorem d2_24 : decode method_3_code 24 = .ok (.iload_n 0, 1) := by decide +kernel
theorem d2_25 : decode method_3_code 25 = .ok (.iconst 2, 1) := by decide +kernel
theorem d2_26 : decode method_3_code 26 = .ok (.if_icmp .ne 21, 3) := by decide +kernel
theorem d2_29 : decode method_3_code 29 = .ok (.iconst 2, 1) := by decide +kernel
theorem d2_30 : decode method_3_code 30 = .ok (.newarray .int, 2) := by decide +kernel
theorem d2_32 : decode method_3_code 32 = .ok (.dup, 1) := by decide +kernel
theorem d2_33 : decode method_3_code 33 = .ok (.iconst 0, 1) := by decide +kernel
theorem d2_34 : decode method_3_code 34 = .ok (.aload_n 1, 1) := by decide +kernel
theorem d2_35 : decode method_3_code 35 = .ok (.iconst 0, 1) := by decide +kernel
theorem d2_36 : decode method_3_code 36 = .ok (.laload, 1) := by decide +kernel
theorem d2_37 : decode method_3_code 37 = .ok (.l2i, 1) := by decide +kernel
theorem d2_38 : decode method_3_code 38 = .ok (.iastore, 1) := by decide +kernel
theorem d2_39 : decode method_3_code 39 = .ok (.dup, 1) := by decide +kernel
theorem d2_40 : decode method_3_code 40 = .ok (.iconst 1, 1) := by decide +kernel
theorem d2_41 : decode method_3_code 41 = .ok (.aload_n 1, 1) := by decide +kernel
theorem d2_42 : decode method_3_code 42 = .ok (.iconst 1, 1) := by decide +kernel
theorem d2_43 : decode method_3_code 43 = .ok (.laload, 1) := by decide +kernel
theorem d2_44 : decode method_3_code 44 = .ok (.l2i, 1) := by decide +kernel
theorem d2_45 : decode method_3_code 45 = .ok (.iastore, 1) := by decide +kernel
theorem d2_46 : decode method_3_code 46 = .ok (.areturn, 1) := by decide +kernel
theorem ef_rmMake2 (m : MethodId) (a2 : Addr) : entryFrame m #[(.int (2 : Int32)), (.ref a2)] 2 = mkF m 0 #[.val (.int (2 : Int32)), .val (.ref a2)] [] := by first | (simp [entryFrame, mkF, argsToLocals, Value.category]; done) | rfl
def Q_rmMake2 (Z : State) (n0 : Nat) (a2 : Addr) (x0 : Int64) (x1 : Int64) (x2 : Int64) (x3 : Int64) (h0 : Heap) (v : Option Value) (h : Heap) : Prop := ∃ r : Addr, v = some (.ref r) ∧ Keep h0 h [] ∧ h0.size ≤ r ∧ AV Z h r .int [(.int (x0.toInt32)), (.int (x1.toInt32))]
abbrev R_rmMake2 : Room := { frames := 0, cells := 1, slots := 2, locals := 0 }
set_option maxRecDepth 65536 in
set_option maxHeartbeats 40000000 in
theorem rmMake2 {l : Launch} {Z : State} {n0 : Nat} {a0 : Array Value} (hw : ∀ d ∈ tables_1, d.before a0 Z = true) (a2 : Addr) (x0 : Int64) (x1 : Int64) (x2 : Int64) (x3 : Int64) (h0 : Heap) (H0 : n0 ≤ h0.size) (H1 : AV Z h0 a2 .long [(.long x0), (.long x1), (.long x2), (.long x3)]) :
    Con l Z n0 (⟨"com/example/divided_duty/dividedduty/policy/RangesOfSortedPinLaw", "make", "(I[J)[I"⟩ : MethodName) method_3_code 2 (some (.array .int)) R_rmMake2 #[(.int (2 : Int32)), (.ref a2)] h0 (Q_rmMake2 Z n0 a2 x0 x1 x2 x3 h0) := by
  refine con_of (plainFor_of_name pn_com_example_divided_duty_dividedduty_policy_RangesOfSortedPinLaw) ?_
  intro p e s m below meth c T0 K X0 e0
  replace K : Ctx p s m meth c Z "com/example/divided_duty/dividedduty/policy/RangesOfSortedPinLaw" "make" method_3_code 2 (some (.array .int)) := K
  refine go_entry (ef_rmMake2 m a2) ?_
  refine go_iloadN K X0 d2_0 rfl rfl ?_
  refine go_ifT K X0 d2_1 (by decide) rfl (by decide : ¬ (2 : Int32) = (0 : Int32)) ?_
  refine go_iloadN K X0 d2_8 rfl rfl ?_
  refine go_iconst K X0 (1 : Int32) d2_9 rfl rfl ?_
  refine go_icmpT K X0 d2_10 (by decide) rfl (by decide : ¬ (2 : Int32) = (1 : Int32)) ?_
  refine go_iloadN K X0 d2_24 rfl rfl ?_
  refine go_iconst K X0 (2 : Int32) d2_25 rfl rfl ?_
  refine go_icmpF K X0 d2_26 rfl (by decide : (2 : Int32) = (2 : Int32)) ?_
  refine go_iconst K X0 (2 : Int32) d2_29 rfl rfl ?_
  refine go_newarray K X0 (wd hw 11 rfl) e0 d2_30 (i := 2) (cap := 2) rfl (by decide) (by decide) rfl (cells' := 1) (slots' := 2) rfl rfl (by decide) (by decide) ?_
  intro T16 h16 b16 g16 X16 e16 E16 A16
  have ga17 : n0 ≤ b16 := Nat.le_trans H0 (Nat.le_of_eq g16.symm)
  have gb18 : h0.size ≤ b16 := Nat.le_trans (Keep.refl h0 []).1 (Nat.le_of_eq g16.symm)
  have kp19 : Keep h0 h16 [] := (Keep.refl h0 []).trans (Keep.ext (Keep.refl _ []) E16) all0
  have f20 : AV Z h16 b16 .int [(.int (0 : Int32)), (.int (0 : Int32))] := A16
  refine go_dup K X16 d2_32 rfl rfl ?_
  refine go_iconst K X16 (0 : Int32) d2_33 rfl rfl ?_
  refine go_aloadN K X16 d2_34 rfl rfl rfl ?_
  refine go_iconst K X16 (0 : Int32) d2_35 rfl rfl ?_
  have f21 : AV Z h16 a2 .long [(.long x0), (.long x1), (.long x2), (.long x3)] := (H1.keep (Keep.ext (Keep.refl _ []) E16) nin0)
  refine go_laload K X16 e16 f21 (i := 0) rfl rfl d2_36 rfl ?_
  refine go_l2i K X16 d2_37 rfl ?_
  refine go_iastore K X16 e16 f20 (i := 0) rfl (Nat.le_of_ble_eq_true rfl) ga17 d2_38 rfl ?_
  intro T22 h22 X22 e22 W22 A22
  have kp23 : Keep h0 h22 [] := kp19.trans (Keep.of_wr W22) (allS (Or.inr gb18) all0)
  have f24 : AV Z h22 b16 .int [(.int (x0.toInt32)), (.int (0 : Int32))] := A22
  refine go_dup K X22 d2_39 rfl rfl ?_
  refine go_iconst K X22 (1 : Int32) d2_40 rfl rfl ?_
  refine go_aloadN K X22 d2_41 rfl rfl rfl ?_
  refine go_iconst K X22 (1 : Int32) d2_42 rfl rfl ?_
  have f25 : AV Z h22 a2 .long [(.long x0), (.long x1), (.long x2), (.long x3)] := (f21.keep (Keep.of_wr W22) (ninS (Nat.ne_of_lt (Nat.lt_of_lt_of_le H1.lt (Nat.le_of_eq g16.symm))) nin0))
  refine go_laload K X22 e22 f25 (i := 1) rfl rfl d2_43 rfl ?_
  refine go_l2i K X22 d2_44 rfl ?_
  refine go_iastore K X22 e22 f24 (i := 1) rfl (Nat.le_of_ble_eq_true rfl) ga17 d2_45 rfl ?_
  intro T26 h26 X26 e26 W26 A26
  have kp27 : Keep h0 h26 [] := kp23.trans (Keep.of_wr W26) (allS (Or.inr gb18) all0)
  have f28 : AV Z h26 b16 .int [(.int (x0.toInt32)), (.int (x1.toInt32))] := A26
  refine go_retA K X26 rfl rfl rfl d2_46 (by decide) (by decide) ?_
  rw [e26]
  exact ⟨b16, rfl, kp27, gb18, f28⟩
theorem d2_47 : decode method_3_code 47 = .ok (.iload_n 0, 1) := by decide +kernel
theorem d2_48 : decode method_3_code 48 = .ok (.iconst 3, 1) := by decide +kernel
theorem d2_49 : decode method_3_code 49 = .ok (.if_icmp .ne 28, 3) := by decide +kernel
theorem d2_52 : decode method_3_code 52 = .ok (.iconst 3, 1) := by decide +kernel
theorem d2_53 : decode method_3_code 53 = .ok (.newarray .int, 2) := by decide +kernel
theorem d2_55 : decode method_3_code 55 = .ok (.dup, 1) := by decide +kernel
theorem d2_56 : decode method_3_code 56 = .ok (.iconst 0, 1) := by decide +kernel
theorem d2_57 : decode method_3_code 57 = .ok (.aload_n 1, 1) := by decide +kernel
theorem d2_58 : decode method_3_code 58 = .ok (.iconst 0, 1) := by decide +kernel
theorem d2_59 : decode method_3_code 59 = .ok (.laload, 1) := by decide +kernel
theorem d2_60 : decode method_3_code 60 = .ok (.l2i, 1) := by decide +kernel
theorem d2_61 : decode method_3_code 61 = .ok (.iastore, 1) := by decide +kernel
theorem d2_62 : decode method_3_code 62 = .ok (.dup, 1) := by decide +kernel
theorem d2_63 : decode method_3_code 63 = .ok (.iconst 1, 1) := by decide +kernel
theorem d2_64 : decode method_3_code 64 = .ok (.aload_n 1, 1) := by decide +kernel
theorem d2_65 : decode method_3_code 65 = .ok (.iconst 1, 1) := by decide +kernel
theorem d2_66 : decode method_3_code 66 = .ok (.laload, 1) := by decide +kernel
theorem d2_67 : decode method_3_code 67 = .ok (.l2i, 1) := by decide +kernel
theorem d2_68 : decode method_3_code 68 = .ok (.iastore, 1) := by decide +kernel
theorem d2_69 : decode method_3_code 69 = .ok (.dup, 1) := by decide +kernel
theorem d2_70 : decode method_3_code 70 = .ok (.iconst 2, 1) := by decide +kernel
theorem d2_71 : decode method_3_code 71 = .ok (.aload_n 1, 1) := by decide +kernel
theorem d2_72 : decode method_3_code 72 = .ok (.iconst 2, 1) := by decide +kernel
theorem d2_73 : decode method_3_code 73 = .ok (.laload, 1) := by decide +kernel
theorem d2_74 : decode method_3_code 74 = .ok (.l2i, 1) := by decide +kernel
theorem d2_75 : decode method_3_code 75 = .ok (.iastore, 1) := by decide +kernel
theorem d2_76 : decode method_3_code 76 = .ok (.areturn, 1) := by decide +kernel
theorem ef_rmMake3 (m : MethodId) (a2 : Addr) : entryFrame m #[(.int (3 : Int32)), (.ref a2)] 2 = mkF m 0 #[.val (.int (3 : Int32)), .val (.ref a2)] [] := by first | (simp [entryFrame, mkF, argsToLocals, Value.category]; done) | rfl
def Q_rmMake3 (Z : State) (n0 : Nat) (a2 : Addr) (x0 : Int64) (x1 : Int64) (x2 : Int64) (x3 : Int64) (h0 : Heap) (v : Option Value) (h : Heap) : Prop := ∃ r : Addr, v = some (.ref r) ∧ Keep h0 h [] ∧ h0.size ≤ r ∧ AV Z h r .int [(.int (x0.toInt32)), (.int (x1.toInt32)), (.int (x2.toInt32))]
abbrev R_rmMake3 : Room := { frames := 0, cells := 1, slots := 3, locals := 0 }
set_option maxRecDepth 65536 in
set_option maxHeartbeats 40000000 in
theorem rmMake3 {l : Launch} {Z : State} {n0 : Nat} {a0 : Array Value} (hw : ∀ d ∈ tables_1, d.before a0 Z = true) (a2 : Addr) (x0 : Int64) (x1 : Int64) (x2 : Int64) (x3 : Int64) (h0 : Heap) (H0 : n0 ≤ h0.size) (H1 : AV Z h0 a2 .long [(.long x0), (.long x1), (.long x2), (.long x3)]) :
    Con l Z n0 (⟨"com/example/divided_duty/dividedduty/policy/RangesOfSortedPinLaw", "make", "(I[J)[I"⟩ : MethodName) method_3_code 2 (some (.array .int)) R_rmMake3 #[(.int (3 : Int32)), (.ref a2)] h0 (Q_rmMake3 Z n0 a2 x0 x1 x2 x3 h0) := by
  refine con_of (plainFor_of_name pn_com_example_divided_duty_dividedduty_policy_RangesOfSortedPinLaw) ?_
  intro p e s m below meth c T0 K X0 e0
  replace K : Ctx p s m meth c Z "com/example/divided_duty/dividedduty/policy/RangesOfSortedPinLaw" "make" method_3_code 2 (some (.array .int)) := K
  refine go_entry (ef_rmMake3 m a2) ?_
  refine go_iloadN K X0 d2_0 rfl rfl ?_
  refine go_ifT K X0 d2_1 (by decide) rfl (by decide : ¬ (3 : Int32) = (0 : Int32)) ?_
  refine go_iloadN K X0 d2_8 rfl rfl ?_
  refine go_iconst K X0 (1 : Int32) d2_9 rfl rfl ?_
  refine go_icmpT K X0 d2_10 (by decide) rfl (by decide : ¬ (3 : Int32) = (1 : Int32)) ?_
  refine go_iloadN K X0 d2_24 rfl rfl ?_
  refine go_iconst K X0 (2 : Int32) d2_25 rfl rfl ?_
  refine go_icmpT K X0 d2_26 (by decide) rfl (by decide : ¬ (3 : Int32) = (2 : Int32)) ?_
  refine go_iloadN K X0 d2_47 rfl rfl ?_
  refine go_iconst K X0 (3 : Int32) d2_48 rfl rfl ?_
  refine go_icmpF K X0 d2_49 rfl (by decide : (3 : Int32) = (3 : Int32)) ?_
  refine go_iconst K X0 (3 : Int32) d2_52 rfl rfl ?_
  refine go_newarray K X0 (wd hw 11 rfl) e0 d2_53 (i := 3) (cap := 3) rfl (by decide) (by decide) rfl (cells' := 1) (slots' := 3) rfl rfl (by decide) (by decide) ?_
  intro T29 h29 b29 g29 X29 e29 E29 A29
  have ga30 : n0 ≤ b29 := Nat.le_trans H0 (Nat.le_of_eq g29.symm)
  have gb31 : h0.size ≤ b29 := Nat.le_trans (Keep.refl h0 []).1 (Nat.le_of_eq g29.symm)
  have kp32 : Keep h0 h29 [] := (Keep.refl h0 []).trans (Keep.ext (Keep.refl _ []) E29) all0
  have f33 : AV Z h29 b29 .int [(.int (0 : Int32)), (.int (0 : Int32)), (.int (0 : Int32))] := A29
  refine go_dup K X29 d2_55 rfl rfl ?_
  refine go_iconst K X29 (0 : Int32) d2_56 rfl rfl ?_
  refine go_aloadN K X29 d2_57 rfl rfl rfl ?_
  refine go_iconst K X29 (0 : Int32) d2_58 rfl rfl ?_
  have f34 : AV Z h29 a2 .long [(.long x0), (.long x1), (.long x2), (.long x3)] := (H1.keep (Keep.ext (Keep.refl _ []) E29) nin0)
  refine go_laload K X29 e29 f34 (i := 0) rfl rfl d2_59 rfl ?_
  refine go_l2i K X29 d2_60 rfl ?_
  refine go_iastore K X29 e29 f33 (i := 0) rfl (Nat.le_of_ble_eq_true rfl) ga30 d2_61 rfl ?_
  intro T35 h35 X35 e35 W35 A35
  have kp36 : Keep h0 h35 [] := kp32.trans (Keep.of_wr W35) (allS (Or.inr gb31) all0)
  have f37 : AV Z h35 b29 .int [(.int (x0.toInt32)), (.int (0 : Int32)), (.int (0 : Int32))] := A35
  refine go_dup K X35 d2_62 rfl rfl ?_
  refine go_iconst K X35 (1 : Int32) d2_63 rfl rfl ?_
  refine go_aloadN K X35 d2_64 rfl rfl rfl ?_
  refine go_iconst K X35 (1 : Int32) d2_65 rfl rfl ?_
  have f38 : AV Z h35 a2 .long [(.long x0), (.long x1), (.long x2), (.long x3)] := (f34.keep (Keep.of_wr W35) (ninS (Nat.ne_of_lt (Nat.lt_of_lt_of_le H1.lt (Nat.le_of_eq g29.symm))) nin0))
  refine go_laload K X35 e35 f38 (i := 1) rfl rfl d2_66 rfl ?_
  refine go_l2i K X35 d2_67 rfl ?_
  refine go_iastore K X35 e35 f37 (i := 1) rfl (Nat.le_of_ble_eq_true rfl) ga30 d2_68 rfl ?_
  intro T39 h39 X39 e39 W39 A39
  have kp40 : Keep h0 h39 [] := kp36.trans (Keep.of_wr W39) (allS (Or.inr gb31) all0)
  have f41 : AV Z h39 b29 .int [(.int (x0.toInt32)), (.int (x1.toInt32)), (.int (0 : Int32))] := A39
  refine go_dup K X39 d2_69 rfl rfl ?_
  refine go_iconst K X39 (2 : Int32) d2_70 rfl rfl ?_
  refine go_aloadN K X39 d2_71 rfl rfl rfl ?_
  refine go_iconst K X39 (2 : Int32) d2_72 rfl rfl ?_
  have f42 : AV Z h39 a2 .long [(.long x0), (.long x1), (.long x2), (.long x3)] := (f38.keep (Keep.of_wr W39) (ninS (Nat.ne_of_lt (Nat.lt_of_lt_of_le H1.lt (Nat.le_of_eq g29.symm))) nin0))
  refine go_laload K X39 e39 f42 (i := 2) rfl rfl d2_73 rfl ?_
  refine go_l2i K X39 d2_74 rfl ?_
  refine go_iastore K X39 e39 f41 (i := 2) rfl (Nat.le_of_ble_eq_true rfl) ga30 d2_75 rfl ?_
  intro T43 h43 X43 e43 W43 A43
  have kp44 : Keep h0 h43 [] := kp40.trans (Keep.of_wr W43) (allS (Or.inr gb31) all0)
  have f45 : AV Z h43 b29 .int [(.int (x0.toInt32)), (.int (x1.toInt32)), (.int (x2.toInt32))] := A43
  refine go_retA K X43 rfl rfl rfl d2_76 (by decide) (by decide) ?_
  rw [e43]
  exact ⟨b29, rfl, kp44, gb31, f45⟩
theorem d2_77 : decode method_3_code 77 = .ok (.iconst 4, 1) := by decide +kernel
theorem d2_78 : decode method_3_code 78 = .ok (.newarray .int, 2) := by decide +kernel
theorem d2_80 : decode method_3_code 80 = .ok (.dup, 1) := by decide +kernel
theorem d2_81 : decode method_3_code 81 = .ok (.iconst 0, 1) := by decide +kernel
theorem d2_82 : decode method_3_code 82 = .ok (.aload_n 1, 1) := by decide +kernel
theorem d2_83 : decode method_3_code 83 = .ok (.iconst 0, 1) := by decide +kernel
theorem d2_84 : decode method_3_code 84 = .ok (.laload, 1) := by decide +kernel
theorem d2_85 : decode method_3_code 85 = .ok (.l2i, 1) := by decide +kernel
theorem d2_86 : decode method_3_code 86 = .ok (.iastore, 1) := by decide +kernel
theorem d2_87 : decode method_3_code 87 = .ok (.dup, 1) := by decide +kernel
theorem d2_88 : decode method_3_code 88 = .ok (.iconst 1, 1) := by decide +kernel
theorem d2_89 : decode method_3_code 89 = .ok (.aload_n 1, 1) := by decide +kernel
theorem d2_90 : decode method_3_code 90 = .ok (.iconst 1, 1) := by decide +kernel
theorem d2_91 : decode method_3_code 91 = .ok (.laload, 1) := by decide +kernel
theorem d2_92 : decode method_3_code 92 = .ok (.l2i, 1) := by decide +kernel
theorem d2_93 : decode method_3_code 93 = .ok (.iastore, 1) := by decide +kernel
theorem d2_94 : decode method_3_code 94 = .ok (.dup, 1) := by decide +kernel
theorem d2_95 : decode method_3_code 95 = .ok (.iconst 2, 1) := by decide +kernel
theorem d2_96 : decode method_3_code 96 = .ok (.aload_n 1, 1) := by decide +kernel
theorem d2_97 : decode method_3_code 97 = .ok (.iconst 2, 1) := by decide +kernel
theorem d2_98 : decode method_3_code 98 = .ok (.laload, 1) := by decide +kernel
theorem d2_99 : decode method_3_code 99 = .ok (.l2i, 1) := by decide +kernel
theorem d2_100 : decode method_3_code 100 = .ok (.iastore, 1) := by decide +kernel
theorem d2_101 : decode method_3_code 101 = .ok (.dup, 1) := by decide +kernel
theorem d2_102 : decode method_3_code 102 = .ok (.iconst 3, 1) := by decide +kernel
theorem d2_103 : decode method_3_code 103 = .ok (.aload_n 1, 1) := by decide +kernel
theorem d2_104 : decode method_3_code 104 = .ok (.iconst 3, 1) := by decide +kernel
theorem d2_105 : decode method_3_code 105 = .ok (.laload, 1) := by decide +kernel
theorem d2_106 : decode method_3_code 106 = .ok (.l2i, 1) := by decide +kernel
theorem d2_107 : decode method_3_code 107 = .ok (.iastore, 1) := by decide +kernel
theorem d2_108 : decode method_3_code 108 = .ok (.areturn, 1) := by decide +kernel
theorem ef_rmMake4 (m : MethodId) (a2 : Addr) : entryFrame m #[(.int (4 : Int32)), (.ref a2)] 2 = mkF m 0 #[.val (.int (4 : Int32)), .val (.ref a2)] [] := by first | (simp [entryFrame, mkF, argsToLocals, Value.category]; done) | rfl
def Q_rmMake4 (Z : State) (n0 : Nat) (a2 : Addr) (x0 : Int64) (x1 : Int64) (x2 : Int64) (x3 : Int64) (h0 : Heap) (v : Option Value) (h : Heap) : Prop := ∃ r : Addr, v = some (.ref r) ∧ Keep h0 h [] ∧ h0.size ≤ r ∧ AV Z h r .int [(.int (x0.toInt32)), (.int (x1.toInt32)), (.int (x2.toInt32)), (.int (x3.toInt32))]
abbrev R_rmMake4 : Room := { frames := 0, cells := 1, slots := 4, locals := 0 }
set_option maxRecDepth 65536 in
set_option maxHeartbeats 40000000 in
theorem rmMake4 {l : Launch} {Z : State} {n0 : Nat} {a0 : Array Value} (hw : ∀ d ∈ tables_1, d.before a0 Z = true) (a2 : Addr) (x0 : Int64) (x1 : Int64) (x2 : Int64) (x3 : Int64) (h0 : Heap) (H0 : n0 ≤ h0.size) (H1 : AV Z h0 a2 .long [(.long x0), (.long x1), (.long x2), (.long x3)]) :
    Con l Z n0 (⟨"com/example/divided_duty/dividedduty/policy/RangesOfSortedPinLaw", "make", "(I[J)[I"⟩ : MethodName) method_3_code 2 (some (.array .int)) R_rmMake4 #[(.int (4 : Int32)), (.ref a2)] h0 (Q_rmMake4 Z n0 a2 x0 x1 x2 x3 h0) := by
  refine con_of (plainFor_of_name pn_com_example_divided_duty_dividedduty_policy_RangesOfSortedPinLaw) ?_
  intro p e s m below meth c T0 K X0 e0
  replace K : Ctx p s m meth c Z "com/example/divided_duty/dividedduty/policy/RangesOfSortedPinLaw" "make" method_3_code 2 (some (.array .int)) := K
  refine go_entry (ef_rmMake4 m a2) ?_
  refine go_iloadN K X0 d2_0 rfl rfl ?_
  refine go_ifT K X0 d2_1 (by decide) rfl (by decide : ¬ (4 : Int32) = (0 : Int32)) ?_
  refine go_iloadN K X0 d2_8 rfl rfl ?_
  refine go_iconst K X0 (1 : Int32) d2_9 rfl rfl ?_
  refine go_icmpT K X0 d2_10 (by decide) rfl (by decide : ¬ (4 : Int32) = (1 : Int32)) ?_
  refine go_iloadN K X0 d2_24 rfl rfl ?_
  refine go_iconst K X0 (2 : Int32) d2_25 rfl rfl ?_
  refine go_icmpT K X0 d2_26 (by decide) rfl (by decide : ¬ (4 : Int32) = (2 : Int32)) ?_
  refine go_iloadN K X0 d2_47 rfl rfl ?_
  refine go_iconst K X0 (3 : Int32) d2_48 rfl rfl ?_
  refine go_icmpT K X0 d2_49 (by decide) rfl (by decide : ¬ (4 : Int32) = (3 : Int32)) ?_
  refine go_iconst K X0 (4 : Int32) d2_77 rfl rfl ?_
  refine go_newarray K X0 (wd hw 11 rfl) e0 d2_78 (i := 4) (cap := 4) rfl (by decide) (by decide) rfl (cells' := 1) (slots' := 4) rfl rfl (by decide) (by decide) ?_
  intro T46 h46 b46 g46 X46 e46 E46 A46
  have ga47 : n0 ≤ b46 := Nat.le_trans H0 (Nat.le_of_eq g46.symm)
  have gb48 : h0.size ≤ b46 := Nat.le_trans (Keep.refl h0 []).1 (Nat.le_of_eq g46.symm)
  have kp49 : Keep h0 h46 [] := (Keep.refl h0 []).trans (Keep.ext (Keep.refl _ []) E46) all0
  have f50 : AV Z h46 b46 .int [(.int (0 : Int32)), (.int (0 : Int32)), (.int (0 : Int32)), (.int (0 : Int32))] := A46
  refine go_dup K X46 d2_80 rfl rfl ?_
  refine go_iconst K X46 (0 : Int32) d2_81 rfl rfl ?_
  refine go_aloadN K X46 d2_82 rfl rfl rfl ?_
  refine go_iconst K X46 (0 : Int32) d2_83 rfl rfl ?_
  have f51 : AV Z h46 a2 .long [(.long x0), (.long x1), (.long x2), (.long x3)] := (H1.keep (Keep.ext (Keep.refl _ []) E46) nin0)
  refine go_laload K X46 e46 f51 (i := 0) rfl rfl d2_84 rfl ?_
  refine go_l2i K X46 d2_85 rfl ?_
  refine go_iastore K X46 e46 f50 (i := 0) rfl (Nat.le_of_ble_eq_true rfl) ga47 d2_86 rfl ?_
  intro T52 h52 X52 e52 W52 A52
  have kp53 : Keep h0 h52 [] := kp49.trans (Keep.of_wr W52) (allS (Or.inr gb48) all0)
  have f54 : AV Z h52 b46 .int [(.int (x0.toInt32)), (.int (0 : Int32)), (.int (0 : Int32)), (.int (0 : Int32))] := A52
  refine go_dup K X52 d2_87 rfl rfl ?_
  refine go_iconst K X52 (1 : Int32) d2_88 rfl rfl ?_
  refine go_aloadN K X52 d2_89 rfl rfl rfl ?_
  refine go_iconst K X52 (1 : Int32) d2_90 rfl rfl ?_
  have f55 : AV Z h52 a2 .long [(.long x0), (.long x1), (.long x2), (.long x3)] := (f51.keep (Keep.of_wr W52) (ninS (Nat.ne_of_lt (Nat.lt_of_lt_of_le H1.lt (Nat.le_of_eq g46.symm))) nin0))
  refine go_laload K X52 e52 f55 (i := 1) rfl rfl d2_91 rfl ?_
  refine go_l2i K X52 d2_92 rfl ?_
  refine go_iastore K X52 e52 f54 (i := 1) rfl (Nat.le_of_ble_eq_true rfl) ga47 d2_93 rfl ?_
  intro T56 h56 X56 e56 W56 A56
  have kp57 : Keep h0 h56 [] := kp53.trans (Keep.of_wr W56) (allS (Or.inr gb48) all0)
  have f58 : AV Z h56 b46 .int [(.int (x0.toInt32)), (.int (x1.toInt32)), (.int (0 : Int32)), (.int (0 : Int32))] := A56
  refine go_dup K X56 d2_94 rfl rfl ?_
  refine go_iconst K X56 (2 : Int32) d2_95 rfl rfl ?_
  refine go_aloadN K X56 d2_96 rfl rfl rfl ?_
  refine go_iconst K X56 (2 : Int32) d2_97 rfl rfl ?_
  have f59 : AV Z h56 a2 .long [(.long x0), (.long x1), (.long x2), (.long x3)] := (f55.keep (Keep.of_wr W56) (ninS (Nat.ne_of_lt (Nat.lt_of_lt_of_le H1.lt (Nat.le_of_eq g46.symm))) nin0))
  refine go_laload K X56 e56 f59 (i := 2) rfl rfl d2_98 rfl ?_
  refine go_l2i K X56 d2_99 rfl ?_
  refine go_iastore K X56 e56 f58 (i := 2) rfl (Nat.le_of_ble_eq_true rfl) ga47 d2_100 rfl ?_
  intro T60 h60 X60 e60 W60 A60
  have kp61 : Keep h0 h60 [] := kp57.trans (Keep.of_wr W60) (allS (Or.inr gb48) all0)
  have f62 : AV Z h60 b46 .int [(.int (x0.toInt32)), (.int (x1.toInt32)), (.int (x2.toInt32)), (.int (0 : Int32))] := A60
  refine go_dup K X60 d2_101 rfl rfl ?_
  refine go_iconst K X60 (3 : Int32) d2_102 rfl rfl ?_
  refine go_aloadN K X60 d2_103 rfl rfl rfl ?_
  refine go_iconst K X60 (3 : Int32) d2_104 rfl rfl ?_
  have f63 : AV Z h60 a2 .long [(.long x0), (.long x1), (.long x2), (.long x3)] := (f59.keep (Keep.of_wr W60) (ninS (Nat.ne_of_lt (Nat.lt_of_lt_of_le H1.lt (Nat.le_of_eq g46.symm))) nin0))
  refine go_laload K X60 e60 f63 (i := 3) rfl rfl d2_105 rfl ?_
  refine go_l2i K X60 d2_106 rfl ?_
  refine go_iastore K X60 e60 f62 (i := 3) rfl (Nat.le_of_ble_eq_true rfl) ga47 d2_107 rfl ?_
  intro T64 h64 X64 e64 W64 A64
  have kp65 : Keep h0 h64 [] := kp61.trans (Keep.of_wr W64) (allS (Or.inr gb48) all0)
  have f66 : AV Z h64 b46 .int [(.int (x0.toInt32)), (.int (x1.toInt32)), (.int (x2.toInt32)), (.int (x3.toInt32))] := A64
  refine go_retA K X64 rfl rfl rfl d2_108 (by decide) (by decide) ?_
  rw [e64]
  exact ⟨b46, rfl, kp65, gb48, f66⟩
theorem d8_0 : decode jdk_29_method_69_code 0 = .ok (.iload_n 0, 1) := by decide +kernel
theorem d8_1 : decode jdk_29_method_69_code 1 = .ok (.iload_n 1, 1) := by decide +kernel
theorem d8_2 : decode jdk_29_method_69_code 2 = .ok (.if_icmp .gt 7, 3) := by decide +kernel
theorem d8_9 : decode jdk_29_method_69_code 9 = .ok (.iload_n 1, 1) := by decide +kernel
theorem d8_10 : decode jdk_29_method_69_code 10 = .ok (.ireturn, 1) := by decide +kernel
theorem d8_5 : decode jdk_29_method_69_code 5 = .ok (.iload_n 0, 1) := by decide +kernel
theorem d8_6 : decode jdk_29_method_69_code 6 = .ok (.goto 4, 3) := by decide +kernel
theorem ef_rmMin (m : MethodId) (p1 : Int32) (p2 : Int32) : entryFrame m #[(.int p1), (.int p2)] 2 = mkF m 0 #[.val (.int p1), .val (.int p2)] [] := by first | (simp [entryFrame, mkF, argsToLocals, Value.category]; done) | rfl
def Q_rmMin (Z : State) (n0 : Nat) (p1 : Int32) (p2 : Int32) (h0 : Heap) (v : Option Value) (h : Heap) : Prop := v = some (.int (own_min p1 p2)) ∧ h = h0
abbrev R_rmMin : Room := { frames := 0, cells := 0, slots := 0, locals := 0 }
set_option maxRecDepth 65536 in
set_option maxHeartbeats 40000000 in
theorem rmMin {l : Launch} {Z : State} {n0 : Nat} {a0 : Array Value} (hw : ∀ d ∈ tables_1, d.before a0 Z = true) (p1 : Int32) (p2 : Int32) (h0 : Heap) :
    Con l Z n0 (⟨"java/lang/Math", "min", "(II)I"⟩ : MethodName) jdk_29_method_69_code 2 (some .int) R_rmMin #[(.int p1), (.int p2)] h0 (Q_rmMin Z n0 p1 p2 h0) := by
  refine con_of (Jvm.Free.JP.mathPlain rfl (by decide +kernel)) ?_
  intro p e s m below meth c T0 K X0 e0
  replace K : Ctx p s m meth c Z "java/lang/Math" "min" jdk_29_method_69_code 2 (some .int) := K
  refine go_entry (ef_rmMin m p1 p2) ?_
  refine go_iloadN K X0 d8_0 rfl rfl ?_
  refine go_iloadN K X0 d8_1 rfl rfl ?_
  refine go_icmp K X0 d8_2 (by decide) rfl rfl ?_ ?_
  · intro (hc67 : p2 < p1)
    refine go_iloadN K X0 d8_9 rfl rfl ?_
    refine go_retI K X0 d8_10 (by decide) (by decide) ?_
    rw [e0]
    exact ⟨(by simp [own_min, hc67]), rfl⟩
  · intro (hc67 : ¬ p2 < p1)
    refine go_iloadN K X0 d8_5 rfl rfl ?_
    refine go_goto K X0 d8_6 (by decide) rfl ?_
    refine go_retI K X0 d8_10 (by decide) (by decide) ?_
    rw [e0]
    exact ⟨(by simp [own_min, hc67]), rfl⟩
theorem d4_0 : decode jdk_65_method_123_code 0 = .ok (.iload_n 1, 1) := by decide +kernel
theorem d4_1 : decode jdk_65_method_123_code 1 = .ok (.aload_n 0, 1) := by decide +kernel
theorem d4_2 : decode jdk_65_method_123_code 2 = .ok (.arraylength, 1) := by decide +kernel
theorem d4_3 : decode jdk_65_method_123_code 3 = .ok (.if_icmp .ne 11, 3) := by decide +kernel
theorem d4_6 : decode jdk_65_method_123_code 6 = .ok (.aload_n 0, 1) := by decide +kernel
theorem d4_7 : decode jdk_65_method_123_code 7 = .ok (.invokevirtual 316, 3) := by decide +kernel
theorem d4_10 : decode jdk_65_method_123_code 10 = .ok (.checkcast 317, 3) := by decide +kernel
theorem d4_13 : decode jdk_65_method_123_code 13 = .ok (.areturn, 1) := by decide +kernel
theorem pn_java_util_Arrays : plainName "java/util/Arrays" = true := by first | (simp [plainName, overriddenIn]; done) | decide +kernel
theorem ef_rmCopyEq (m : MethodId) (a1 : Addr) (p2 : Int32) : entryFrame m #[(.ref a1), (.int p2)] 3 = mkF m 0 #[.val (.ref a1), .val (.int p2), .unset] [] := by first | (simp [entryFrame, mkF, argsToLocals, Value.category]; done) | rfl
def Q_rmCopyEq (Z : State) (n0 : Nat) (a1 : Addr) (p2 : Int32) (vs : List Value) (h0 : Heap) (v : Option Value) (h : Heap) : Prop := ∃ r : Addr, v = some (.ref r) ∧ Keep h0 h [] ∧ h0.size ≤ r ∧ AV Z h r .int vs
abbrev R_rmCopyEq : Room := { frames := 1, cells := 1, slots := 8, locals := 14 }
set_option maxRecDepth 65536 in
set_option maxHeartbeats 40000000 in
theorem rmCopyEq {l : Launch} {Z : State} {n0 : Nat} {a0 : Array Value} (hw : ∀ d ∈ tables_1, d.before a0 Z = true) (a1 : Addr) (p2 : Int32) (vs : List Value) (h0 : Heap) (H0 : n0 ≤ h0.size) (H1 : Exa Z h0 a1 "[I") (H2 : AV Z h0 a1 .int vs) (H3 : vs.length.toInt32 = p2) (H4 : vs.length ≤ 8) (H5 : ∀ v ∈ vs, fits .int v = true) :
    Con l Z n0 (⟨"java/util/Arrays", "copyOf", "([II)[I"⟩ : MethodName) jdk_65_method_123_code 3 (some (.array .int)) R_rmCopyEq #[(.ref a1), (.int p2)] h0 (Q_rmCopyEq Z n0 a1 p2 vs h0) := by
  refine con_of (plainFor_of_name pn_java_util_Arrays) ?_
  intro p e s m below meth c T0 K X0 e0
  replace K : Ctx p s m meth c Z "java/util/Arrays" "copyOf" jdk_65_method_123_code 3 (some (.array .int)) := K
  refine go_entry (ef_rmCopyEq m a1 p2) ?_
  refine go_iloadN K X0 d4_0 rfl rfl ?_
  refine go_aloadN K X0 d4_1 rfl rfl rfl ?_
  refine go_arraylength K X0 e0 H2 (z := p2) H3 d4_2 rfl ?_
  refine go_icmpF K X0 d4_3 rfl (rfl : p2 = p2) ?_
  refine go_aloadN K X0 d4_6 rfl rfl rfl ?_
  refine go_clone K X0 (wd hw 22 rfl) (wd hw 23 rfl) (wd hw 27 rfl) (wd hw 25 rfl) (wd hw 26 rfl) (wd hw 28 rfl) e0 H2 H1 H5 rfl d4_7 rfl (by decide) (W := 0) (Nat.le_of_eq rfl) (by decide) (cap := 8) H4 (cells' := 1) (slots' := 8) rfl rfl (by decide) (by decide) ?_
  intro T90 h90 b90 g90 X90 e90 E90 A90 C90
  have ga68 : n0 ≤ b90 := Nat.le_trans H0 (Nat.le_of_eq g90.symm)
  have gb69 : h0.size ≤ b90 := Nat.le_trans (Keep.refl h0 []).1 (Nat.le_of_eq g90.symm)
  have kp70 : Keep h0 h90 [] := (Keep.refl h0 []).trans (Keep.ext (Keep.refl _ []) E90) all0
  refine go_cast K X90 (wd hw 29 rfl) e90 (Ins.self C90) d4_10 rfl ?_
  intro T71 X71 e71
  refine go_retA K X71 rfl rfl rfl d4_13 (by decide) (by decide) ?_
  rw [e71]
  exact ⟨b90, rfl, kp70, gb69, A90⟩
theorem d4_14 : decode jdk_65_method_123_code 14 = .ok (.iload_n 1, 1) := by decide +kernel
theorem d4_15 : decode jdk_65_method_123_code 15 = .ok (.newarray .int, 2) := by decide +kernel
theorem d4_17 : decode jdk_65_method_123_code 17 = .ok (.astore_n 2, 1) := by decide +kernel
theorem d4_18 : decode jdk_65_method_123_code 18 = .ok (.aload_n 0, 1) := by decide +kernel
theorem d4_19 : decode jdk_65_method_123_code 19 = .ok (.iconst 0, 1) := by decide +kernel
theorem d4_20 : decode jdk_65_method_123_code 20 = .ok (.aload_n 2, 1) := by decide +kernel
theorem d4_21 : decode jdk_65_method_123_code 21 = .ok (.iconst 0, 1) := by decide +kernel
theorem d4_22 : decode jdk_65_method_123_code 22 = .ok (.aload_n 0, 1) := by decide +kernel
theorem d4_23 : decode jdk_65_method_123_code 23 = .ok (.arraylength, 1) := by decide +kernel
theorem d4_24 : decode jdk_65_method_123_code 24 = .ok (.iload_n 1, 1) := by decide +kernel
theorem d4_25 : decode jdk_65_method_123_code 25 = .ok (.invokestatic 304, 3) := by decide +kernel
theorem pd_0 : parseMethodDescriptor "(II)I" = some ⟨[.int, .int], some .int⟩ := by decide +kernel
theorem d4_28 : decode jdk_65_method_123_code 28 = .ok (.invokestatic 150, 3) := by decide +kernel
theorem d4_31 : decode jdk_65_method_123_code 31 = .ok (.aload_n 2, 1) := by decide +kernel
theorem d4_32 : decode jdk_65_method_123_code 32 = .ok (.areturn, 1) := by decide +kernel
theorem ef_rmCopyLt (m : MethodId) (a1 : Addr) (p2 : Int32) : entryFrame m #[(.ref a1), (.int p2)] 3 = mkF m 0 #[.val (.ref a1), .val (.int p2), .unset] [] := by first | (simp [entryFrame, mkF, argsToLocals, Value.category]; done) | rfl
def Q_rmCopyLt (Z : State) (n0 : Nat) (a1 : Addr) (p2 : Int32) (vs : List Value) (k : Nat) (h0 : Heap) (v : Option Value) (h : Heap) : Prop := ∃ r : Addr, v = some (.ref r) ∧ Keep h0 h [] ∧ h0.size ≤ r ∧ AV Z h r .int (vs.take k)
abbrev R_rmCopyLt : Room := { frames := 1, cells := 1, slots := 8, locals := 18 }
set_option maxRecDepth 65536 in
set_option maxHeartbeats 40000000 in
theorem rmCopyLt {l : Launch} {Z : State} {n0 : Nat} {a0 : Array Value} (hw : ∀ d ∈ tables_1, d.before a0 Z = true) (a1 : Addr) (p2 : Int32) (vs : List Value) (k : Nat) (h0 : Heap) (H0 : n0 ≤ h0.size) (H1 : AV Z h0 a1 .int vs) (H2 : p2.toInt = (k : Int)) (H3 : k < vs.length) (H4 : vs.length ≤ 8) (H5 : ∀ v ∈ vs, fits .int v = true) :
    Con l Z n0 (⟨"java/util/Arrays", "copyOf", "([II)[I"⟩ : MethodName) jdk_65_method_123_code 3 (some (.array .int)) R_rmCopyLt #[(.ref a1), (.int p2)] h0 (Q_rmCopyLt Z n0 a1 p2 vs k h0) := by
  refine con_of (plainFor_of_name pn_java_util_Arrays) ?_
  intro p e s m below meth c T0 K X0 e0
  replace K : Ctx p s m meth c Z "java/util/Arrays" "copyOf" jdk_65_method_123_code 3 (some (.array .int)) := K
  refine go_entry (ef_rmCopyLt m a1 p2) ?_
  refine go_iloadN K X0 d4_0 rfl rfl ?_
  refine go_aloadN K X0 d4_1 rfl rfl rfl ?_
  refine go_arraylength K X0 e0 H1 (z := vs.length.toInt32) rfl d4_2 rfl ?_
  refine go_icmpT K X0 d4_3 (by decide) rfl (own_ne_len H2 H3 H4 : ¬ p2 = vs.length.toInt32) ?_
  refine go_iloadN K X0 d4_14 rfl rfl ?_
  refine go_newarray K X0 (wd hw 11 rfl) e0 d4_15 (i := k) (cap := 8) H2 (by omega) (by decide) rfl (cells' := 1) (slots' := 8) rfl rfl (by decide) (by decide) ?_
  intro T72 h72 b72 g72 X72 e72 E72 A72
  have ga73 : n0 ≤ b72 := Nat.le_trans H0 (Nat.le_of_eq g72.symm)
  have gb74 : h0.size ≤ b72 := Nat.le_trans (Keep.refl h0 []).1 (Nat.le_of_eq g72.symm)
  have kp75 : Keep h0 h72 [] := (Keep.refl h0 []).trans (Keep.ext (Keep.refl _ []) E72) all0
  have f76 : AV Z h72 b72 .int (List.replicate k (.int (0 : Int32))) := A72
  refine go_astoreN K X72 #[.val (.ref a1), .val (.int p2), .val (.ref b72)] d4_17 rfl rfl rfl ?_
  refine go_aloadN K X72 d4_18 rfl rfl rfl ?_
  refine go_iconst K X72 (0 : Int32) d4_19 rfl rfl ?_
  refine go_aloadN K X72 d4_20 rfl rfl rfl ?_
  refine go_iconst K X72 (0 : Int32) d4_21 rfl rfl ?_
  refine go_aloadN K X72 d4_22 rfl rfl rfl ?_
  have f77 : AV Z h72 a1 .int vs := (H1.keep (Keep.ext (Keep.refl _ []) E72) nin0)
  refine go_arraylength K X72 e72 f77 (z := vs.length.toInt32) rfl d4_23 rfl ?_
  refine go_iloadN K X72 d4_24 rfl rfl ?_
  refine go_static K X72 (argsL := [(.int vs.length.toInt32), (.int p2)]) (stk := [(.int (0 : Int32)), (.ref b72), (.int (0 : Int32)), (.ref a1)]) (wd hw 45 rfl) (wd hw 46 rfl) (wd hw 47 rfl) (wd hw 48 rfl) (by decide) (lenOf pd_0 rfl) e72 (rmMin hw vs.length.toInt32 p2 h72 ) rfl rfl d4_25 rfl (by decide) (W := 4) (Nat.le_of_eq rfl) (by decide) (cells' := 1) (slots' := 8) rfl rfl (by decide) (by decide) ?_
  rintro T78 h78 _ X78 e78 ⟨rfl, qe78⟩
  show Go _ _ _ _ _ _ _ (T78.setTop (mkF m 28 #[.val (.ref a1), .val (.int p2), .val (.ref b72)] [(.int (own_min vs.length.toInt32 p2)), (.int (0 : Int32)), (.ref b72), (.int (0 : Int32)), (.ref a1)]))
  replace e78 := e78.trans qe78
  rw [own_min_len H2 H3 H4]
  refine go_arraycopy K X78 (wd hw 49 rfl) (wd hw 52 rfl) (wd hw 50 rfl) (wd hw 51 rfl) e78 (us := vs.take k) f77 f76 rfl H5 (own_fit_rep k) (i := 0) (j := 0) (n := k) rfl rfl H2 (by omega) (by simp) (by simp) ga73 rfl d4_28 rfl (by decide) (W := 0) (Nat.le_of_eq rfl) (by decide) ?_
  intro T91 h91 X91 e91 K91 A91
  have kp79 : Keep h0 h91 [] := kp75.trans K91 (allS (Or.inr gb74) all0)
  refine go_aloadN K X91 d4_31 rfl rfl rfl ?_
  refine go_retA K X91 rfl rfl rfl d4_32 (by decide) (by decide) ?_
  rw [e91]
  exact ⟨b72, rfl, kp79, gb74, A91⟩
theorem d5_0 : decode prog_29_method_1_code 0 = .ok (.aload_n 0, 1) := by decide +kernel
theorem d5_1 : decode prog_29_method_1_code 1 = .ok (.invokespecial 1, 3) := by decide +kernel
theorem d5_4 : decode prog_29_method_1_code 4 = .ok (.aload_n 0, 1) := by decide +kernel
theorem d5_5 : decode prog_29_method_1_code 5 = .ok (.aload_n 1, 1) := by decide +kernel
theorem d5_6 : decode prog_29_method_1_code 6 = .ok (.putfield 7, 3) := by decide +kernel
theorem d5_9 : decode prog_29_method_1_code 9 = .ok (.return_, 1) := by decide +kernel
theorem pn_com_example_divided_duty_dividedduty_policy_Ranges : plainName "com/example/divided_duty/dividedduty/policy/Ranges" = true := by first | (simp [plainName, overriddenIn]; done) | decide +kernel
theorem ef_rmRInit (m : MethodId) (a1 : Addr) (a2 : Addr) : entryFrame m #[(.ref a1), (.ref a2)] 2 = mkF m 0 #[.val (.ref a1), .val (.ref a2)] [] := by first | (simp [entryFrame, mkF, argsToLocals, Value.category]; done) | rfl
def Q_rmRInit (Z : State) (n0 : Nat) (a1 : Addr) (a2 : Addr) (u0 : Value) (h0 : Heap) (v : Option Value) (h : Heap) : Prop := v = none ∧ Keep h0 h [a1] ∧ Exa Z h a1 "com/example/divided_duty/dividedduty/policy/Ranges" ∧ Fld Z h a1 "com/example/divided_duty/dividedduty/policy/Ranges" "bounds" "[I" (.ref a2)
abbrev R_rmRInit : Room := { frames := 1, cells := 0, slots := 0, locals := 12 }
set_option maxRecDepth 65536 in
set_option maxHeartbeats 40000000 in
theorem rmRInit {l : Launch} {Z : State} {n0 : Nat} {a0 : Array Value} (hw : ∀ d ∈ tables_1, d.before a0 Z = true) (a1 : Addr) (a2 : Addr) (u0 : Value) (h0 : Heap) (H0 : n0 ≤ a1) (H1 : Exa Z h0 a1 "com/example/divided_duty/dividedduty/policy/Ranges") (H2 : Fld Z h0 a1 "com/example/divided_duty/dividedduty/policy/Ranges" "bounds" "[I" u0) :
    Con l Z n0 (⟨"com/example/divided_duty/dividedduty/policy/Ranges", "<init>", "([I)V"⟩ : MethodName) prog_29_method_1_code 2 none R_rmRInit #[(.ref a1), (.ref a2)] h0 (Q_rmRInit Z n0 a1 a2 u0 h0) := by
  refine con_of (plainFor_of_name pn_com_example_divided_duty_dividedduty_policy_Ranges) ?_
  intro p e s m below meth c T0 K X0 e0
  replace K : Ctx p s m meth c Z "com/example/divided_duty/dividedduty/policy/Ranges" "<init>" prog_29_method_1_code 2 none := K
  refine go_entry (ef_rmRInit m a1 a2) ?_
  refine go_aloadN K X0 d5_0 rfl rfl rfl ?_
  refine go_initO K X0 (wd hw 34 rfl) (wd hw 35 rfl) (wd hw 36 rfl) e0 rfl d5_1 rfl (by decide) (W := 0) (Nat.le_of_eq rfl) (by decide) ?_
  intro T80 X80 e80
  refine go_aloadN K X80 d5_4 rfl rfl rfl ?_
  refine go_aloadN K X80 d5_5 rfl rfl rfl ?_
  refine go_putF K X80 (host := "") (Or.inl (wd hw 37 rfl)) Via.refl e80 H2 H1 (Or.inr ⟨(wd hw 38 rfl), rfl, rfl⟩) (wd hw 17 rfl) (ty := (.array .int)) (by decide) rfl rfl H0 d5_6 rfl ?_
  intro T81 h81 X81 e81 W81
  have kp82 : Keep h0 h81 [a1] := (Keep.refl h0 [a1]).trans (Keep.of_wr W81) (allS (Or.inl (List.mem_of_getElem? (i := 0) rfl)) all0)
  have f83 : Fld Z h81 a1 "com/example/divided_duty/dividedduty/policy/Ranges" "bounds" "[I" (.ref a2) := H2.same W81
  refine go_ret K X81 d5_9 (by decide) (by decide) ?_
  have f84 : Exa Z h81 a1 "com/example/divided_duty/dividedduty/policy/Ranges" := (H1.keep (Keep.of_wr W81))
  rw [e81]
  exact ⟨rfl, kp82, f84, f83⟩
theorem d3_0 : decode prog_29_method_2_code 0 = .ok (.iconst 2, 1) := by decide +kernel
theorem d3_1 : decode prog_29_method_2_code 1 = .ok (.aload_n 0, 1) := by decide +kernel
theorem d3_2 : decode prog_29_method_2_code 2 = .ok (.arraylength, 1) := by decide +kernel
theorem d3_3 : decode prog_29_method_2_code 3 = .ok (.imul, 1) := by decide +kernel
theorem d3_4 : decode prog_29_method_2_code 4 = .ok (.newarray .int, 2) := by decide +kernel
theorem d3_6 : decode prog_29_method_2_code 6 = .ok (.astore_n 1, 1) := by decide +kernel
theorem d3_7 : decode prog_29_method_2_code 7 = .ok (.iconst 0, 1) := by decide +kernel
theorem d3_8 : decode prog_29_method_2_code 8 = .ok (.istore_n 2, 1) := by decide +kernel
theorem d3_9 : decode prog_29_method_2_code 9 = .ok (.aload_n 0, 1) := by decide +kernel
theorem d3_10 : decode prog_29_method_2_code 10 = .ok (.astore_n 3, 1) := by decide +kernel
theorem d3_11 : decode prog_29_method_2_code 11 = .ok (.aload_n 3, 1) := by decide +kernel
theorem d3_12 : decode prog_29_method_2_code 12 = .ok (.arraylength, 1) := by decide +kernel
theorem d3_13 : decode prog_29_method_2_code 13 = .ok (.istore 4, 2) := by decide +kernel
theorem d3_15 : decode prog_29_method_2_code 15 = .ok (.iconst 0, 1) := by decide +kernel
theorem d3_16 : decode prog_29_method_2_code 16 = .ok (.istore 5, 2) := by decide +kernel
theorem d3_18 : decode prog_29_method_2_code 18 = .ok (.iload 5, 2) := by decide +kernel
theorem d3_20 : decode prog_29_method_2_code 20 = .ok (.iload 4, 2) := by decide +kernel
theorem d3_22 : decode prog_29_method_2_code 22 = .ok (.if_icmp .ge 59, 3) := by decide +kernel
theorem d3_81 : decode prog_29_method_2_code 81 = .ok (.new 8, 3) := by decide +kernel
theorem d3_84 : decode prog_29_method_2_code 84 = .ok (.dup, 1) := by decide +kernel
theorem d3_85 : decode prog_29_method_2_code 85 = .ok (.aload_n 1, 1) := by decide +kernel
theorem d3_86 : decode prog_29_method_2_code 86 = .ok (.iload_n 2, 1) := by decide +kernel
theorem d3_87 : decode prog_29_method_2_code 87 = .ok (.invokestatic 13, 3) := by decide +kernel
theorem pd_1 : parseMethodDescriptor "([II)[I" = some ⟨[(.array .int), .int], some (.array .int)⟩ := by decide +kernel
theorem d3_90 : decode prog_29_method_2_code 90 = .ok (.invokespecial 19, 3) := by decide +kernel
theorem pd_2 : parseMethodDescriptor "([I)V" = some ⟨[(.array .int)], none⟩ := by decide +kernel
theorem d3_93 : decode prog_29_method_2_code 93 = .ok (.areturn, 1) := by decide +kernel
theorem ef_rmOfS0 (m : MethodId) (a1 : Addr) : entryFrame m #[(.ref a1)] 7 = mkF m 0 #[.val (.ref a1), .unset, .unset, .unset, .unset, .unset, .unset] [] := by first | (simp [entryFrame, mkF, argsToLocals, Value.category]; done) | rfl
def Q_rmOfS0 (Z : State) (n0 : Nat) (a1 : Addr) (h0 : Heap) (v : Option Value) (h : Heap) : Prop := ∃ r : Addr, ∃ b : Addr, v = some (.ref r) ∧ Keep h0 h [] ∧ h0.size ≤ r ∧ h0.size ≤ b ∧ Exa Z h r "com/example/divided_duty/dividedduty/policy/Ranges" ∧ Fld Z h r "com/example/divided_duty/dividedduty/policy/Ranges" "bounds" "[I" (.ref b) ∧ AV Z h b .int (own_runs [])
abbrev R_rmOfS0 : Room := { frames := 2, cells := 3, slots := 9, locals := 30 }
set_option maxRecDepth 65536 in
set_option maxHeartbeats 40000000 in
theorem rmOfS0 {l : Launch} {Z : State} {n0 : Nat} {a0 : Array Value} (hw : ∀ d ∈ tables_1, d.before a0 Z = true) (a1 : Addr) (h0 : Heap) (H0 : n0 ≤ h0.size) (H1 : AV Z h0 a1 .int []) :
    Con l Z n0 (⟨"com/example/divided_duty/dividedduty/policy/Ranges", "ofSorted", "([I)Lcom/example/divided_duty/dividedduty/policy/Ranges;"⟩ : MethodName) prog_29_method_2_code 7 (some (.object "com/example/divided_duty/dividedduty/policy/Ranges")) R_rmOfS0 #[(.ref a1)] h0 (Q_rmOfS0 Z n0 a1 h0) := by
  refine con_of (plainFor_of_name pn_com_example_divided_duty_dividedduty_policy_Ranges) ?_
  intro p e s m below meth c T0 K X0 e0
  replace K : Ctx p s m meth c Z "com/example/divided_duty/dividedduty/policy/Ranges" "ofSorted" prog_29_method_2_code 7 (some (.object "com/example/divided_duty/dividedduty/policy/Ranges")) := K
  refine go_entry (ef_rmOfS0 m a1) ?_
  refine go_iconst K X0 (2 : Int32) d3_0 rfl rfl ?_
  refine go_aloadN K X0 d3_1 rfl rfl rfl ?_
  refine go_arraylength K X0 e0 H1 (z := (0 : Int32)) rfl d3_2 rfl ?_
  refine go_imul K X0 d3_3 rfl ?_
  rw [show ((2 : Int32) * (0 : Int32)) = (0 : Int32) from by decide]
  refine go_newarrayE K X0 (ad := "[I") (by decide) (wd hw 11 rfl) e0 d3_4 (i := 0) (cap := 0) rfl (by decide) (by decide) rfl (cells' := 1) (slots' := 0) rfl rfl (by decide) (by decide) ?_
  intro T85 h85 b85 g85 X85 e85 E85 A85 C85
  have ga86 : n0 ≤ b85 := Nat.le_trans H0 (Nat.le_of_eq g85.symm)
  have gb87 : h0.size ≤ b85 := Nat.le_trans (Keep.refl h0 []).1 (Nat.le_of_eq g85.symm)
  have kp88 : Keep h0 h85 [] := (Keep.refl h0 []).trans (Keep.ext (Keep.refl _ []) E85) all0
  have f89 : AV Z h85 b85 .int [] := A85
  refine go_astoreN K X85 #[.val (.ref a1), .val (.ref b85), .unset, .unset, .unset, .unset, .unset] d3_6 rfl rfl rfl ?_
  refine go_iconst K X85 (0 : Int32) d3_7 rfl rfl ?_
  refine go_istoreN K X85 #[.val (.ref a1), .val (.ref b85), .val (.int (0 : Int32)), .unset, .unset, .unset, .unset] d3_8 rfl rfl ?_
  refine go_aloadN K X85 d3_9 rfl rfl rfl ?_
  refine go_astoreN K X85 #[.val (.ref a1), .val (.ref b85), .val (.int (0 : Int32)), .val (.ref a1), .unset, .unset, .unset] d3_10 rfl rfl rfl ?_
  refine go_aloadN K X85 d3_11 rfl rfl rfl ?_
  have f90 : AV Z h85 a1 .int [] := (H1.keep (Keep.ext (Keep.refl _ []) E85) nin0)
  refine go_arraylength K X85 e85 f90 (z := (0 : Int32)) rfl d3_12 rfl ?_
  refine go_istore K X85 #[.val (.ref a1), .val (.ref b85), .val (.int (0 : Int32)), .val (.ref a1), .val (.int (0 : Int32)), .unset, .unset] d3_13 rfl rfl ?_
  refine go_iconst K X85 (0 : Int32) d3_15 rfl rfl ?_
  refine go_istore K X85 #[.val (.ref a1), .val (.ref b85), .val (.int (0 : Int32)), .val (.ref a1), .val (.int (0 : Int32)), .val (.int (0 : Int32)), .unset] d3_16 rfl rfl ?_
  refine go_iload K X85 d3_18 rfl rfl ?_
  refine go_iload K X85 d3_20 rfl rfl ?_
  refine go_icmpT K X85 d3_22 (by decide) rfl (by decide : ¬ (0 : Int32) < (0 : Int32)) ?_
  refine go_new K X85 (wd hw 16 rfl) (wd hw 17 rfl) (wd hw 14 rfl) e85 d3_81 rfl (cells' := 2) (slots' := 1) rfl rfl (by decide) (by decide) ?_
  intro T91 h91 b91 g91 X91 e91 E91 A91 D91
  have ga92 : n0 ≤ b91 := Nat.le_trans (Nat.le_trans H0 (Keep.ext (Keep.refl _ []) E85).1) (Nat.le_of_eq g91.symm)
  have gb93 : h0.size ≤ b91 := Nat.le_trans kp88.1 (Nat.le_of_eq g91.symm)
  have kp94 : Keep h0 h91 [] := kp88.trans (Keep.ext (Keep.refl _ []) E91) all0
  refine go_dup K X91 d3_84 rfl rfl ?_
  refine go_aloadN K X91 d3_85 rfl rfl rfl ?_
  refine go_iloadN K X91 d3_86 rfl rfl ?_
  have f95 : Exa Z h91 b85 "[I" := (C85.keep (Keep.ext (Keep.refl _ []) E91))
  have f96 : AV Z h91 b85 .int [] := (f89.keep (Keep.ext (Keep.refl _ []) E91) nin0)
  refine go_static K X91 (argsL := [(.ref b85), (.int (0 : Int32))]) (stk := [(.ref b91), (.ref b91)]) (wd hw 18 rfl) (wd hw 19 rfl) (wd hw 20 rfl) (wd hw 21 rfl) (by decide) (lenOf pd_1 rfl) e91 (rmCopyEq hw b85 (0 : Int32) [] h91 (Nat.le_trans (Nat.le_trans H0 (Keep.ext (Keep.refl _ []) E85).1) (Keep.ext (Keep.refl _ []) E91).1) f95 f96 rfl (Nat.le_of_ble_eq_true rfl) (own_fit_list (by simp))) rfl rfl d3_87 rfl (by decide) (W := 2) (Nat.le_of_eq rfl) (by decide) (cells' := 3) (slots' := 9) rfl rfl (by decide) (by decide) ?_
  rintro T97 h97 _ X97 e97 ⟨r98, rfl, K97, f99, f100⟩
  show Go _ _ _ _ _ _ _ (T97.setTop (mkF m 90 #[.val (.ref a1), .val (.ref b85), .val (.int (0 : Int32)), .val (.ref a1), .val (.int (0 : Int32)), .val (.int (0 : Int32)), .unset] [(.ref r98), (.ref b91), (.ref b91)]))
  have ga101 : n0 ≤ r98 := Nat.le_trans (Nat.le_trans (Nat.le_trans H0 (Keep.ext (Keep.refl _ []) E85).1) (Keep.ext (Keep.refl _ []) E91).1) f99
  have gb102 : h0.size ≤ r98 := Nat.le_trans kp94.1 f99
  have kp103 : Keep h0 h97 [] := kp94.trans K97 all0
  have hr : own_runs [] = [] := by
    show (([]).reverse).map Value.int = _
    rfl
  have zr98 : AV Z h97 r98 .int (own_runs []) := by rw [hr]; exact f100
  have f104 : Exa Z h97 b91 "com/example/divided_duty/dividedduty/policy/Ranges" := (A91.keep K97)
  have f105 : Fld Z h97 b91 "com/example/divided_duty/dividedduty/policy/Ranges" "bounds" "[I" .null := ((D91 (Or.inr (wd hw 38 rfl)) (ty := (.array .int)) (by decide) : Fld Z h91 b91 "com/example/divided_duty/dividedduty/policy/Ranges" "bounds" "[I" .null).keep K97 nin0)
  refine go_init K X97 (a := b91) (argsL := [(.ref r98)]) (stk := [(.ref b91)]) (wd hw 31 rfl) (wd hw 32 rfl) (wd hw 14 rfl) (wd hw 33 rfl) (by decide) rfl (lenOf pd_2 rfl) e97 (rmRInit hw b91 r98 .null h97 ga92 f104 f105) rfl rfl d3_90 rfl (by decide) (W := 1) (Nat.le_of_eq rfl) (by decide) (cells' := 3) (slots' := 9) rfl rfl (by decide) (by decide) ?_
  rintro T106 h106 _ X106 e106 ⟨rfl, K106, f107, f108⟩
  show Go _ _ _ _ _ _ _ (T106.setTop (mkF m 93 #[.val (.ref a1), .val (.ref b85), .val (.int (0 : Int32)), .val (.ref a1), .val (.int (0 : Int32)), .val (.int (0 : Int32)), .unset] [(.ref b91)]))
  have kp109 : Keep h0 h106 [] := kp103.trans K106 (allS (Or.inr gb93) all0)
  refine go_retA K X106 rfl rfl rfl d3_93 (by decide) (by decide) ?_
  have f110 : AV Z h106 r98 .int (own_runs []) := (zr98.keep K106 (ninS (Ne.symm (Nat.ne_of_lt (Nat.lt_of_lt_of_le A91.lt f99))) nin0))
  rw [e106]
  exact ⟨b91, r98, rfl, kp109, gb93, gb102, f107, f108, f110⟩
theorem d3_25 : decode prog_29_method_2_code 25 = .ok (.aload_n 3, 1) := by decide +kernel
theorem d3_26 : decode prog_29_method_2_code 26 = .ok (.iload 5, 2) := by decide +kernel
theorem d3_28 : decode prog_29_method_2_code 28 = .ok (.iaload, 1) := by decide +kernel
theorem d3_29 : decode prog_29_method_2_code 29 = .ok (.istore 6, 2) := by decide +kernel
theorem d3_31 : decode prog_29_method_2_code 31 = .ok (.iload_n 2, 1) := by decide +kernel
theorem d3_32 : decode prog_29_method_2_code 32 = .ok (.ifCond .le 25, 3) := by decide +kernel
theorem d3_57 : decode prog_29_method_2_code 57 = .ok (.aload_n 1, 1) := by decide +kernel
theorem d3_58 : decode prog_29_method_2_code 58 = .ok (.iload_n 2, 1) := by decide +kernel
theorem d3_59 : decode prog_29_method_2_code 59 = .ok (.iinc 2 1, 3) := by decide +kernel
theorem d3_62 : decode prog_29_method_2_code 62 = .ok (.iload 6, 2) := by decide +kernel
theorem d3_64 : decode prog_29_method_2_code 64 = .ok (.iastore, 1) := by decide +kernel
theorem d3_65 : decode prog_29_method_2_code 65 = .ok (.aload_n 1, 1) := by decide +kernel
theorem d3_66 : decode prog_29_method_2_code 66 = .ok (.iload_n 2, 1) := by decide +kernel
theorem d3_67 : decode prog_29_method_2_code 67 = .ok (.iinc 2 1, 3) := by decide +kernel
theorem d3_70 : decode prog_29_method_2_code 70 = .ok (.iload 6, 2) := by decide +kernel
theorem d3_72 : decode prog_29_method_2_code 72 = .ok (.iconst 1, 1) := by decide +kernel
theorem d3_73 : decode prog_29_method_2_code 73 = .ok (.iadd, 1) := by decide +kernel
theorem d3_74 : decode prog_29_method_2_code 74 = .ok (.iastore, 1) := by decide +kernel
theorem d3_75 : decode prog_29_method_2_code 75 = .ok (.iinc 5 1, 3) := by decide +kernel
theorem d3_78 : decode prog_29_method_2_code 78 = .ok (.goto (-60), 3) := by decide +kernel
theorem ef_rmOfS1 (m : MethodId) (a1 : Addr) : entryFrame m #[(.ref a1)] 7 = mkF m 0 #[.val (.ref a1), .unset, .unset, .unset, .unset, .unset, .unset] [] := by first | (simp [entryFrame, mkF, argsToLocals, Value.category]; done) | rfl
def Q_rmOfS1 (Z : State) (n0 : Nat) (a1 : Addr) (y0 : Int32) (h0 : Heap) (v : Option Value) (h : Heap) : Prop := ∃ r : Addr, ∃ b : Addr, v = some (.ref r) ∧ Keep h0 h [] ∧ h0.size ≤ r ∧ h0.size ≤ b ∧ Exa Z h r "com/example/divided_duty/dividedduty/policy/Ranges" ∧ Fld Z h r "com/example/divided_duty/dividedduty/policy/Ranges" "bounds" "[I" (.ref b) ∧ AV Z h b .int (own_runs [y0])
abbrev R_rmOfS1 : Room := { frames := 2, cells := 3, slots := 11, locals := 30 }
set_option maxRecDepth 65536 in
set_option maxHeartbeats 40000000 in
theorem rmOfS1 {l : Launch} {Z : State} {n0 : Nat} {a0 : Array Value} (hw : ∀ d ∈ tables_1, d.before a0 Z = true) (a1 : Addr) (y0 : Int32) (h0 : Heap) (H0 : n0 ≤ h0.size) (H1 : AV Z h0 a1 .int [(.int y0)]) :
    Con l Z n0 (⟨"com/example/divided_duty/dividedduty/policy/Ranges", "ofSorted", "([I)Lcom/example/divided_duty/dividedduty/policy/Ranges;"⟩ : MethodName) prog_29_method_2_code 7 (some (.object "com/example/divided_duty/dividedduty/policy/Ranges")) R_rmOfS1 #[(.ref a1)] h0 (Q_rmOfS1 Z n0 a1 y0 h0) := by
  refine con_of (plainFor_of_name pn_com_example_divided_duty_dividedduty_policy_Ranges) ?_
  intro p e s m below meth c T0 K X0 e0
  replace K : Ctx p s m meth c Z "com/example/divided_duty/dividedduty/policy/Ranges" "ofSorted" prog_29_method_2_code 7 (some (.object "com/example/divided_duty/dividedduty/policy/Ranges")) := K
  refine go_entry (ef_rmOfS1 m a1) ?_
  refine go_iconst K X0 (2 : Int32) d3_0 rfl rfl ?_
  refine go_aloadN K X0 d3_1 rfl rfl rfl ?_
  refine go_arraylength K X0 e0 H1 (z := (1 : Int32)) rfl d3_2 rfl ?_
  refine go_imul K X0 d3_3 rfl ?_
  rw [show ((2 : Int32) * (1 : Int32)) = (2 : Int32) from by decide]
  refine go_newarrayE K X0 (ad := "[I") (by decide) (wd hw 11 rfl) e0 d3_4 (i := 2) (cap := 2) rfl (by decide) (by decide) rfl (cells' := 1) (slots' := 2) rfl rfl (by decide) (by decide) ?_
  intro T111 h111 b111 g111 X111 e111 E111 A111 C111
  have ga112 : n0 ≤ b111 := Nat.le_trans H0 (Nat.le_of_eq g111.symm)
  have gb113 : h0.size ≤ b111 := Nat.le_trans (Keep.refl h0 []).1 (Nat.le_of_eq g111.symm)
  have kp114 : Keep h0 h111 [] := (Keep.refl h0 []).trans (Keep.ext (Keep.refl _ []) E111) all0
  have f115 : AV Z h111 b111 .int [(.int (0 : Int32)), (.int (0 : Int32))] := A111
  refine go_astoreN K X111 #[.val (.ref a1), .val (.ref b111), .unset, .unset, .unset, .unset, .unset] d3_6 rfl rfl rfl ?_
  refine go_iconst K X111 (0 : Int32) d3_7 rfl rfl ?_
  refine go_istoreN K X111 #[.val (.ref a1), .val (.ref b111), .val (.int (0 : Int32)), .unset, .unset, .unset, .unset] d3_8 rfl rfl ?_
  refine go_aloadN K X111 d3_9 rfl rfl rfl ?_
  refine go_astoreN K X111 #[.val (.ref a1), .val (.ref b111), .val (.int (0 : Int32)), .val (.ref a1), .unset, .unset, .unset] d3_10 rfl rfl rfl ?_
  refine go_aloadN K X111 d3_11 rfl rfl rfl ?_
  have f116 : AV Z h111 a1 .int [(.int y0)] := (H1.keep (Keep.ext (Keep.refl _ []) E111) nin0)
  refine go_arraylength K X111 e111 f116 (z := (1 : Int32)) rfl d3_12 rfl ?_
  refine go_istore K X111 #[.val (.ref a1), .val (.ref b111), .val (.int (0 : Int32)), .val (.ref a1), .val (.int (1 : Int32)), .unset, .unset] d3_13 rfl rfl ?_
  refine go_iconst K X111 (0 : Int32) d3_15 rfl rfl ?_
  refine go_istore K X111 #[.val (.ref a1), .val (.ref b111), .val (.int (0 : Int32)), .val (.ref a1), .val (.int (1 : Int32)), .val (.int (0 : Int32)), .unset] d3_16 rfl rfl ?_
  refine go_iload K X111 d3_18 rfl rfl ?_
  refine go_iload K X111 d3_20 rfl rfl ?_
  refine go_icmpF K X111 d3_22 rfl (by decide : (0 : Int32) < (1 : Int32)) ?_
  refine go_aloadN K X111 d3_25 rfl rfl rfl ?_
  refine go_iload K X111 d3_26 rfl rfl ?_
  refine go_iaload K X111 e111 f116 (i := 0) rfl rfl d3_28 rfl ?_
  refine go_istore K X111 #[.val (.ref a1), .val (.ref b111), .val (.int (0 : Int32)), .val (.ref a1), .val (.int (1 : Int32)), .val (.int (0 : Int32)), .val (.int y0)] d3_29 rfl rfl ?_
  refine go_iloadN K X111 d3_31 rfl rfl ?_
  refine go_ifT K X111 d3_32 (by decide) rfl (by decide : ¬ (0 : Int32) < (0 : Int32)) ?_
  refine go_aloadN K X111 d3_57 rfl rfl rfl ?_
  refine go_iloadN K X111 d3_58 rfl rfl ?_
  refine go_iinc K X111 (1 : Int32) #[.val (.ref a1), .val (.ref b111), .val (.int ((0 : Int32) + (1 : Int32))), .val (.ref a1), .val (.int (1 : Int32)), .val (.int (0 : Int32)), .val (.int y0)] d3_59 rfl rfl rfl rfl ?_
  rw [show ((0 : Int32) + (1 : Int32)) = (1 : Int32) from by decide]
  refine go_iload K X111 d3_62 rfl rfl ?_
  refine go_iastore K X111 e111 f115 (i := 0) rfl (Nat.le_of_ble_eq_true rfl) ga112 d3_64 rfl ?_
  intro T117 h117 X117 e117 W117 A117
  have kp118 : Keep h0 h117 [] := kp114.trans (Keep.of_wr W117) (allS (Or.inr gb113) all0)
  have f119 : AV Z h117 b111 .int [(.int y0), (.int (0 : Int32))] := A117
  refine go_aloadN K X117 d3_65 rfl rfl rfl ?_
  refine go_iloadN K X117 d3_66 rfl rfl ?_
  refine go_iinc K X117 (1 : Int32) #[.val (.ref a1), .val (.ref b111), .val (.int ((1 : Int32) + (1 : Int32))), .val (.ref a1), .val (.int (1 : Int32)), .val (.int (0 : Int32)), .val (.int y0)] d3_67 rfl rfl rfl rfl ?_
  rw [show ((1 : Int32) + (1 : Int32)) = (2 : Int32) from by decide]
  refine go_iload K X117 d3_70 rfl rfl ?_
  refine go_iconst K X117 (1 : Int32) d3_72 rfl rfl ?_
  refine go_iadd K X117 d3_73 rfl ?_
  refine go_iastore K X117 e117 f119 (i := 1) rfl (Nat.le_of_ble_eq_true rfl) ga112 d3_74 rfl ?_
  intro T120 h120 X120 e120 W120 A120
  have kp121 : Keep h0 h120 [] := kp118.trans (Keep.of_wr W120) (allS (Or.inr gb113) all0)
  have f122 : AV Z h120 b111 .int [(.int y0), (.int (y0 + (1 : Int32)))] := A120
  refine go_iinc K X120 (1 : Int32) #[.val (.ref a1), .val (.ref b111), .val (.int (2 : Int32)), .val (.ref a1), .val (.int (1 : Int32)), .val (.int ((0 : Int32) + (1 : Int32))), .val (.int y0)] d3_75 rfl rfl rfl rfl ?_
  rw [show ((0 : Int32) + (1 : Int32)) = (1 : Int32) from by decide]
  refine go_goto K X120 d3_78 (by decide) rfl ?_
  refine go_iload K X120 d3_18 rfl rfl ?_
  refine go_iload K X120 d3_20 rfl rfl ?_
  refine go_icmpT K X120 d3_22 (by decide) rfl (by decide : ¬ (1 : Int32) < (1 : Int32)) ?_
  refine go_new K X120 (wd hw 16 rfl) (wd hw 17 rfl) (wd hw 14 rfl) e120 d3_81 rfl (cells' := 2) (slots' := 3) rfl rfl (by decide) (by decide) ?_
  intro T123 h123 b123 g123 X123 e123 E123 A123 D123
  have ga124 : n0 ≤ b123 := Nat.le_trans (Nat.le_trans (Nat.le_trans (Nat.le_trans H0 (Keep.ext (Keep.refl _ []) E111).1) (Keep.of_wr W117).1) (Keep.of_wr W120).1) (Nat.le_of_eq g123.symm)
  have gb125 : h0.size ≤ b123 := Nat.le_trans kp121.1 (Nat.le_of_eq g123.symm)
  have kp126 : Keep h0 h123 [] := kp121.trans (Keep.ext (Keep.refl _ []) E123) all0
  refine go_dup K X123 d3_84 rfl rfl ?_
  refine go_aloadN K X123 d3_85 rfl rfl rfl ?_
  refine go_iloadN K X123 d3_86 rfl rfl ?_
  have f127 : Exa Z h123 b111 "[I" := (((C111.keep (Keep.of_wr W117)).keep (Keep.of_wr W120)).keep (Keep.ext (Keep.refl _ []) E123))
  have f128 : AV Z h123 b111 .int [(.int y0), (.int (y0 + (1 : Int32)))] := (f122.keep (Keep.ext (Keep.refl _ []) E123) nin0)
  refine go_static K X123 (argsL := [(.ref b111), (.int (2 : Int32))]) (stk := [(.ref b123), (.ref b123)]) (wd hw 18 rfl) (wd hw 19 rfl) (wd hw 20 rfl) (wd hw 21 rfl) (by decide) (lenOf pd_1 rfl) e123 (rmCopyEq hw b111 (2 : Int32) [(.int y0), (.int (y0 + (1 : Int32)))] h123 (Nat.le_trans (Nat.le_trans (Nat.le_trans (Nat.le_trans H0 (Keep.ext (Keep.refl _ []) E111).1) (Keep.of_wr W117).1) (Keep.of_wr W120).1) (Keep.ext (Keep.refl _ []) E123).1) f127 f128 rfl (Nat.le_of_ble_eq_true rfl) (own_fit_list (by simp))) rfl rfl d3_87 rfl (by decide) (W := 2) (Nat.le_of_eq rfl) (by decide) (cells' := 3) (slots' := 11) rfl rfl (by decide) (by decide) ?_
  rintro T129 h129 _ X129 e129 ⟨r130, rfl, K129, f131, f132⟩
  show Go _ _ _ _ _ _ _ (T129.setTop (mkF m 90 #[.val (.ref a1), .val (.ref b111), .val (.int (2 : Int32)), .val (.ref a1), .val (.int (1 : Int32)), .val (.int (1 : Int32)), .val (.int y0)] [(.ref r130), (.ref b123), (.ref b123)]))
  have ga133 : n0 ≤ r130 := Nat.le_trans (Nat.le_trans (Nat.le_trans (Nat.le_trans (Nat.le_trans H0 (Keep.ext (Keep.refl _ []) E111).1) (Keep.of_wr W117).1) (Keep.of_wr W120).1) (Keep.ext (Keep.refl _ []) E123).1) f131
  have gb134 : h0.size ≤ r130 := Nat.le_trans kp126.1 f131
  have kp135 : Keep h0 h129 [] := kp126.trans K129 all0
  have hr : own_runs [y0] = [(.int y0), (.int (y0 + (1 : Int32)))] := by
    show ((own_step ([]) y0).reverse).map Value.int = _
    rw [own_step0]
    rfl
  have zr130 : AV Z h129 r130 .int (own_runs [y0]) := by rw [hr]; exact f132
  have f136 : Exa Z h129 b123 "com/example/divided_duty/dividedduty/policy/Ranges" := (A123.keep K129)
  have f137 : Fld Z h129 b123 "com/example/divided_duty/dividedduty/policy/Ranges" "bounds" "[I" .null := ((D123 (Or.inr (wd hw 38 rfl)) (ty := (.array .int)) (by decide) : Fld Z h123 b123 "com/example/divided_duty/dividedduty/policy/Ranges" "bounds" "[I" .null).keep K129 nin0)
  refine go_init K X129 (a := b123) (argsL := [(.ref r130)]) (stk := [(.ref b123)]) (wd hw 31 rfl) (wd hw 32 rfl) (wd hw 14 rfl) (wd hw 33 rfl) (by decide) rfl (lenOf pd_2 rfl) e129 (rmRInit hw b123 r130 .null h129 ga124 f136 f137) rfl rfl d3_90 rfl (by decide) (W := 1) (Nat.le_of_eq rfl) (by decide) (cells' := 3) (slots' := 11) rfl rfl (by decide) (by decide) ?_
  rintro T138 h138 _ X138 e138 ⟨rfl, K138, f139, f140⟩
  show Go _ _ _ _ _ _ _ (T138.setTop (mkF m 93 #[.val (.ref a1), .val (.ref b111), .val (.int (2 : Int32)), .val (.ref a1), .val (.int (1 : Int32)), .val (.int (1 : Int32)), .val (.int y0)] [(.ref b123)]))
  have kp141 : Keep h0 h138 [] := kp135.trans K138 (allS (Or.inr gb125) all0)
  refine go_retA K X138 rfl rfl rfl d3_93 (by decide) (by decide) ?_
  have f142 : AV Z h138 r130 .int (own_runs [y0]) := (zr130.keep K138 (ninS (Ne.symm (Nat.ne_of_lt (Nat.lt_of_lt_of_le A123.lt f131))) nin0))
  rw [e138]
  exact ⟨b123, r130, rfl, kp141, gb125, gb134, f139, f140, f142⟩
theorem d3_35 : decode prog_29_method_2_code 35 = .ok (.aload_n 1, 1) := by decide +kernel
theorem d3_36 : decode prog_29_method_2_code 36 = .ok (.iload_n 2, 1) := by decide +kernel
theorem d3_37 : decode prog_29_method_2_code 37 = .ok (.iconst 1, 1) := by decide +kernel
theorem d3_38 : decode prog_29_method_2_code 38 = .ok (.isub, 1) := by decide +kernel
theorem d3_39 : decode prog_29_method_2_code 39 = .ok (.iaload, 1) := by decide +kernel
theorem d3_40 : decode prog_29_method_2_code 40 = .ok (.iload 6, 2) := by decide +kernel
theorem d3_42 : decode prog_29_method_2_code 42 = .ok (.if_icmp .ne 15, 3) := by decide +kernel
theorem d3_45 : decode prog_29_method_2_code 45 = .ok (.aload_n 1, 1) := by decide +kernel
theorem d3_46 : decode prog_29_method_2_code 46 = .ok (.iload_n 2, 1) := by decide +kernel
theorem d3_47 : decode prog_29_method_2_code 47 = .ok (.iconst 1, 1) := by decide +kernel
theorem d3_48 : decode prog_29_method_2_code 48 = .ok (.isub, 1) := by decide +kernel
theorem d3_49 : decode prog_29_method_2_code 49 = .ok (.dup2, 1) := by decide +kernel
theorem d3_50 : decode prog_29_method_2_code 50 = .ok (.iaload, 1) := by decide +kernel
theorem d3_51 : decode prog_29_method_2_code 51 = .ok (.iconst 1, 1) := by decide +kernel
theorem d3_52 : decode prog_29_method_2_code 52 = .ok (.iadd, 1) := by decide +kernel
theorem d3_53 : decode prog_29_method_2_code 53 = .ok (.iastore, 1) := by decide +kernel
theorem d3_54 : decode prog_29_method_2_code 54 = .ok (.goto 21, 3) := by decide +kernel
theorem ef_rmOfS2 (m : MethodId) (a1 : Addr) : entryFrame m #[(.ref a1)] 7 = mkF m 0 #[.val (.ref a1), .unset, .unset, .unset, .unset, .unset, .unset] [] := by first | (simp [entryFrame, mkF, argsToLocals, Value.category]; done) | rfl
def Q_rmOfS2 (Z : State) (n0 : Nat) (a1 : Addr) (y0 : Int32) (y1 : Int32) (h0 : Heap) (v : Option Value) (h : Heap) : Prop := ∃ r : Addr, ∃ b : Addr, v = some (.ref r) ∧ Keep h0 h [] ∧ h0.size ≤ r ∧ h0.size ≤ b ∧ Exa Z h r "com/example/divided_duty/dividedduty/policy/Ranges" ∧ Fld Z h r "com/example/divided_duty/dividedduty/policy/Ranges" "bounds" "[I" (.ref b) ∧ AV Z h b .int (own_runs [y0, y1])
abbrev R_rmOfS2 : Room := { frames := 2, cells := 3, slots := 13, locals := 34 }
set_option maxRecDepth 65536 in
set_option maxHeartbeats 40000000 in
theorem rmOfS2 {l : Launch} {Z : State} {n0 : Nat} {a0 : Array Value} (hw : ∀ d ∈ tables_1, d.before a0 Z = true) (a1 : Addr) (y0 : Int32) (y1 : Int32) (h0 : Heap) (H0 : n0 ≤ h0.size) (H1 : AV Z h0 a1 .int [(.int y0), (.int y1)]) :
    Con l Z n0 (⟨"com/example/divided_duty/dividedduty/policy/Ranges", "ofSorted", "([I)Lcom/example/divided_duty/dividedduty/policy/Ranges;"⟩ : MethodName) prog_29_method_2_code 7 (some (.object "com/example/divided_duty/dividedduty/policy/Ranges")) R_rmOfS2 #[(.ref a1)] h0 (Q_rmOfS2 Z n0 a1 y0 y1 h0) := by
  refine con_of (plainFor_of_name pn_com_example_divided_duty_dividedduty_policy_Ranges) ?_
  intro p e s m below meth c T0 K X0 e0
  replace K : Ctx p s m meth c Z "com/example/divided_duty/dividedduty/policy/Ranges" "ofSorted" prog_29_method_2_code 7 (some (.object "com/example/divided_duty/dividedduty/policy/Ranges")) := K
  refine go_entry (ef_rmOfS2 m a1) ?_
  refine go_iconst K X0 (2 : Int32) d3_0 rfl rfl ?_
  refine go_aloadN K X0 d3_1 rfl rfl rfl ?_
  refine go_arraylength K X0 e0 H1 (z := (2 : Int32)) rfl d3_2 rfl ?_
  refine go_imul K X0 d3_3 rfl ?_
  rw [show ((2 : Int32) * (2 : Int32)) = (4 : Int32) from by decide]
  refine go_newarrayE K X0 (ad := "[I") (by decide) (wd hw 11 rfl) e0 d3_4 (i := 4) (cap := 4) rfl (by decide) (by decide) rfl (cells' := 1) (slots' := 4) rfl rfl (by decide) (by decide) ?_
  intro T143 h143 b143 g143 X143 e143 E143 A143 C143
  have ga144 : n0 ≤ b143 := Nat.le_trans H0 (Nat.le_of_eq g143.symm)
  have gb145 : h0.size ≤ b143 := Nat.le_trans (Keep.refl h0 []).1 (Nat.le_of_eq g143.symm)
  have kp146 : Keep h0 h143 [] := (Keep.refl h0 []).trans (Keep.ext (Keep.refl _ []) E143) all0
  have f147 : AV Z h143 b143 .int [(.int (0 : Int32)), (.int (0 : Int32)), (.int (0 : Int32)), (.int (0 : Int32))] := A143
  refine go_astoreN K X143 #[.val (.ref a1), .val (.ref b143), .unset, .unset, .unset, .unset, .unset] d3_6 rfl rfl rfl ?_
  refine go_iconst K X143 (0 : Int32) d3_7 rfl rfl ?_
  refine go_istoreN K X143 #[.val (.ref a1), .val (.ref b143), .val (.int (0 : Int32)), .unset, .unset, .unset, .unset] d3_8 rfl rfl ?_
  refine go_aloadN K X143 d3_9 rfl rfl rfl ?_
  refine go_astoreN K X143 #[.val (.ref a1), .val (.ref b143), .val (.int (0 : Int32)), .val (.ref a1), .unset, .unset, .unset] d3_10 rfl rfl rfl ?_
  refine go_aloadN K X143 d3_11 rfl rfl rfl ?_
  have f148 : AV Z h143 a1 .int [(.int y0), (.int y1)] := (H1.keep (Keep.ext (Keep.refl _ []) E143) nin0)
  refine go_arraylength K X143 e143 f148 (z := (2 : Int32)) rfl d3_12 rfl ?_
  refine go_istore K X143 #[.val (.ref a1), .val (.ref b143), .val (.int (0 : Int32)), .val (.ref a1), .val (.int (2 : Int32)), .unset, .unset] d3_13 rfl rfl ?_
  refine go_iconst K X143 (0 : Int32) d3_15 rfl rfl ?_
  refine go_istore K X143 #[.val (.ref a1), .val (.ref b143), .val (.int (0 : Int32)), .val (.ref a1), .val (.int (2 : Int32)), .val (.int (0 : Int32)), .unset] d3_16 rfl rfl ?_
  refine go_iload K X143 d3_18 rfl rfl ?_
  refine go_iload K X143 d3_20 rfl rfl ?_
  refine go_icmpF K X143 d3_22 rfl (by decide : (0 : Int32) < (2 : Int32)) ?_
  refine go_aloadN K X143 d3_25 rfl rfl rfl ?_
  refine go_iload K X143 d3_26 rfl rfl ?_
  refine go_iaload K X143 e143 f148 (i := 0) rfl rfl d3_28 rfl ?_
  refine go_istore K X143 #[.val (.ref a1), .val (.ref b143), .val (.int (0 : Int32)), .val (.ref a1), .val (.int (2 : Int32)), .val (.int (0 : Int32)), .val (.int y0)] d3_29 rfl rfl ?_
  refine go_iloadN K X143 d3_31 rfl rfl ?_
  refine go_ifT K X143 d3_32 (by decide) rfl (by decide : ¬ (0 : Int32) < (0 : Int32)) ?_
  refine go_aloadN K X143 d3_57 rfl rfl rfl ?_
  refine go_iloadN K X143 d3_58 rfl rfl ?_
  refine go_iinc K X143 (1 : Int32) #[.val (.ref a1), .val (.ref b143), .val (.int ((0 : Int32) + (1 : Int32))), .val (.ref a1), .val (.int (2 : Int32)), .val (.int (0 : Int32)), .val (.int y0)] d3_59 rfl rfl rfl rfl ?_
  rw [show ((0 : Int32) + (1 : Int32)) = (1 : Int32) from by decide]
  refine go_iload K X143 d3_62 rfl rfl ?_
  refine go_iastore K X143 e143 f147 (i := 0) rfl (Nat.le_of_ble_eq_true rfl) ga144 d3_64 rfl ?_
  intro T149 h149 X149 e149 W149 A149
  have kp150 : Keep h0 h149 [] := kp146.trans (Keep.of_wr W149) (allS (Or.inr gb145) all0)
  have f151 : AV Z h149 b143 .int [(.int y0), (.int (0 : Int32)), (.int (0 : Int32)), (.int (0 : Int32))] := A149
  refine go_aloadN K X149 d3_65 rfl rfl rfl ?_
  refine go_iloadN K X149 d3_66 rfl rfl ?_
  refine go_iinc K X149 (1 : Int32) #[.val (.ref a1), .val (.ref b143), .val (.int ((1 : Int32) + (1 : Int32))), .val (.ref a1), .val (.int (2 : Int32)), .val (.int (0 : Int32)), .val (.int y0)] d3_67 rfl rfl rfl rfl ?_
  rw [show ((1 : Int32) + (1 : Int32)) = (2 : Int32) from by decide]
  refine go_iload K X149 d3_70 rfl rfl ?_
  refine go_iconst K X149 (1 : Int32) d3_72 rfl rfl ?_
  refine go_iadd K X149 d3_73 rfl ?_
  refine go_iastore K X149 e149 f151 (i := 1) rfl (Nat.le_of_ble_eq_true rfl) ga144 d3_74 rfl ?_
  intro T152 h152 X152 e152 W152 A152
  have kp153 : Keep h0 h152 [] := kp150.trans (Keep.of_wr W152) (allS (Or.inr gb145) all0)
  have f154 : AV Z h152 b143 .int [(.int y0), (.int (y0 + (1 : Int32))), (.int (0 : Int32)), (.int (0 : Int32))] := A152
  refine go_iinc K X152 (1 : Int32) #[.val (.ref a1), .val (.ref b143), .val (.int (2 : Int32)), .val (.ref a1), .val (.int (2 : Int32)), .val (.int ((0 : Int32) + (1 : Int32))), .val (.int y0)] d3_75 rfl rfl rfl rfl ?_
  rw [show ((0 : Int32) + (1 : Int32)) = (1 : Int32) from by decide]
  refine go_goto K X152 d3_78 (by decide) rfl ?_
  refine go_iload K X152 d3_18 rfl rfl ?_
  refine go_iload K X152 d3_20 rfl rfl ?_
  refine go_icmpF K X152 d3_22 rfl (by decide : (1 : Int32) < (2 : Int32)) ?_
  refine go_aloadN K X152 d3_25 rfl rfl rfl ?_
  refine go_iload K X152 d3_26 rfl rfl ?_
  have f155 : AV Z h152 a1 .int [(.int y0), (.int y1)] := ((f148.keep (Keep.of_wr W149) (ninS (Nat.ne_of_lt (Nat.lt_of_lt_of_le H1.lt (Nat.le_of_eq g143.symm))) nin0)).keep (Keep.of_wr W152) (ninS (Nat.ne_of_lt (Nat.lt_of_lt_of_le H1.lt (Nat.le_of_eq g143.symm))) nin0))
  refine go_iaload K X152 e152 f155 (i := 1) rfl rfl d3_28 rfl ?_
  refine go_istore K X152 #[.val (.ref a1), .val (.ref b143), .val (.int (2 : Int32)), .val (.ref a1), .val (.int (2 : Int32)), .val (.int (1 : Int32)), .val (.int y1)] d3_29 rfl rfl ?_
  refine go_iloadN K X152 d3_31 rfl rfl ?_
  refine go_ifF K X152 d3_32 rfl (by decide : (0 : Int32) < (2 : Int32)) ?_
  refine go_aloadN K X152 d3_35 rfl rfl rfl ?_
  refine go_iloadN K X152 d3_36 rfl rfl ?_
  refine go_iconst K X152 (1 : Int32) d3_37 rfl rfl ?_
  refine go_isub K X152 d3_38 rfl ?_
  rw [show ((2 : Int32) - (1 : Int32)) = (1 : Int32) from by decide]
  refine go_iaload K X152 e152 f154 (i := 1) rfl rfl d3_39 rfl ?_
  refine go_iload K X152 d3_40 rfl rfl ?_
  refine go_icmp K X152 d3_42 (by decide) rfl rfl ?_ ?_
  · intro (hc156 : ¬ (y0 + (1 : Int32)) = y1)
    refine go_aloadN K X152 d3_57 rfl rfl rfl ?_
    refine go_iloadN K X152 d3_58 rfl rfl ?_
    refine go_iinc K X152 (1 : Int32) #[.val (.ref a1), .val (.ref b143), .val (.int ((2 : Int32) + (1 : Int32))), .val (.ref a1), .val (.int (2 : Int32)), .val (.int (1 : Int32)), .val (.int y1)] d3_59 rfl rfl rfl rfl ?_
    rw [show ((2 : Int32) + (1 : Int32)) = (3 : Int32) from by decide]
    refine go_iload K X152 d3_62 rfl rfl ?_
    refine go_iastore K X152 e152 f154 (i := 2) rfl (Nat.le_of_ble_eq_true rfl) ga144 d3_64 rfl ?_
    intro T157 h157 X157 e157 W157 A157
    have kp158 : Keep h0 h157 [] := kp153.trans (Keep.of_wr W157) (allS (Or.inr gb145) all0)
    have f159 : AV Z h157 b143 .int [(.int y0), (.int (y0 + (1 : Int32))), (.int y1), (.int (0 : Int32))] := A157
    refine go_aloadN K X157 d3_65 rfl rfl rfl ?_
    refine go_iloadN K X157 d3_66 rfl rfl ?_
    refine go_iinc K X157 (1 : Int32) #[.val (.ref a1), .val (.ref b143), .val (.int ((3 : Int32) + (1 : Int32))), .val (.ref a1), .val (.int (2 : Int32)), .val (.int (1 : Int32)), .val (.int y1)] d3_67 rfl rfl rfl rfl ?_
    rw [show ((3 : Int32) + (1 : Int32)) = (4 : Int32) from by decide]
    refine go_iload K X157 d3_70 rfl rfl ?_
    refine go_iconst K X157 (1 : Int32) d3_72 rfl rfl ?_
    refine go_iadd K X157 d3_73 rfl ?_
    refine go_iastore K X157 e157 f159 (i := 3) rfl (Nat.le_of_ble_eq_true rfl) ga144 d3_74 rfl ?_
    intro T160 h160 X160 e160 W160 A160
    have kp161 : Keep h0 h160 [] := kp158.trans (Keep.of_wr W160) (allS (Or.inr gb145) all0)
    have f162 : AV Z h160 b143 .int [(.int y0), (.int (y0 + (1 : Int32))), (.int y1), (.int (y1 + (1 : Int32)))] := A160
    refine go_iinc K X160 (1 : Int32) #[.val (.ref a1), .val (.ref b143), .val (.int (4 : Int32)), .val (.ref a1), .val (.int (2 : Int32)), .val (.int ((1 : Int32) + (1 : Int32))), .val (.int y1)] d3_75 rfl rfl rfl rfl ?_
    rw [show ((1 : Int32) + (1 : Int32)) = (2 : Int32) from by decide]
    refine go_goto K X160 d3_78 (by decide) rfl ?_
    refine go_iload K X160 d3_18 rfl rfl ?_
    refine go_iload K X160 d3_20 rfl rfl ?_
    refine go_icmpT K X160 d3_22 (by decide) rfl (by decide : ¬ (2 : Int32) < (2 : Int32)) ?_
    refine go_new K X160 (wd hw 16 rfl) (wd hw 17 rfl) (wd hw 14 rfl) e160 d3_81 rfl (cells' := 2) (slots' := 5) rfl rfl (by decide) (by decide) ?_
    intro T163 h163 b163 g163 X163 e163 E163 A163 D163
    have ga164 : n0 ≤ b163 := Nat.le_trans (Nat.le_trans (Nat.le_trans (Nat.le_trans (Nat.le_trans (Nat.le_trans H0 (Keep.ext (Keep.refl _ []) E143).1) (Keep.of_wr W149).1) (Keep.of_wr W152).1) (Keep.of_wr W157).1) (Keep.of_wr W160).1) (Nat.le_of_eq g163.symm)
    have gb165 : h0.size ≤ b163 := Nat.le_trans kp161.1 (Nat.le_of_eq g163.symm)
    have kp166 : Keep h0 h163 [] := kp161.trans (Keep.ext (Keep.refl _ []) E163) all0
    refine go_dup K X163 d3_84 rfl rfl ?_
    refine go_aloadN K X163 d3_85 rfl rfl rfl ?_
    refine go_iloadN K X163 d3_86 rfl rfl ?_
    have f167 : Exa Z h163 b143 "[I" := (((((C143.keep (Keep.of_wr W149)).keep (Keep.of_wr W152)).keep (Keep.of_wr W157)).keep (Keep.of_wr W160)).keep (Keep.ext (Keep.refl _ []) E163))
    have f168 : AV Z h163 b143 .int [(.int y0), (.int (y0 + (1 : Int32))), (.int y1), (.int (y1 + (1 : Int32)))] := (f162.keep (Keep.ext (Keep.refl _ []) E163) nin0)
    refine go_static K X163 (argsL := [(.ref b143), (.int (4 : Int32))]) (stk := [(.ref b163), (.ref b163)]) (wd hw 18 rfl) (wd hw 19 rfl) (wd hw 20 rfl) (wd hw 21 rfl) (by decide) (lenOf pd_1 rfl) e163 (rmCopyEq hw b143 (4 : Int32) [(.int y0), (.int (y0 + (1 : Int32))), (.int y1), (.int (y1 + (1 : Int32)))] h163 (Nat.le_trans (Nat.le_trans (Nat.le_trans (Nat.le_trans (Nat.le_trans (Nat.le_trans H0 (Keep.ext (Keep.refl _ []) E143).1) (Keep.of_wr W149).1) (Keep.of_wr W152).1) (Keep.of_wr W157).1) (Keep.of_wr W160).1) (Keep.ext (Keep.refl _ []) E163).1) f167 f168 rfl (Nat.le_of_ble_eq_true rfl) (own_fit_list (by simp))) rfl rfl d3_87 rfl (by decide) (W := 2) (Nat.le_of_eq rfl) (by decide) (cells' := 3) (slots' := 13) rfl rfl (by decide) (by decide) ?_
    rintro T169 h169 _ X169 e169 ⟨r170, rfl, K169, f171, f172⟩
    show Go _ _ _ _ _ _ _ (T169.setTop (mkF m 90 #[.val (.ref a1), .val (.ref b143), .val (.int (4 : Int32)), .val (.ref a1), .val (.int (2 : Int32)), .val (.int (2 : Int32)), .val (.int y1)] [(.ref r170), (.ref b163), (.ref b163)]))
    have ga173 : n0 ≤ r170 := Nat.le_trans (Nat.le_trans (Nat.le_trans (Nat.le_trans (Nat.le_trans (Nat.le_trans (Nat.le_trans H0 (Keep.ext (Keep.refl _ []) E143).1) (Keep.of_wr W149).1) (Keep.of_wr W152).1) (Keep.of_wr W157).1) (Keep.of_wr W160).1) (Keep.ext (Keep.refl _ []) E163).1) f171
    have gb174 : h0.size ≤ r170 := Nat.le_trans kp166.1 f171
    have kp175 : Keep h0 h169 [] := kp166.trans K169 all0
    have hr : own_runs [y0, y1] = [(.int y0), (.int (y0 + (1 : Int32))), (.int y1), (.int (y1 + (1 : Int32)))] := by
      show ((own_step (own_step ([]) y0) y1).reverse).map Value.int = _
      rw [own_step0, own_stepN hc156]
      rfl
    have zr170 : AV Z h169 r170 .int (own_runs [y0, y1]) := by rw [hr]; exact f172
    have f176 : Exa Z h169 b163 "com/example/divided_duty/dividedduty/policy/Ranges" := (A163.keep K169)
    have f177 : Fld Z h169 b163 "com/example/divided_duty/dividedduty/policy/Ranges" "bounds" "[I" .null := ((D163 (Or.inr (wd hw 38 rfl)) (ty := (.array .int)) (by decide) : Fld Z h163 b163 "com/example/divided_duty/dividedduty/policy/Ranges" "bounds" "[I" .null).keep K169 nin0)
    refine go_init K X169 (a := b163) (argsL := [(.ref r170)]) (stk := [(.ref b163)]) (wd hw 31 rfl) (wd hw 32 rfl) (wd hw 14 rfl) (wd hw 33 rfl) (by decide) rfl (lenOf pd_2 rfl) e169 (rmRInit hw b163 r170 .null h169 ga164 f176 f177) rfl rfl d3_90 rfl (by decide) (W := 1) (Nat.le_of_eq rfl) (by decide) (cells' := 3) (slots' := 13) rfl rfl (by decide) (by decide) ?_
    rintro T178 h178 _ X178 e178 ⟨rfl, K178, f179, f180⟩
    show Go _ _ _ _ _ _ _ (T178.setTop (mkF m 93 #[.val (.ref a1), .val (.ref b143), .val (.int (4 : Int32)), .val (.ref a1), .val (.int (2 : Int32)), .val (.int (2 : Int32)), .val (.int y1)] [(.ref b163)]))
    have kp181 : Keep h0 h178 [] := kp175.trans K178 (allS (Or.inr gb165) all0)
    refine go_retA K X178 rfl rfl rfl d3_93 (by decide) (by decide) ?_
    have f182 : AV Z h178 r170 .int (own_runs [y0, y1]) := (zr170.keep K178 (ninS (Ne.symm (Nat.ne_of_lt (Nat.lt_of_lt_of_le A163.lt f171))) nin0))
    rw [e178]
    exact ⟨b163, r170, rfl, kp181, gb165, gb174, f179, f180, f182⟩
  · intro (hc156 : (y0 + (1 : Int32)) = y1)
    refine go_aloadN K X152 d3_45 rfl rfl rfl ?_
    refine go_iloadN K X152 d3_46 rfl rfl ?_
    refine go_iconst K X152 (1 : Int32) d3_47 rfl rfl ?_
    refine go_isub K X152 d3_48 rfl ?_
    rw [show ((2 : Int32) - (1 : Int32)) = (1 : Int32) from by decide]
    refine go_dup2 K X152 d3_49 rfl rfl rfl ?_
    refine go_iaload K X152 e152 f154 (i := 1) rfl rfl d3_50 rfl ?_
    refine go_iconst K X152 (1 : Int32) d3_51 rfl rfl ?_
    refine go_iadd K X152 d3_52 rfl ?_
    refine go_iastore K X152 e152 f154 (i := 1) rfl (Nat.le_of_ble_eq_true rfl) ga144 d3_53 rfl ?_
    intro T183 h183 X183 e183 W183 A183
    have kp184 : Keep h0 h183 [] := kp153.trans (Keep.of_wr W183) (allS (Or.inr gb145) all0)
    have f185 : AV Z h183 b143 .int [(.int y0), (.int ((y0 + (1 : Int32)) + (1 : Int32))), (.int (0 : Int32)), (.int (0 : Int32))] := A183
    refine go_goto K X183 d3_54 (by decide) rfl ?_
    refine go_iinc K X183 (1 : Int32) #[.val (.ref a1), .val (.ref b143), .val (.int (2 : Int32)), .val (.ref a1), .val (.int (2 : Int32)), .val (.int ((1 : Int32) + (1 : Int32))), .val (.int y1)] d3_75 rfl rfl rfl rfl ?_
    rw [show ((1 : Int32) + (1 : Int32)) = (2 : Int32) from by decide]
    refine go_goto K X183 d3_78 (by decide) rfl ?_
    refine go_iload K X183 d3_18 rfl rfl ?_
    refine go_iload K X183 d3_20 rfl rfl ?_
    refine go_icmpT K X183 d3_22 (by decide) rfl (by decide : ¬ (2 : Int32) < (2 : Int32)) ?_
    refine go_new K X183 (wd hw 16 rfl) (wd hw 17 rfl) (wd hw 14 rfl) e183 d3_81 rfl (cells' := 2) (slots' := 5) rfl rfl (by decide) (by decide) ?_
    intro T186 h186 b186 g186 X186 e186 E186 A186 D186
    have ga187 : n0 ≤ b186 := Nat.le_trans (Nat.le_trans (Nat.le_trans (Nat.le_trans (Nat.le_trans H0 (Keep.ext (Keep.refl _ []) E143).1) (Keep.of_wr W149).1) (Keep.of_wr W152).1) (Keep.of_wr W183).1) (Nat.le_of_eq g186.symm)
    have gb188 : h0.size ≤ b186 := Nat.le_trans kp184.1 (Nat.le_of_eq g186.symm)
    have kp189 : Keep h0 h186 [] := kp184.trans (Keep.ext (Keep.refl _ []) E186) all0
    refine go_dup K X186 d3_84 rfl rfl ?_
    refine go_aloadN K X186 d3_85 rfl rfl rfl ?_
    refine go_iloadN K X186 d3_86 rfl rfl ?_
    have f190 : AV Z h186 b143 .int [(.int y0), (.int ((y0 + (1 : Int32)) + (1 : Int32))), (.int (0 : Int32)), (.int (0 : Int32))] := (f185.keep (Keep.ext (Keep.refl _ []) E186) nin0)
    refine go_static K X186 (argsL := [(.ref b143), (.int (2 : Int32))]) (stk := [(.ref b186), (.ref b186)]) (wd hw 18 rfl) (wd hw 19 rfl) (wd hw 20 rfl) (wd hw 21 rfl) (by decide) (lenOf pd_1 rfl) e186 (rmCopyLt hw b143 (2 : Int32) [(.int y0), (.int ((y0 + (1 : Int32)) + (1 : Int32))), (.int (0 : Int32)), (.int (0 : Int32))] 2 h186 (Nat.le_trans (Nat.le_trans (Nat.le_trans (Nat.le_trans (Nat.le_trans H0 (Keep.ext (Keep.refl _ []) E143).1) (Keep.of_wr W149).1) (Keep.of_wr W152).1) (Keep.of_wr W183).1) (Keep.ext (Keep.refl _ []) E186).1) f190 rfl (Nat.le_of_ble_eq_true rfl) (Nat.le_of_ble_eq_true rfl) (own_fit_list (by simp))) rfl rfl d3_87 rfl (by decide) (W := 2) (Nat.le_of_eq rfl) (by decide) (cells' := 3) (slots' := 13) rfl rfl (by decide) (by decide) ?_
    rintro T191 h191 _ X191 e191 ⟨r192, rfl, K191, f193, f194⟩
    show Go _ _ _ _ _ _ _ (T191.setTop (mkF m 90 #[.val (.ref a1), .val (.ref b143), .val (.int (2 : Int32)), .val (.ref a1), .val (.int (2 : Int32)), .val (.int (2 : Int32)), .val (.int y1)] [(.ref r192), (.ref b186), (.ref b186)]))
    have ga195 : n0 ≤ r192 := Nat.le_trans (Nat.le_trans (Nat.le_trans (Nat.le_trans (Nat.le_trans (Nat.le_trans H0 (Keep.ext (Keep.refl _ []) E143).1) (Keep.of_wr W149).1) (Keep.of_wr W152).1) (Keep.of_wr W183).1) (Keep.ext (Keep.refl _ []) E186).1) f193
    have gb196 : h0.size ≤ r192 := Nat.le_trans kp189.1 f193
    have kp197 : Keep h0 h191 [] := kp189.trans K191 all0
    have hr : own_runs [y0, y1] = [(.int y0), (.int ((y0 + (1 : Int32)) + (1 : Int32)))] := by
      show ((own_step (own_step ([]) y0) y1).reverse).map Value.int = _
      rw [own_step0, own_stepY hc156]
      rfl
    have zr192 : AV Z h191 r192 .int (own_runs [y0, y1]) := by rw [hr]; exact f194
    have f198 : Exa Z h191 b186 "com/example/divided_duty/dividedduty/policy/Ranges" := (A186.keep K191)
    have f199 : Fld Z h191 b186 "com/example/divided_duty/dividedduty/policy/Ranges" "bounds" "[I" .null := ((D186 (Or.inr (wd hw 38 rfl)) (ty := (.array .int)) (by decide) : Fld Z h186 b186 "com/example/divided_duty/dividedduty/policy/Ranges" "bounds" "[I" .null).keep K191 nin0)
    refine go_init K X191 (a := b186) (argsL := [(.ref r192)]) (stk := [(.ref b186)]) (wd hw 31 rfl) (wd hw 32 rfl) (wd hw 14 rfl) (wd hw 33 rfl) (by decide) rfl (lenOf pd_2 rfl) e191 (rmRInit hw b186 r192 .null h191 ga187 f198 f199) rfl rfl d3_90 rfl (by decide) (W := 1) (Nat.le_of_eq rfl) (by decide) (cells' := 3) (slots' := 13) rfl rfl (by decide) (by decide) ?_
    rintro T200 h200 _ X200 e200 ⟨rfl, K200, f201, f202⟩
    show Go _ _ _ _ _ _ _ (T200.setTop (mkF m 93 #[.val (.ref a1), .val (.ref b143), .val (.int (2 : Int32)), .val (.ref a1), .val (.int (2 : Int32)), .val (.int (2 : Int32)), .val (.int y1)] [(.ref b186)]))
    have kp203 : Keep h0 h200 [] := kp197.trans K200 (allS (Or.inr gb188) all0)
    refine go_retA K X200 rfl rfl rfl d3_93 (by decide) (by decide) ?_
    have f204 : AV Z h200 r192 .int (own_runs [y0, y1]) := (zr192.keep K200 (ninS (Ne.symm (Nat.ne_of_lt (Nat.lt_of_lt_of_le A186.lt f193))) nin0))
    rw [e200]
    exact ⟨b186, r192, rfl, kp203, gb188, gb196, f201, f202, f204⟩
theorem ef_rmOfS3 (m : MethodId) (a1 : Addr) : entryFrame m #[(.ref a1)] 7 = mkF m 0 #[.val (.ref a1), .unset, .unset, .unset, .unset, .unset, .unset] [] := by first | (simp [entryFrame, mkF, argsToLocals, Value.category]; done) | rfl
def Q_rmOfS3 (Z : State) (n0 : Nat) (a1 : Addr) (y0 : Int32) (y1 : Int32) (y2 : Int32) (h0 : Heap) (v : Option Value) (h : Heap) : Prop := ∃ r : Addr, ∃ b : Addr, v = some (.ref r) ∧ Keep h0 h [] ∧ h0.size ≤ r ∧ h0.size ≤ b ∧ Exa Z h r "com/example/divided_duty/dividedduty/policy/Ranges" ∧ Fld Z h r "com/example/divided_duty/dividedduty/policy/Ranges" "bounds" "[I" (.ref b) ∧ AV Z h b .int (own_runs [y0, y1, y2])
abbrev R_rmOfS3 : Room := { frames := 2, cells := 3, slots := 15, locals := 34 }
set_option maxRecDepth 65536 in
set_option maxHeartbeats 40000000 in
theorem rmOfS3 {l : Launch} {Z : State} {n0 : Nat} {a0 : Array Value} (hw : ∀ d ∈ tables_1, d.before a0 Z = true) (a1 : Addr) (y0 : Int32) (y1 : Int32) (y2 : Int32) (h0 : Heap) (H0 : n0 ≤ h0.size) (H1 : AV Z h0 a1 .int [(.int y0), (.int y1), (.int y2)]) :
    Con l Z n0 (⟨"com/example/divided_duty/dividedduty/policy/Ranges", "ofSorted", "([I)Lcom/example/divided_duty/dividedduty/policy/Ranges;"⟩ : MethodName) prog_29_method_2_code 7 (some (.object "com/example/divided_duty/dividedduty/policy/Ranges")) R_rmOfS3 #[(.ref a1)] h0 (Q_rmOfS3 Z n0 a1 y0 y1 y2 h0) := by
  refine con_of (plainFor_of_name pn_com_example_divided_duty_dividedduty_policy_Ranges) ?_
  intro p e s m below meth c T0 K X0 e0
  replace K : Ctx p s m meth c Z "com/example/divided_duty/dividedduty/policy/Ranges" "ofSorted" prog_29_method_2_code 7 (some (.object "com/example/divided_duty/dividedduty/policy/Ranges")) := K
  refine go_entry (ef_rmOfS3 m a1) ?_
  refine go_iconst K X0 (2 : Int32) d3_0 rfl rfl ?_
  refine go_aloadN K X0 d3_1 rfl rfl rfl ?_
  refine go_arraylength K X0 e0 H1 (z := (3 : Int32)) rfl d3_2 rfl ?_
  refine go_imul K X0 d3_3 rfl ?_
  rw [show ((2 : Int32) * (3 : Int32)) = (6 : Int32) from by decide]
  refine go_newarrayE K X0 (ad := "[I") (by decide) (wd hw 11 rfl) e0 d3_4 (i := 6) (cap := 6) rfl (by decide) (by decide) rfl (cells' := 1) (slots' := 6) rfl rfl (by decide) (by decide) ?_
  intro T205 h205 b205 g205 X205 e205 E205 A205 C205
  have ga206 : n0 ≤ b205 := Nat.le_trans H0 (Nat.le_of_eq g205.symm)
  have gb207 : h0.size ≤ b205 := Nat.le_trans (Keep.refl h0 []).1 (Nat.le_of_eq g205.symm)
  have kp208 : Keep h0 h205 [] := (Keep.refl h0 []).trans (Keep.ext (Keep.refl _ []) E205) all0
  have f209 : AV Z h205 b205 .int [(.int (0 : Int32)), (.int (0 : Int32)), (.int (0 : Int32)), (.int (0 : Int32)), (.int (0 : Int32)), (.int (0 : Int32))] := A205
  refine go_astoreN K X205 #[.val (.ref a1), .val (.ref b205), .unset, .unset, .unset, .unset, .unset] d3_6 rfl rfl rfl ?_
  refine go_iconst K X205 (0 : Int32) d3_7 rfl rfl ?_
  refine go_istoreN K X205 #[.val (.ref a1), .val (.ref b205), .val (.int (0 : Int32)), .unset, .unset, .unset, .unset] d3_8 rfl rfl ?_
  refine go_aloadN K X205 d3_9 rfl rfl rfl ?_
  refine go_astoreN K X205 #[.val (.ref a1), .val (.ref b205), .val (.int (0 : Int32)), .val (.ref a1), .unset, .unset, .unset] d3_10 rfl rfl rfl ?_
  refine go_aloadN K X205 d3_11 rfl rfl rfl ?_
  have f210 : AV Z h205 a1 .int [(.int y0), (.int y1), (.int y2)] := (H1.keep (Keep.ext (Keep.refl _ []) E205) nin0)
  refine go_arraylength K X205 e205 f210 (z := (3 : Int32)) rfl d3_12 rfl ?_
  refine go_istore K X205 #[.val (.ref a1), .val (.ref b205), .val (.int (0 : Int32)), .val (.ref a1), .val (.int (3 : Int32)), .unset, .unset] d3_13 rfl rfl ?_
  refine go_iconst K X205 (0 : Int32) d3_15 rfl rfl ?_
  refine go_istore K X205 #[.val (.ref a1), .val (.ref b205), .val (.int (0 : Int32)), .val (.ref a1), .val (.int (3 : Int32)), .val (.int (0 : Int32)), .unset] d3_16 rfl rfl ?_
  refine go_iload K X205 d3_18 rfl rfl ?_
  refine go_iload K X205 d3_20 rfl rfl ?_
  refine go_icmpF K X205 d3_22 rfl (by decide : (0 : Int32) < (3 : Int32)) ?_
  refine go_aloadN K X205 d3_25 rfl rfl rfl ?_
  refine go_iload K X205 d3_26 rfl rfl ?_
  refine go_iaload K X205 e205 f210 (i := 0) rfl rfl d3_28 rfl ?_
  refine go_istore K X205 #[.val (.ref a1), .val (.ref b205), .val (.int (0 : Int32)), .val (.ref a1), .val (.int (3 : Int32)), .val (.int (0 : Int32)), .val (.int y0)] d3_29 rfl rfl ?_
  refine go_iloadN K X205 d3_31 rfl rfl ?_
  refine go_ifT K X205 d3_32 (by decide) rfl (by decide : ¬ (0 : Int32) < (0 : Int32)) ?_
  refine go_aloadN K X205 d3_57 rfl rfl rfl ?_
  refine go_iloadN K X205 d3_58 rfl rfl ?_
  refine go_iinc K X205 (1 : Int32) #[.val (.ref a1), .val (.ref b205), .val (.int ((0 : Int32) + (1 : Int32))), .val (.ref a1), .val (.int (3 : Int32)), .val (.int (0 : Int32)), .val (.int y0)] d3_59 rfl rfl rfl rfl ?_
  rw [show ((0 : Int32) + (1 : Int32)) = (1 : Int32) from by decide]
  refine go_iload K X205 d3_62 rfl rfl ?_
  refine go_iastore K X205 e205 f209 (i := 0) rfl (Nat.le_of_ble_eq_true rfl) ga206 d3_64 rfl ?_
  intro T211 h211 X211 e211 W211 A211
  have kp212 : Keep h0 h211 [] := kp208.trans (Keep.of_wr W211) (allS (Or.inr gb207) all0)
  have f213 : AV Z h211 b205 .int [(.int y0), (.int (0 : Int32)), (.int (0 : Int32)), (.int (0 : Int32)), (.int (0 : Int32)), (.int (0 : Int32))] := A211
  refine go_aloadN K X211 d3_65 rfl rfl rfl ?_
  refine go_iloadN K X211 d3_66 rfl rfl ?_
  refine go_iinc K X211 (1 : Int32) #[.val (.ref a1), .val (.ref b205), .val (.int ((1 : Int32) + (1 : Int32))), .val (.ref a1), .val (.int (3 : Int32)), .val (.int (0 : Int32)), .val (.int y0)] d3_67 rfl rfl rfl rfl ?_
  rw [show ((1 : Int32) + (1 : Int32)) = (2 : Int32) from by decide]
  refine go_iload K X211 d3_70 rfl rfl ?_
  refine go_iconst K X211 (1 : Int32) d3_72 rfl rfl ?_
  refine go_iadd K X211 d3_73 rfl ?_
  refine go_iastore K X211 e211 f213 (i := 1) rfl (Nat.le_of_ble_eq_true rfl) ga206 d3_74 rfl ?_
  intro T214 h214 X214 e214 W214 A214
  have kp215 : Keep h0 h214 [] := kp212.trans (Keep.of_wr W214) (allS (Or.inr gb207) all0)
  have f216 : AV Z h214 b205 .int [(.int y0), (.int (y0 + (1 : Int32))), (.int (0 : Int32)), (.int (0 : Int32)), (.int (0 : Int32)), (.int (0 : Int32))] := A214
  refine go_iinc K X214 (1 : Int32) #[.val (.ref a1), .val (.ref b205), .val (.int (2 : Int32)), .val (.ref a1), .val (.int (3 : Int32)), .val (.int ((0 : Int32) + (1 : Int32))), .val (.int y0)] d3_75 rfl rfl rfl rfl ?_
  rw [show ((0 : Int32) + (1 : Int32)) = (1 : Int32) from by decide]
  refine go_goto K X214 d3_78 (by decide) rfl ?_
  refine go_iload K X214 d3_18 rfl rfl ?_
  refine go_iload K X214 d3_20 rfl rfl ?_
  refine go_icmpF K X214 d3_22 rfl (by decide : (1 : Int32) < (3 : Int32)) ?_
  refine go_aloadN K X214 d3_25 rfl rfl rfl ?_
  refine go_iload K X214 d3_26 rfl rfl ?_
  have f217 : AV Z h214 a1 .int [(.int y0), (.int y1), (.int y2)] := ((f210.keep (Keep.of_wr W211) (ninS (Nat.ne_of_lt (Nat.lt_of_lt_of_le H1.lt (Nat.le_of_eq g205.symm))) nin0)).keep (Keep.of_wr W214) (ninS (Nat.ne_of_lt (Nat.lt_of_lt_of_le H1.lt (Nat.le_of_eq g205.symm))) nin0))
  refine go_iaload K X214 e214 f217 (i := 1) rfl rfl d3_28 rfl ?_
  refine go_istore K X214 #[.val (.ref a1), .val (.ref b205), .val (.int (2 : Int32)), .val (.ref a1), .val (.int (3 : Int32)), .val (.int (1 : Int32)), .val (.int y1)] d3_29 rfl rfl ?_
  refine go_iloadN K X214 d3_31 rfl rfl ?_
  refine go_ifF K X214 d3_32 rfl (by decide : (0 : Int32) < (2 : Int32)) ?_
  refine go_aloadN K X214 d3_35 rfl rfl rfl ?_
  refine go_iloadN K X214 d3_36 rfl rfl ?_
  refine go_iconst K X214 (1 : Int32) d3_37 rfl rfl ?_
  refine go_isub K X214 d3_38 rfl ?_
  rw [show ((2 : Int32) - (1 : Int32)) = (1 : Int32) from by decide]
  refine go_iaload K X214 e214 f216 (i := 1) rfl rfl d3_39 rfl ?_
  refine go_iload K X214 d3_40 rfl rfl ?_
  refine go_icmp K X214 d3_42 (by decide) rfl rfl ?_ ?_
  · intro (hc218 : ¬ (y0 + (1 : Int32)) = y1)
    refine go_aloadN K X214 d3_57 rfl rfl rfl ?_
    refine go_iloadN K X214 d3_58 rfl rfl ?_
    refine go_iinc K X214 (1 : Int32) #[.val (.ref a1), .val (.ref b205), .val (.int ((2 : Int32) + (1 : Int32))), .val (.ref a1), .val (.int (3 : Int32)), .val (.int (1 : Int32)), .val (.int y1)] d3_59 rfl rfl rfl rfl ?_
    rw [show ((2 : Int32) + (1 : Int32)) = (3 : Int32) from by decide]
    refine go_iload K X214 d3_62 rfl rfl ?_
    refine go_iastore K X214 e214 f216 (i := 2) rfl (Nat.le_of_ble_eq_true rfl) ga206 d3_64 rfl ?_
    intro T219 h219 X219 e219 W219 A219
    have kp220 : Keep h0 h219 [] := kp215.trans (Keep.of_wr W219) (allS (Or.inr gb207) all0)
    have f221 : AV Z h219 b205 .int [(.int y0), (.int (y0 + (1 : Int32))), (.int y1), (.int (0 : Int32)), (.int (0 : Int32)), (.int (0 : Int32))] := A219
    refine go_aloadN K X219 d3_65 rfl rfl rfl ?_
    refine go_iloadN K X219 d3_66 rfl rfl ?_
    refine go_iinc K X219 (1 : Int32) #[.val (.ref a1), .val (.ref b205), .val (.int ((3 : Int32) + (1 : Int32))), .val (.ref a1), .val (.int (3 : Int32)), .val (.int (1 : Int32)), .val (.int y1)] d3_67 rfl rfl rfl rfl ?_
    rw [show ((3 : Int32) + (1 : Int32)) = (4 : Int32) from by decide]
    refine go_iload K X219 d3_70 rfl rfl ?_
    refine go_iconst K X219 (1 : Int32) d3_72 rfl rfl ?_
    refine go_iadd K X219 d3_73 rfl ?_
    refine go_iastore K X219 e219 f221 (i := 3) rfl (Nat.le_of_ble_eq_true rfl) ga206 d3_74 rfl ?_
    intro T222 h222 X222 e222 W222 A222
    have kp223 : Keep h0 h222 [] := kp220.trans (Keep.of_wr W222) (allS (Or.inr gb207) all0)
    have f224 : AV Z h222 b205 .int [(.int y0), (.int (y0 + (1 : Int32))), (.int y1), (.int (y1 + (1 : Int32))), (.int (0 : Int32)), (.int (0 : Int32))] := A222
    refine go_iinc K X222 (1 : Int32) #[.val (.ref a1), .val (.ref b205), .val (.int (4 : Int32)), .val (.ref a1), .val (.int (3 : Int32)), .val (.int ((1 : Int32) + (1 : Int32))), .val (.int y1)] d3_75 rfl rfl rfl rfl ?_
    rw [show ((1 : Int32) + (1 : Int32)) = (2 : Int32) from by decide]
    refine go_goto K X222 d3_78 (by decide) rfl ?_
    refine go_iload K X222 d3_18 rfl rfl ?_
    refine go_iload K X222 d3_20 rfl rfl ?_
    refine go_icmpF K X222 d3_22 rfl (by decide : (2 : Int32) < (3 : Int32)) ?_
    refine go_aloadN K X222 d3_25 rfl rfl rfl ?_
    refine go_iload K X222 d3_26 rfl rfl ?_
    have f225 : AV Z h222 a1 .int [(.int y0), (.int y1), (.int y2)] := ((f217.keep (Keep.of_wr W219) (ninS (Nat.ne_of_lt (Nat.lt_of_lt_of_le H1.lt (Nat.le_of_eq g205.symm))) nin0)).keep (Keep.of_wr W222) (ninS (Nat.ne_of_lt (Nat.lt_of_lt_of_le H1.lt (Nat.le_of_eq g205.symm))) nin0))
    refine go_iaload K X222 e222 f225 (i := 2) rfl rfl d3_28 rfl ?_
    refine go_istore K X222 #[.val (.ref a1), .val (.ref b205), .val (.int (4 : Int32)), .val (.ref a1), .val (.int (3 : Int32)), .val (.int (2 : Int32)), .val (.int y2)] d3_29 rfl rfl ?_
    refine go_iloadN K X222 d3_31 rfl rfl ?_
    refine go_ifF K X222 d3_32 rfl (by decide : (0 : Int32) < (4 : Int32)) ?_
    refine go_aloadN K X222 d3_35 rfl rfl rfl ?_
    refine go_iloadN K X222 d3_36 rfl rfl ?_
    refine go_iconst K X222 (1 : Int32) d3_37 rfl rfl ?_
    refine go_isub K X222 d3_38 rfl ?_
    rw [show ((4 : Int32) - (1 : Int32)) = (3 : Int32) from by decide]
    refine go_iaload K X222 e222 f224 (i := 3) rfl rfl d3_39 rfl ?_
    refine go_iload K X222 d3_40 rfl rfl ?_
    refine go_icmp K X222 d3_42 (by decide) rfl rfl ?_ ?_
    · intro (hc226 : ¬ (y1 + (1 : Int32)) = y2)
      refine go_aloadN K X222 d3_57 rfl rfl rfl ?_
      refine go_iloadN K X222 d3_58 rfl rfl ?_
      refine go_iinc K X222 (1 : Int32) #[.val (.ref a1), .val (.ref b205), .val (.int ((4 : Int32) + (1 : Int32))), .val (.ref a1), .val (.int (3 : Int32)), .val (.int (2 : Int32)), .val (.int y2)] d3_59 rfl rfl rfl rfl ?_
      rw [show ((4 : Int32) + (1 : Int32)) = (5 : Int32) from by decide]
      refine go_iload K X222 d3_62 rfl rfl ?_
      refine go_iastore K X222 e222 f224 (i := 4) rfl (Nat.le_of_ble_eq_true rfl) ga206 d3_64 rfl ?_
      intro T227 h227 X227 e227 W227 A227
      have kp228 : Keep h0 h227 [] := kp223.trans (Keep.of_wr W227) (allS (Or.inr gb207) all0)
      have f229 : AV Z h227 b205 .int [(.int y0), (.int (y0 + (1 : Int32))), (.int y1), (.int (y1 + (1 : Int32))), (.int y2), (.int (0 : Int32))] := A227
      refine go_aloadN K X227 d3_65 rfl rfl rfl ?_
      refine go_iloadN K X227 d3_66 rfl rfl ?_
      refine go_iinc K X227 (1 : Int32) #[.val (.ref a1), .val (.ref b205), .val (.int ((5 : Int32) + (1 : Int32))), .val (.ref a1), .val (.int (3 : Int32)), .val (.int (2 : Int32)), .val (.int y2)] d3_67 rfl rfl rfl rfl ?_
      rw [show ((5 : Int32) + (1 : Int32)) = (6 : Int32) from by decide]
      refine go_iload K X227 d3_70 rfl rfl ?_
      refine go_iconst K X227 (1 : Int32) d3_72 rfl rfl ?_
      refine go_iadd K X227 d3_73 rfl ?_
      refine go_iastore K X227 e227 f229 (i := 5) rfl (Nat.le_of_ble_eq_true rfl) ga206 d3_74 rfl ?_
      intro T230 h230 X230 e230 W230 A230
      have kp231 : Keep h0 h230 [] := kp228.trans (Keep.of_wr W230) (allS (Or.inr gb207) all0)
      have f232 : AV Z h230 b205 .int [(.int y0), (.int (y0 + (1 : Int32))), (.int y1), (.int (y1 + (1 : Int32))), (.int y2), (.int (y2 + (1 : Int32)))] := A230
      refine go_iinc K X230 (1 : Int32) #[.val (.ref a1), .val (.ref b205), .val (.int (6 : Int32)), .val (.ref a1), .val (.int (3 : Int32)), .val (.int ((2 : Int32) + (1 : Int32))), .val (.int y2)] d3_75 rfl rfl rfl rfl ?_
      rw [show ((2 : Int32) + (1 : Int32)) = (3 : Int32) from by decide]
      refine go_goto K X230 d3_78 (by decide) rfl ?_
      refine go_iload K X230 d3_18 rfl rfl ?_
      refine go_iload K X230 d3_20 rfl rfl ?_
      refine go_icmpT K X230 d3_22 (by decide) rfl (by decide : ¬ (3 : Int32) < (3 : Int32)) ?_
      refine go_new K X230 (wd hw 16 rfl) (wd hw 17 rfl) (wd hw 14 rfl) e230 d3_81 rfl (cells' := 2) (slots' := 7) rfl rfl (by decide) (by decide) ?_
      intro T233 h233 b233 g233 X233 e233 E233 A233 D233
      have ga234 : n0 ≤ b233 := Nat.le_trans (Nat.le_trans (Nat.le_trans (Nat.le_trans (Nat.le_trans (Nat.le_trans (Nat.le_trans (Nat.le_trans H0 (Keep.ext (Keep.refl _ []) E205).1) (Keep.of_wr W211).1) (Keep.of_wr W214).1) (Keep.of_wr W219).1) (Keep.of_wr W222).1) (Keep.of_wr W227).1) (Keep.of_wr W230).1) (Nat.le_of_eq g233.symm)
      have gb235 : h0.size ≤ b233 := Nat.le_trans kp231.1 (Nat.le_of_eq g233.symm)
      have kp236 : Keep h0 h233 [] := kp231.trans (Keep.ext (Keep.refl _ []) E233) all0
      refine go_dup K X233 d3_84 rfl rfl ?_
      refine go_aloadN K X233 d3_85 rfl rfl rfl ?_
      refine go_iloadN K X233 d3_86 rfl rfl ?_
      have f237 : Exa Z h233 b205 "[I" := (((((((C205.keep (Keep.of_wr W211)).keep (Keep.of_wr W214)).keep (Keep.of_wr W219)).keep (Keep.of_wr W222)).keep (Keep.of_wr W227)).keep (Keep.of_wr W230)).keep (Keep.ext (Keep.refl _ []) E233))
      have f238 : AV Z h233 b205 .int [(.int y0), (.int (y0 + (1 : Int32))), (.int y1), (.int (y1 + (1 : Int32))), (.int y2), (.int (y2 + (1 : Int32)))] := (f232.keep (Keep.ext (Keep.refl _ []) E233) nin0)
      refine go_static K X233 (argsL := [(.ref b205), (.int (6 : Int32))]) (stk := [(.ref b233), (.ref b233)]) (wd hw 18 rfl) (wd hw 19 rfl) (wd hw 20 rfl) (wd hw 21 rfl) (by decide) (lenOf pd_1 rfl) e233 (rmCopyEq hw b205 (6 : Int32) [(.int y0), (.int (y0 + (1 : Int32))), (.int y1), (.int (y1 + (1 : Int32))), (.int y2), (.int (y2 + (1 : Int32)))] h233 (Nat.le_trans (Nat.le_trans (Nat.le_trans (Nat.le_trans (Nat.le_trans (Nat.le_trans (Nat.le_trans (Nat.le_trans H0 (Keep.ext (Keep.refl _ []) E205).1) (Keep.of_wr W211).1) (Keep.of_wr W214).1) (Keep.of_wr W219).1) (Keep.of_wr W222).1) (Keep.of_wr W227).1) (Keep.of_wr W230).1) (Keep.ext (Keep.refl _ []) E233).1) f237 f238 rfl (Nat.le_of_ble_eq_true rfl) (own_fit_list (by simp))) rfl rfl d3_87 rfl (by decide) (W := 2) (Nat.le_of_eq rfl) (by decide) (cells' := 3) (slots' := 15) rfl rfl (by decide) (by decide) ?_
      rintro T239 h239 _ X239 e239 ⟨r240, rfl, K239, f241, f242⟩
      show Go _ _ _ _ _ _ _ (T239.setTop (mkF m 90 #[.val (.ref a1), .val (.ref b205), .val (.int (6 : Int32)), .val (.ref a1), .val (.int (3 : Int32)), .val (.int (3 : Int32)), .val (.int y2)] [(.ref r240), (.ref b233), (.ref b233)]))
      have ga243 : n0 ≤ r240 := Nat.le_trans (Nat.le_trans (Nat.le_trans (Nat.le_trans (Nat.le_trans (Nat.le_trans (Nat.le_trans (Nat.le_trans (Nat.le_trans H0 (Keep.ext (Keep.refl _ []) E205).1) (Keep.of_wr W211).1) (Keep.of_wr W214).1) (Keep.of_wr W219).1) (Keep.of_wr W222).1) (Keep.of_wr W227).1) (Keep.of_wr W230).1) (Keep.ext (Keep.refl _ []) E233).1) f241
      have gb244 : h0.size ≤ r240 := Nat.le_trans kp236.1 f241
      have kp245 : Keep h0 h239 [] := kp236.trans K239 all0
      have hr : own_runs [y0, y1, y2] = [(.int y0), (.int (y0 + (1 : Int32))), (.int y1), (.int (y1 + (1 : Int32))), (.int y2), (.int (y2 + (1 : Int32)))] := by
        show ((own_step (own_step (own_step ([]) y0) y1) y2).reverse).map Value.int = _
        rw [own_step0, own_stepN hc218, own_stepN hc226]
        rfl
      have zr240 : AV Z h239 r240 .int (own_runs [y0, y1, y2]) := by rw [hr]; exact f242
      have f246 : Exa Z h239 b233 "com/example/divided_duty/dividedduty/policy/Ranges" := (A233.keep K239)
      have f247 : Fld Z h239 b233 "com/example/divided_duty/dividedduty/policy/Ranges" "bounds" "[I" .null := ((D233 (Or.inr (wd hw 38 rfl)) (ty := (.array .int)) (by decide) : Fld Z h233 b233 "com/example/divided_duty/dividedduty/policy/Ranges" "bounds" "[I" .null).keep K239 nin0)
      refine go_init K X239 (a := b233) (argsL := [(.ref r240)]) (stk := [(.ref b233)]) (wd hw 31 rfl) (wd hw 32 rfl) (wd hw 14 rfl) (wd hw 33 rfl) (by decide) rfl (lenOf pd_2 rfl) e239 (rmRInit hw b233 r240 .null h239 ga234 f246 f247) rfl rfl d3_90 rfl (by decide) (W := 1) (Nat.le_of_eq rfl) (by decide) (cells' := 3) (slots' := 15) rfl rfl (by decide) (by decide) ?_
      rintro T248 h248 _ X248 e248 ⟨rfl, K248, f249, f250⟩
      show Go _ _ _ _ _ _ _ (T248.setTop (mkF m 93 #[.val (.ref a1), .val (.ref b205), .val (.int (6 : Int32)), .val (.ref a1), .val (.int (3 : Int32)), .val (.int (3 : Int32)), .val (.int y2)] [(.ref b233)]))
      have kp251 : Keep h0 h248 [] := kp245.trans K248 (allS (Or.inr gb235) all0)
      refine go_retA K X248 rfl rfl rfl d3_93 (by decide) (by decide) ?_
      have f252 : AV Z h248 r240 .int (own_runs [y0, y1, y2]) := (zr240.keep K248 (ninS (Ne.symm (Nat.ne_of_lt (Nat.lt_of_lt_of_le A233.lt f241))) nin0))
      rw [e248]
      exact ⟨b233, r240, rfl, kp251, gb235, gb244, f249, f250, f252⟩
    · intro (hc226 : (y1 + (1 : Int32)) = y2)
      refine go_aloadN K X222 d3_45 rfl rfl rfl ?_
      refine go_iloadN K X222 d3_46 rfl rfl ?_
      refine go_iconst K X222 (1 : Int32) d3_47 rfl rfl ?_
      refine go_isub K X222 d3_48 rfl ?_
      rw [show ((4 : Int32) - (1 : Int32)) = (3 : Int32) from by decide]
      refine go_dup2 K X222 d3_49 rfl rfl rfl ?_
      refine go_iaload K X222 e222 f224 (i := 3) rfl rfl d3_50 rfl ?_
      refine go_iconst K X222 (1 : Int32) d3_51 rfl rfl ?_
      refine go_iadd K X222 d3_52 rfl ?_
      refine go_iastore K X222 e222 f224 (i := 3) rfl (Nat.le_of_ble_eq_true rfl) ga206 d3_53 rfl ?_
      intro T253 h253 X253 e253 W253 A253
      have kp254 : Keep h0 h253 [] := kp223.trans (Keep.of_wr W253) (allS (Or.inr gb207) all0)
      have f255 : AV Z h253 b205 .int [(.int y0), (.int (y0 + (1 : Int32))), (.int y1), (.int ((y1 + (1 : Int32)) + (1 : Int32))), (.int (0 : Int32)), (.int (0 : Int32))] := A253
      refine go_goto K X253 d3_54 (by decide) rfl ?_
      refine go_iinc K X253 (1 : Int32) #[.val (.ref a1), .val (.ref b205), .val (.int (4 : Int32)), .val (.ref a1), .val (.int (3 : Int32)), .val (.int ((2 : Int32) + (1 : Int32))), .val (.int y2)] d3_75 rfl rfl rfl rfl ?_
      rw [show ((2 : Int32) + (1 : Int32)) = (3 : Int32) from by decide]
      refine go_goto K X253 d3_78 (by decide) rfl ?_
      refine go_iload K X253 d3_18 rfl rfl ?_
      refine go_iload K X253 d3_20 rfl rfl ?_
      refine go_icmpT K X253 d3_22 (by decide) rfl (by decide : ¬ (3 : Int32) < (3 : Int32)) ?_
      refine go_new K X253 (wd hw 16 rfl) (wd hw 17 rfl) (wd hw 14 rfl) e253 d3_81 rfl (cells' := 2) (slots' := 7) rfl rfl (by decide) (by decide) ?_
      intro T256 h256 b256 g256 X256 e256 E256 A256 D256
      have ga257 : n0 ≤ b256 := Nat.le_trans (Nat.le_trans (Nat.le_trans (Nat.le_trans (Nat.le_trans (Nat.le_trans (Nat.le_trans H0 (Keep.ext (Keep.refl _ []) E205).1) (Keep.of_wr W211).1) (Keep.of_wr W214).1) (Keep.of_wr W219).1) (Keep.of_wr W222).1) (Keep.of_wr W253).1) (Nat.le_of_eq g256.symm)
      have gb258 : h0.size ≤ b256 := Nat.le_trans kp254.1 (Nat.le_of_eq g256.symm)
      have kp259 : Keep h0 h256 [] := kp254.trans (Keep.ext (Keep.refl _ []) E256) all0
      refine go_dup K X256 d3_84 rfl rfl ?_
      refine go_aloadN K X256 d3_85 rfl rfl rfl ?_
      refine go_iloadN K X256 d3_86 rfl rfl ?_
      have f260 : AV Z h256 b205 .int [(.int y0), (.int (y0 + (1 : Int32))), (.int y1), (.int ((y1 + (1 : Int32)) + (1 : Int32))), (.int (0 : Int32)), (.int (0 : Int32))] := (f255.keep (Keep.ext (Keep.refl _ []) E256) nin0)
      refine go_static K X256 (argsL := [(.ref b205), (.int (4 : Int32))]) (stk := [(.ref b256), (.ref b256)]) (wd hw 18 rfl) (wd hw 19 rfl) (wd hw 20 rfl) (wd hw 21 rfl) (by decide) (lenOf pd_1 rfl) e256 (rmCopyLt hw b205 (4 : Int32) [(.int y0), (.int (y0 + (1 : Int32))), (.int y1), (.int ((y1 + (1 : Int32)) + (1 : Int32))), (.int (0 : Int32)), (.int (0 : Int32))] 4 h256 (Nat.le_trans (Nat.le_trans (Nat.le_trans (Nat.le_trans (Nat.le_trans (Nat.le_trans (Nat.le_trans H0 (Keep.ext (Keep.refl _ []) E205).1) (Keep.of_wr W211).1) (Keep.of_wr W214).1) (Keep.of_wr W219).1) (Keep.of_wr W222).1) (Keep.of_wr W253).1) (Keep.ext (Keep.refl _ []) E256).1) f260 rfl (Nat.le_of_ble_eq_true rfl) (Nat.le_of_ble_eq_true rfl) (own_fit_list (by simp))) rfl rfl d3_87 rfl (by decide) (W := 2) (Nat.le_of_eq rfl) (by decide) (cells' := 3) (slots' := 15) rfl rfl (by decide) (by decide) ?_
      rintro T261 h261 _ X261 e261 ⟨r262, rfl, K261, f263, f264⟩
      show Go _ _ _ _ _ _ _ (T261.setTop (mkF m 90 #[.val (.ref a1), .val (.ref b205), .val (.int (4 : Int32)), .val (.ref a1), .val (.int (3 : Int32)), .val (.int (3 : Int32)), .val (.int y2)] [(.ref r262), (.ref b256), (.ref b256)]))
      have ga265 : n0 ≤ r262 := Nat.le_trans (Nat.le_trans (Nat.le_trans (Nat.le_trans (Nat.le_trans (Nat.le_trans (Nat.le_trans (Nat.le_trans H0 (Keep.ext (Keep.refl _ []) E205).1) (Keep.of_wr W211).1) (Keep.of_wr W214).1) (Keep.of_wr W219).1) (Keep.of_wr W222).1) (Keep.of_wr W253).1) (Keep.ext (Keep.refl _ []) E256).1) f263
      have gb266 : h0.size ≤ r262 := Nat.le_trans kp259.1 f263
      have kp267 : Keep h0 h261 [] := kp259.trans K261 all0
      have hr : own_runs [y0, y1, y2] = [(.int y0), (.int (y0 + (1 : Int32))), (.int y1), (.int ((y1 + (1 : Int32)) + (1 : Int32)))] := by
        show ((own_step (own_step (own_step ([]) y0) y1) y2).reverse).map Value.int = _
        rw [own_step0, own_stepN hc218, own_stepY hc226]
        rfl
      have zr262 : AV Z h261 r262 .int (own_runs [y0, y1, y2]) := by rw [hr]; exact f264
      have f268 : Exa Z h261 b256 "com/example/divided_duty/dividedduty/policy/Ranges" := (A256.keep K261)
      have f269 : Fld Z h261 b256 "com/example/divided_duty/dividedduty/policy/Ranges" "bounds" "[I" .null := ((D256 (Or.inr (wd hw 38 rfl)) (ty := (.array .int)) (by decide) : Fld Z h256 b256 "com/example/divided_duty/dividedduty/policy/Ranges" "bounds" "[I" .null).keep K261 nin0)
      refine go_init K X261 (a := b256) (argsL := [(.ref r262)]) (stk := [(.ref b256)]) (wd hw 31 rfl) (wd hw 32 rfl) (wd hw 14 rfl) (wd hw 33 rfl) (by decide) rfl (lenOf pd_2 rfl) e261 (rmRInit hw b256 r262 .null h261 ga257 f268 f269) rfl rfl d3_90 rfl (by decide) (W := 1) (Nat.le_of_eq rfl) (by decide) (cells' := 3) (slots' := 15) rfl rfl (by decide) (by decide) ?_
      rintro T270 h270 _ X270 e270 ⟨rfl, K270, f271, f272⟩
      show Go _ _ _ _ _ _ _ (T270.setTop (mkF m 93 #[.val (.ref a1), .val (.ref b205), .val (.int (4 : Int32)), .val (.ref a1), .val (.int (3 : Int32)), .val (.int (3 : Int32)), .val (.int y2)] [(.ref b256)]))
      have kp273 : Keep h0 h270 [] := kp267.trans K270 (allS (Or.inr gb258) all0)
      refine go_retA K X270 rfl rfl rfl d3_93 (by decide) (by decide) ?_
      have f274 : AV Z h270 r262 .int (own_runs [y0, y1, y2]) := (zr262.keep K270 (ninS (Ne.symm (Nat.ne_of_lt (Nat.lt_of_lt_of_le A256.lt f263))) nin0))
      rw [e270]
      exact ⟨b256, r262, rfl, kp273, gb258, gb266, f271, f272, f274⟩
  · intro (hc218 : (y0 + (1 : Int32)) = y1)
    refine go_aloadN K X214 d3_45 rfl rfl rfl ?_
    refine go_iloadN K X214 d3_46 rfl rfl ?_
    refine go_iconst K X214 (1 : Int32) d3_47 rfl rfl ?_
    refine go_isub K X214 d3_48 rfl ?_
    rw [show ((2 : Int32) - (1 : Int32)) = (1 : Int32) from by decide]
    refine go_dup2 K X214 d3_49 rfl rfl rfl ?_
    refine go_iaload K X214 e214 f216 (i := 1) rfl rfl d3_50 rfl ?_
    refine go_iconst K X214 (1 : Int32) d3_51 rfl rfl ?_
    refine go_iadd K X214 d3_52 rfl ?_
    refine go_iastore K X214 e214 f216 (i := 1) rfl (Nat.le_of_ble_eq_true rfl) ga206 d3_53 rfl ?_
    intro T275 h275 X275 e275 W275 A275
    have kp276 : Keep h0 h275 [] := kp215.trans (Keep.of_wr W275) (allS (Or.inr gb207) all0)
    have f277 : AV Z h275 b205 .int [(.int y0), (.int ((y0 + (1 : Int32)) + (1 : Int32))), (.int (0 : Int32)), (.int (0 : Int32)), (.int (0 : Int32)), (.int (0 : Int32))] := A275
    refine go_goto K X275 d3_54 (by decide) rfl ?_
    refine go_iinc K X275 (1 : Int32) #[.val (.ref a1), .val (.ref b205), .val (.int (2 : Int32)), .val (.ref a1), .val (.int (3 : Int32)), .val (.int ((1 : Int32) + (1 : Int32))), .val (.int y1)] d3_75 rfl rfl rfl rfl ?_
    rw [show ((1 : Int32) + (1 : Int32)) = (2 : Int32) from by decide]
    refine go_goto K X275 d3_78 (by decide) rfl ?_
    refine go_iload K X275 d3_18 rfl rfl ?_
    refine go_iload K X275 d3_20 rfl rfl ?_
    refine go_icmpF K X275 d3_22 rfl (by decide : (2 : Int32) < (3 : Int32)) ?_
    refine go_aloadN K X275 d3_25 rfl rfl rfl ?_
    refine go_iload K X275 d3_26 rfl rfl ?_
    have f278 : AV Z h275 a1 .int [(.int y0), (.int y1), (.int y2)] := (f217.keep (Keep.of_wr W275) (ninS (Nat.ne_of_lt (Nat.lt_of_lt_of_le H1.lt (Nat.le_of_eq g205.symm))) nin0))
    refine go_iaload K X275 e275 f278 (i := 2) rfl rfl d3_28 rfl ?_
    refine go_istore K X275 #[.val (.ref a1), .val (.ref b205), .val (.int (2 : Int32)), .val (.ref a1), .val (.int (3 : Int32)), .val (.int (2 : Int32)), .val (.int y2)] d3_29 rfl rfl ?_
    refine go_iloadN K X275 d3_31 rfl rfl ?_
    refine go_ifF K X275 d3_32 rfl (by decide : (0 : Int32) < (2 : Int32)) ?_
    refine go_aloadN K X275 d3_35 rfl rfl rfl ?_
    refine go_iloadN K X275 d3_36 rfl rfl ?_
    refine go_iconst K X275 (1 : Int32) d3_37 rfl rfl ?_
    refine go_isub K X275 d3_38 rfl ?_
    rw [show ((2 : Int32) - (1 : Int32)) = (1 : Int32) from by decide]
    refine go_iaload K X275 e275 f277 (i := 1) rfl rfl d3_39 rfl ?_
    refine go_iload K X275 d3_40 rfl rfl ?_
    refine go_icmp K X275 d3_42 (by decide) rfl rfl ?_ ?_
    · intro (hc279 : ¬ ((y0 + (1 : Int32)) + (1 : Int32)) = y2)
      refine go_aloadN K X275 d3_57 rfl rfl rfl ?_
      refine go_iloadN K X275 d3_58 rfl rfl ?_
      refine go_iinc K X275 (1 : Int32) #[.val (.ref a1), .val (.ref b205), .val (.int ((2 : Int32) + (1 : Int32))), .val (.ref a1), .val (.int (3 : Int32)), .val (.int (2 : Int32)), .val (.int y2)] d3_59 rfl rfl rfl rfl ?_
      rw [show ((2 : Int32) + (1 : Int32)) = (3 : Int32) from by decide]
      refine go_iload K X275 d3_62 rfl rfl ?_
      refine go_iastore K X275 e275 f277 (i := 2) rfl (Nat.le_of_ble_eq_true rfl) ga206 d3_64 rfl ?_
      intro T280 h280 X280 e280 W280 A280
      have kp281 : Keep h0 h280 [] := kp276.trans (Keep.of_wr W280) (allS (Or.inr gb207) all0)
      have f282 : AV Z h280 b205 .int [(.int y0), (.int ((y0 + (1 : Int32)) + (1 : Int32))), (.int y2), (.int (0 : Int32)), (.int (0 : Int32)), (.int (0 : Int32))] := A280
      refine go_aloadN K X280 d3_65 rfl rfl rfl ?_
      refine go_iloadN K X280 d3_66 rfl rfl ?_
      refine go_iinc K X280 (1 : Int32) #[.val (.ref a1), .val (.ref b205), .val (.int ((3 : Int32) + (1 : Int32))), .val (.ref a1), .val (.int (3 : Int32)), .val (.int (2 : Int32)), .val (.int y2)] d3_67 rfl rfl rfl rfl ?_
      rw [show ((3 : Int32) + (1 : Int32)) = (4 : Int32) from by decide]
      refine go_iload K X280 d3_70 rfl rfl ?_
      refine go_iconst K X280 (1 : Int32) d3_72 rfl rfl ?_
      refine go_iadd K X280 d3_73 rfl ?_
      refine go_iastore K X280 e280 f282 (i := 3) rfl (Nat.le_of_ble_eq_true rfl) ga206 d3_74 rfl ?_
      intro T283 h283 X283 e283 W283 A283
      have kp284 : Keep h0 h283 [] := kp281.trans (Keep.of_wr W283) (allS (Or.inr gb207) all0)
      have f285 : AV Z h283 b205 .int [(.int y0), (.int ((y0 + (1 : Int32)) + (1 : Int32))), (.int y2), (.int (y2 + (1 : Int32))), (.int (0 : Int32)), (.int (0 : Int32))] := A283
      refine go_iinc K X283 (1 : Int32) #[.val (.ref a1), .val (.ref b205), .val (.int (4 : Int32)), .val (.ref a1), .val (.int (3 : Int32)), .val (.int ((2 : Int32) + (1 : Int32))), .val (.int y2)] d3_75 rfl rfl rfl rfl ?_
      rw [show ((2 : Int32) + (1 : Int32)) = (3 : Int32) from by decide]
      refine go_goto K X283 d3_78 (by decide) rfl ?_
      refine go_iload K X283 d3_18 rfl rfl ?_
      refine go_iload K X283 d3_20 rfl rfl ?_
      refine go_icmpT K X283 d3_22 (by decide) rfl (by decide : ¬ (3 : Int32) < (3 : Int32)) ?_
      refine go_new K X283 (wd hw 16 rfl) (wd hw 17 rfl) (wd hw 14 rfl) e283 d3_81 rfl (cells' := 2) (slots' := 7) rfl rfl (by decide) (by decide) ?_
      intro T286 h286 b286 g286 X286 e286 E286 A286 D286
      have ga287 : n0 ≤ b286 := Nat.le_trans (Nat.le_trans (Nat.le_trans (Nat.le_trans (Nat.le_trans (Nat.le_trans (Nat.le_trans H0 (Keep.ext (Keep.refl _ []) E205).1) (Keep.of_wr W211).1) (Keep.of_wr W214).1) (Keep.of_wr W275).1) (Keep.of_wr W280).1) (Keep.of_wr W283).1) (Nat.le_of_eq g286.symm)
      have gb288 : h0.size ≤ b286 := Nat.le_trans kp284.1 (Nat.le_of_eq g286.symm)
      have kp289 : Keep h0 h286 [] := kp284.trans (Keep.ext (Keep.refl _ []) E286) all0
      refine go_dup K X286 d3_84 rfl rfl ?_
      refine go_aloadN K X286 d3_85 rfl rfl rfl ?_
      refine go_iloadN K X286 d3_86 rfl rfl ?_
      have f290 : AV Z h286 b205 .int [(.int y0), (.int ((y0 + (1 : Int32)) + (1 : Int32))), (.int y2), (.int (y2 + (1 : Int32))), (.int (0 : Int32)), (.int (0 : Int32))] := (f285.keep (Keep.ext (Keep.refl _ []) E286) nin0)
      refine go_static K X286 (argsL := [(.ref b205), (.int (4 : Int32))]) (stk := [(.ref b286), (.ref b286)]) (wd hw 18 rfl) (wd hw 19 rfl) (wd hw 20 rfl) (wd hw 21 rfl) (by decide) (lenOf pd_1 rfl) e286 (rmCopyLt hw b205 (4 : Int32) [(.int y0), (.int ((y0 + (1 : Int32)) + (1 : Int32))), (.int y2), (.int (y2 + (1 : Int32))), (.int (0 : Int32)), (.int (0 : Int32))] 4 h286 (Nat.le_trans (Nat.le_trans (Nat.le_trans (Nat.le_trans (Nat.le_trans (Nat.le_trans (Nat.le_trans H0 (Keep.ext (Keep.refl _ []) E205).1) (Keep.of_wr W211).1) (Keep.of_wr W214).1) (Keep.of_wr W275).1) (Keep.of_wr W280).1) (Keep.of_wr W283).1) (Keep.ext (Keep.refl _ []) E286).1) f290 rfl (Nat.le_of_ble_eq_true rfl) (Nat.le_of_ble_eq_true rfl) (own_fit_list (by simp))) rfl rfl d3_87 rfl (by decide) (W := 2) (Nat.le_of_eq rfl) (by decide) (cells' := 3) (slots' := 15) rfl rfl (by decide) (by decide) ?_
      rintro T291 h291 _ X291 e291 ⟨r292, rfl, K291, f293, f294⟩
      show Go _ _ _ _ _ _ _ (T291.setTop (mkF m 90 #[.val (.ref a1), .val (.ref b205), .val (.int (4 : Int32)), .val (.ref a1), .val (.int (3 : Int32)), .val (.int (3 : Int32)), .val (.int y2)] [(.ref r292), (.ref b286), (.ref b286)]))
      have ga295 : n0 ≤ r292 := Nat.le_trans (Nat.le_trans (Nat.le_trans (Nat.le_trans (Nat.le_trans (Nat.le_trans (Nat.le_trans (Nat.le_trans H0 (Keep.ext (Keep.refl _ []) E205).1) (Keep.of_wr W211).1) (Keep.of_wr W214).1) (Keep.of_wr W275).1) (Keep.of_wr W280).1) (Keep.of_wr W283).1) (Keep.ext (Keep.refl _ []) E286).1) f293
      have gb296 : h0.size ≤ r292 := Nat.le_trans kp289.1 f293
      have kp297 : Keep h0 h291 [] := kp289.trans K291 all0
      have hr : own_runs [y0, y1, y2] = [(.int y0), (.int ((y0 + (1 : Int32)) + (1 : Int32))), (.int y2), (.int (y2 + (1 : Int32)))] := by
        show ((own_step (own_step (own_step ([]) y0) y1) y2).reverse).map Value.int = _
        rw [own_step0, own_stepY hc218, own_stepN hc279]
        rfl
      have zr292 : AV Z h291 r292 .int (own_runs [y0, y1, y2]) := by rw [hr]; exact f294
      have f298 : Exa Z h291 b286 "com/example/divided_duty/dividedduty/policy/Ranges" := (A286.keep K291)
      have f299 : Fld Z h291 b286 "com/example/divided_duty/dividedduty/policy/Ranges" "bounds" "[I" .null := ((D286 (Or.inr (wd hw 38 rfl)) (ty := (.array .int)) (by decide) : Fld Z h286 b286 "com/example/divided_duty/dividedduty/policy/Ranges" "bounds" "[I" .null).keep K291 nin0)
      refine go_init K X291 (a := b286) (argsL := [(.ref r292)]) (stk := [(.ref b286)]) (wd hw 31 rfl) (wd hw 32 rfl) (wd hw 14 rfl) (wd hw 33 rfl) (by decide) rfl (lenOf pd_2 rfl) e291 (rmRInit hw b286 r292 .null h291 ga287 f298 f299) rfl rfl d3_90 rfl (by decide) (W := 1) (Nat.le_of_eq rfl) (by decide) (cells' := 3) (slots' := 15) rfl rfl (by decide) (by decide) ?_
      rintro T300 h300 _ X300 e300 ⟨rfl, K300, f301, f302⟩
      show Go _ _ _ _ _ _ _ (T300.setTop (mkF m 93 #[.val (.ref a1), .val (.ref b205), .val (.int (4 : Int32)), .val (.ref a1), .val (.int (3 : Int32)), .val (.int (3 : Int32)), .val (.int y2)] [(.ref b286)]))
      have kp303 : Keep h0 h300 [] := kp297.trans K300 (allS (Or.inr gb288) all0)
      refine go_retA K X300 rfl rfl rfl d3_93 (by decide) (by decide) ?_
      have f304 : AV Z h300 r292 .int (own_runs [y0, y1, y2]) := (zr292.keep K300 (ninS (Ne.symm (Nat.ne_of_lt (Nat.lt_of_lt_of_le A286.lt f293))) nin0))
      rw [e300]
      exact ⟨b286, r292, rfl, kp303, gb288, gb296, f301, f302, f304⟩
    · intro (hc279 : ((y0 + (1 : Int32)) + (1 : Int32)) = y2)
      refine go_aloadN K X275 d3_45 rfl rfl rfl ?_
      refine go_iloadN K X275 d3_46 rfl rfl ?_
      refine go_iconst K X275 (1 : Int32) d3_47 rfl rfl ?_
      refine go_isub K X275 d3_48 rfl ?_
      rw [show ((2 : Int32) - (1 : Int32)) = (1 : Int32) from by decide]
      refine go_dup2 K X275 d3_49 rfl rfl rfl ?_
      refine go_iaload K X275 e275 f277 (i := 1) rfl rfl d3_50 rfl ?_
      refine go_iconst K X275 (1 : Int32) d3_51 rfl rfl ?_
      refine go_iadd K X275 d3_52 rfl ?_
      refine go_iastore K X275 e275 f277 (i := 1) rfl (Nat.le_of_ble_eq_true rfl) ga206 d3_53 rfl ?_
      intro T305 h305 X305 e305 W305 A305
      have kp306 : Keep h0 h305 [] := kp276.trans (Keep.of_wr W305) (allS (Or.inr gb207) all0)
      have f307 : AV Z h305 b205 .int [(.int y0), (.int (((y0 + (1 : Int32)) + (1 : Int32)) + (1 : Int32))), (.int (0 : Int32)), (.int (0 : Int32)), (.int (0 : Int32)), (.int (0 : Int32))] := A305
      refine go_goto K X305 d3_54 (by decide) rfl ?_
      refine go_iinc K X305 (1 : Int32) #[.val (.ref a1), .val (.ref b205), .val (.int (2 : Int32)), .val (.ref a1), .val (.int (3 : Int32)), .val (.int ((2 : Int32) + (1 : Int32))), .val (.int y2)] d3_75 rfl rfl rfl rfl ?_
      rw [show ((2 : Int32) + (1 : Int32)) = (3 : Int32) from by decide]
      refine go_goto K X305 d3_78 (by decide) rfl ?_
      refine go_iload K X305 d3_18 rfl rfl ?_
      refine go_iload K X305 d3_20 rfl rfl ?_
      refine go_icmpT K X305 d3_22 (by decide) rfl (by decide : ¬ (3 : Int32) < (3 : Int32)) ?_
      refine go_new K X305 (wd hw 16 rfl) (wd hw 17 rfl) (wd hw 14 rfl) e305 d3_81 rfl (cells' := 2) (slots' := 7) rfl rfl (by decide) (by decide) ?_
      intro T308 h308 b308 g308 X308 e308 E308 A308 D308
      have ga309 : n0 ≤ b308 := Nat.le_trans (Nat.le_trans (Nat.le_trans (Nat.le_trans (Nat.le_trans (Nat.le_trans H0 (Keep.ext (Keep.refl _ []) E205).1) (Keep.of_wr W211).1) (Keep.of_wr W214).1) (Keep.of_wr W275).1) (Keep.of_wr W305).1) (Nat.le_of_eq g308.symm)
      have gb310 : h0.size ≤ b308 := Nat.le_trans kp306.1 (Nat.le_of_eq g308.symm)
      have kp311 : Keep h0 h308 [] := kp306.trans (Keep.ext (Keep.refl _ []) E308) all0
      refine go_dup K X308 d3_84 rfl rfl ?_
      refine go_aloadN K X308 d3_85 rfl rfl rfl ?_
      refine go_iloadN K X308 d3_86 rfl rfl ?_
      have f312 : AV Z h308 b205 .int [(.int y0), (.int (((y0 + (1 : Int32)) + (1 : Int32)) + (1 : Int32))), (.int (0 : Int32)), (.int (0 : Int32)), (.int (0 : Int32)), (.int (0 : Int32))] := (f307.keep (Keep.ext (Keep.refl _ []) E308) nin0)
      refine go_static K X308 (argsL := [(.ref b205), (.int (2 : Int32))]) (stk := [(.ref b308), (.ref b308)]) (wd hw 18 rfl) (wd hw 19 rfl) (wd hw 20 rfl) (wd hw 21 rfl) (by decide) (lenOf pd_1 rfl) e308 (rmCopyLt hw b205 (2 : Int32) [(.int y0), (.int (((y0 + (1 : Int32)) + (1 : Int32)) + (1 : Int32))), (.int (0 : Int32)), (.int (0 : Int32)), (.int (0 : Int32)), (.int (0 : Int32))] 2 h308 (Nat.le_trans (Nat.le_trans (Nat.le_trans (Nat.le_trans (Nat.le_trans (Nat.le_trans H0 (Keep.ext (Keep.refl _ []) E205).1) (Keep.of_wr W211).1) (Keep.of_wr W214).1) (Keep.of_wr W275).1) (Keep.of_wr W305).1) (Keep.ext (Keep.refl _ []) E308).1) f312 rfl (Nat.le_of_ble_eq_true rfl) (Nat.le_of_ble_eq_true rfl) (own_fit_list (by simp))) rfl rfl d3_87 rfl (by decide) (W := 2) (Nat.le_of_eq rfl) (by decide) (cells' := 3) (slots' := 15) rfl rfl (by decide) (by decide) ?_
      rintro T313 h313 _ X313 e313 ⟨r314, rfl, K313, f315, f316⟩
      show Go _ _ _ _ _ _ _ (T313.setTop (mkF m 90 #[.val (.ref a1), .val (.ref b205), .val (.int (2 : Int32)), .val (.ref a1), .val (.int (3 : Int32)), .val (.int (3 : Int32)), .val (.int y2)] [(.ref r314), (.ref b308), (.ref b308)]))
      have ga317 : n0 ≤ r314 := Nat.le_trans (Nat.le_trans (Nat.le_trans (Nat.le_trans (Nat.le_trans (Nat.le_trans (Nat.le_trans H0 (Keep.ext (Keep.refl _ []) E205).1) (Keep.of_wr W211).1) (Keep.of_wr W214).1) (Keep.of_wr W275).1) (Keep.of_wr W305).1) (Keep.ext (Keep.refl _ []) E308).1) f315
      have gb318 : h0.size ≤ r314 := Nat.le_trans kp311.1 f315
      have kp319 : Keep h0 h313 [] := kp311.trans K313 all0
      have hr : own_runs [y0, y1, y2] = [(.int y0), (.int (((y0 + (1 : Int32)) + (1 : Int32)) + (1 : Int32)))] := by
        show ((own_step (own_step (own_step ([]) y0) y1) y2).reverse).map Value.int = _
        rw [own_step0, own_stepY hc218, own_stepY hc279]
        rfl
      have zr314 : AV Z h313 r314 .int (own_runs [y0, y1, y2]) := by rw [hr]; exact f316
      have f320 : Exa Z h313 b308 "com/example/divided_duty/dividedduty/policy/Ranges" := (A308.keep K313)
      have f321 : Fld Z h313 b308 "com/example/divided_duty/dividedduty/policy/Ranges" "bounds" "[I" .null := ((D308 (Or.inr (wd hw 38 rfl)) (ty := (.array .int)) (by decide) : Fld Z h308 b308 "com/example/divided_duty/dividedduty/policy/Ranges" "bounds" "[I" .null).keep K313 nin0)
      refine go_init K X313 (a := b308) (argsL := [(.ref r314)]) (stk := [(.ref b308)]) (wd hw 31 rfl) (wd hw 32 rfl) (wd hw 14 rfl) (wd hw 33 rfl) (by decide) rfl (lenOf pd_2 rfl) e313 (rmRInit hw b308 r314 .null h313 ga309 f320 f321) rfl rfl d3_90 rfl (by decide) (W := 1) (Nat.le_of_eq rfl) (by decide) (cells' := 3) (slots' := 15) rfl rfl (by decide) (by decide) ?_
      rintro T322 h322 _ X322 e322 ⟨rfl, K322, f323, f324⟩
      show Go _ _ _ _ _ _ _ (T322.setTop (mkF m 93 #[.val (.ref a1), .val (.ref b205), .val (.int (2 : Int32)), .val (.ref a1), .val (.int (3 : Int32)), .val (.int (3 : Int32)), .val (.int y2)] [(.ref b308)]))
      have kp325 : Keep h0 h322 [] := kp319.trans K322 (allS (Or.inr gb310) all0)
      refine go_retA K X322 rfl rfl rfl d3_93 (by decide) (by decide) ?_
      have f326 : AV Z h322 r314 .int (own_runs [y0, y1, y2]) := (zr314.keep K322 (ninS (Ne.symm (Nat.ne_of_lt (Nat.lt_of_lt_of_le A308.lt f315))) nin0))
      rw [e322]
      exact ⟨b308, r314, rfl, kp325, gb310, gb318, f323, f324, f326⟩
theorem ef_rmOfS4 (m : MethodId) (a1 : Addr) : entryFrame m #[(.ref a1)] 7 = mkF m 0 #[.val (.ref a1), .unset, .unset, .unset, .unset, .unset, .unset] [] := by first | (simp [entryFrame, mkF, argsToLocals, Value.category]; done) | rfl
def Q_rmOfS4 (Z : State) (n0 : Nat) (a1 : Addr) (y0 : Int32) (y1 : Int32) (y2 : Int32) (y3 : Int32) (h0 : Heap) (v : Option Value) (h : Heap) : Prop := ∃ r : Addr, ∃ b : Addr, v = some (.ref r) ∧ Keep h0 h [] ∧ h0.size ≤ r ∧ h0.size ≤ b ∧ Exa Z h r "com/example/divided_duty/dividedduty/policy/Ranges" ∧ Fld Z h r "com/example/divided_duty/dividedduty/policy/Ranges" "bounds" "[I" (.ref b) ∧ AV Z h b .int (own_runs [y0, y1, y2, y3])
abbrev R_rmOfS4 : Room := { frames := 2, cells := 3, slots := 17, locals := 34 }
set_option maxRecDepth 65536 in
set_option maxHeartbeats 40000000 in
theorem rmOfS4 {l : Launch} {Z : State} {n0 : Nat} {a0 : Array Value} (hw : ∀ d ∈ tables_1, d.before a0 Z = true) (a1 : Addr) (y0 : Int32) (y1 : Int32) (y2 : Int32) (y3 : Int32) (h0 : Heap) (H0 : n0 ≤ h0.size) (H1 : AV Z h0 a1 .int [(.int y0), (.int y1), (.int y2), (.int y3)]) :
    Con l Z n0 (⟨"com/example/divided_duty/dividedduty/policy/Ranges", "ofSorted", "([I)Lcom/example/divided_duty/dividedduty/policy/Ranges;"⟩ : MethodName) prog_29_method_2_code 7 (some (.object "com/example/divided_duty/dividedduty/policy/Ranges")) R_rmOfS4 #[(.ref a1)] h0 (Q_rmOfS4 Z n0 a1 y0 y1 y2 y3 h0) := by
  refine con_of (plainFor_of_name pn_com_example_divided_duty_dividedduty_policy_Ranges) ?_
  intro p e s m below meth c T0 K X0 e0
  replace K : Ctx p s m meth c Z "com/example/divided_duty/dividedduty/policy/Ranges" "ofSorted" prog_29_method_2_code 7 (some (.object "com/example/divided_duty/dividedduty/policy/Ranges")) := K
  refine go_entry (ef_rmOfS4 m a1) ?_
  refine go_iconst K X0 (2 : Int32) d3_0 rfl rfl ?_
  refine go_aloadN K X0 d3_1 rfl rfl rfl ?_
  refine go_arraylength K X0 e0 H1 (z := (4 : Int32)) rfl d3_2 rfl ?_
  refine go_imul K X0 d3_3 rfl ?_
  rw [show ((2 : Int32) * (4 : Int32)) = (8 : Int32) from by decide]
  refine go_newarrayE K X0 (ad := "[I") (by decide) (wd hw 11 rfl) e0 d3_4 (i := 8) (cap := 8) rfl (by decide) (by decide) rfl (cells' := 1) (slots' := 8) rfl rfl (by decide) (by decide) ?_
  intro T327 h327 b327 g327 X327 e327 E327 A327 C327
  have ga328 : n0 ≤ b327 := Nat.le_trans H0 (Nat.le_of_eq g327.symm)
  have gb329 : h0.size ≤ b327 := Nat.le_trans (Keep.refl h0 []).1 (Nat.le_of_eq g327.symm)
  have kp330 : Keep h0 h327 [] := (Keep.refl h0 []).trans (Keep.ext (Keep.refl _ []) E327) all0
  have f331 : AV Z h327 b327 .int [(.int (0 : Int32)), (.int (0 : Int32)), (.int (0 : Int32)), (.int (0 : Int32)), (.int (0 : Int32)), (.int (0 : Int32)), (.int (0 : Int32)), (.int (0 : Int32))] := A327
  refine go_astoreN K X327 #[.val (.ref a1), .val (.ref b327), .unset, .unset, .unset, .unset, .unset] d3_6 rfl rfl rfl ?_
  refine go_iconst K X327 (0 : Int32) d3_7 rfl rfl ?_
  refine go_istoreN K X327 #[.val (.ref a1), .val (.ref b327), .val (.int (0 : Int32)), .unset, .unset, .unset, .unset] d3_8 rfl rfl ?_
  refine go_aloadN K X327 d3_9 rfl rfl rfl ?_
  refine go_astoreN K X327 #[.val (.ref a1), .val (.ref b327), .val (.int (0 : Int32)), .val (.ref a1), .unset, .unset, .unset] d3_10 rfl rfl rfl ?_
  refine go_aloadN K X327 d3_11 rfl rfl rfl ?_
  have f332 : AV Z h327 a1 .int [(.int y0), (.int y1), (.int y2), (.int y3)] := (H1.keep (Keep.ext (Keep.refl _ []) E327) nin0)
  refine go_arraylength K X327 e327 f332 (z := (4 : Int32)) rfl d3_12 rfl ?_
  refine go_istore K X327 #[.val (.ref a1), .val (.ref b327), .val (.int (0 : Int32)), .val (.ref a1), .val (.int (4 : Int32)), .unset, .unset] d3_13 rfl rfl ?_
  refine go_iconst K X327 (0 : Int32) d3_15 rfl rfl ?_
  refine go_istore K X327 #[.val (.ref a1), .val (.ref b327), .val (.int (0 : Int32)), .val (.ref a1), .val (.int (4 : Int32)), .val (.int (0 : Int32)), .unset] d3_16 rfl rfl ?_
  refine go_iload K X327 d3_18 rfl rfl ?_
  refine go_iload K X327 d3_20 rfl rfl ?_
  refine go_icmpF K X327 d3_22 rfl (by decide : (0 : Int32) < (4 : Int32)) ?_
  refine go_aloadN K X327 d3_25 rfl rfl rfl ?_
  refine go_iload K X327 d3_26 rfl rfl ?_
  refine go_iaload K X327 e327 f332 (i := 0) rfl rfl d3_28 rfl ?_
  refine go_istore K X327 #[.val (.ref a1), .val (.ref b327), .val (.int (0 : Int32)), .val (.ref a1), .val (.int (4 : Int32)), .val (.int (0 : Int32)), .val (.int y0)] d3_29 rfl rfl ?_
  refine go_iloadN K X327 d3_31 rfl rfl ?_
  refine go_ifT K X327 d3_32 (by decide) rfl (by decide : ¬ (0 : Int32) < (0 : Int32)) ?_
  refine go_aloadN K X327 d3_57 rfl rfl rfl ?_
  refine go_iloadN K X327 d3_58 rfl rfl ?_
  refine go_iinc K X327 (1 : Int32) #[.val (.ref a1), .val (.ref b327), .val (.int ((0 : Int32) + (1 : Int32))), .val (.ref a1), .val (.int (4 : Int32)), .val (.int (0 : Int32)), .val (.int y0)] d3_59 rfl rfl rfl rfl ?_
  rw [show ((0 : Int32) + (1 : Int32)) = (1 : Int32) from by decide]
  refine go_iload K X327 d3_62 rfl rfl ?_
  refine go_iastore K X327 e327 f331 (i := 0) rfl (Nat.le_of_ble_eq_true rfl) ga328 d3_64 rfl ?_
  intro T333 h333 X333 e333 W333 A333
  have kp334 : Keep h0 h333 [] := kp330.trans (Keep.of_wr W333) (allS (Or.inr gb329) all0)
  have f335 : AV Z h333 b327 .int [(.int y0), (.int (0 : Int32)), (.int (0 : Int32)), (.int (0 : Int32)), (.int (0 : Int32)), (.int (0 : Int32)), (.int (0 : Int32)), (.int (0 : Int32))] := A333
  refine go_aloadN K X333 d3_65 rfl rfl rfl ?_
  refine go_iloadN K X333 d3_66 rfl rfl ?_
  refine go_iinc K X333 (1 : Int32) #[.val (.ref a1), .val (.ref b327), .val (.int ((1 : Int32) + (1 : Int32))), .val (.ref a1), .val (.int (4 : Int32)), .val (.int (0 : Int32)), .val (.int y0)] d3_67 rfl rfl rfl rfl ?_
  rw [show ((1 : Int32) + (1 : Int32)) = (2 : Int32) from by decide]
  refine go_iload K X333 d3_70 rfl rfl ?_
  refine go_iconst K X333 (1 : Int32) d3_72 rfl rfl ?_
  refine go_iadd K X333 d3_73 rfl ?_
  refine go_iastore K X333 e333 f335 (i := 1) rfl (Nat.le_of_ble_eq_true rfl) ga328 d3_74 rfl ?_
  intro T336 h336 X336 e336 W336 A336
  have kp337 : Keep h0 h336 [] := kp334.trans (Keep.of_wr W336) (allS (Or.inr gb329) all0)
  have f338 : AV Z h336 b327 .int [(.int y0), (.int (y0 + (1 : Int32))), (.int (0 : Int32)), (.int (0 : Int32)), (.int (0 : Int32)), (.int (0 : Int32)), (.int (0 : Int32)), (.int (0 : Int32))] := A336
  refine go_iinc K X336 (1 : Int32) #[.val (.ref a1), .val (.ref b327), .val (.int (2 : Int32)), .val (.ref a1), .val (.int (4 : Int32)), .val (.int ((0 : Int32) + (1 : Int32))), .val (.int y0)] d3_75 rfl rfl rfl rfl ?_
  rw [show ((0 : Int32) + (1 : Int32)) = (1 : Int32) from by decide]
  refine go_goto K X336 d3_78 (by decide) rfl ?_
  refine go_iload K X336 d3_18 rfl rfl ?_
  refine go_iload K X336 d3_20 rfl rfl ?_
  refine go_icmpF K X336 d3_22 rfl (by decide : (1 : Int32) < (4 : Int32)) ?_
  refine go_aloadN K X336 d3_25 rfl rfl rfl ?_
  refine go_iload K X336 d3_26 rfl rfl ?_
  have f339 : AV Z h336 a1 .int [(.int y0), (.int y1), (.int y2), (.int y3)] := ((f332.keep (Keep.of_wr W333) (ninS (Nat.ne_of_lt (Nat.lt_of_lt_of_le H1.lt (Nat.le_of_eq g327.symm))) nin0)).keep (Keep.of_wr W336) (ninS (Nat.ne_of_lt (Nat.lt_of_lt_of_le H1.lt (Nat.le_of_eq g327.symm))) nin0))
  refine go_iaload K X336 e336 f339 (i := 1) rfl rfl d3_28 rfl ?_
  refine go_istore K X336 #[.val (.ref a1), .val (.ref b327), .val (.int (2 : Int32)), .val (.ref a1), .val (.int (4 : Int32)), .val (.int (1 : Int32)), .val (.int y1)] d3_29 rfl rfl ?_
  refine go_iloadN K X336 d3_31 rfl rfl ?_
  refine go_ifF K X336 d3_32 rfl (by decide : (0 : Int32) < (2 : Int32)) ?_
  refine go_aloadN K X336 d3_35 rfl rfl rfl ?_
  refine go_iloadN K X336 d3_36 rfl rfl ?_
  refine go_iconst K X336 (1 : Int32) d3_37 rfl rfl ?_
  refine go_isub K X336 d3_38 rfl ?_
  rw [show ((2 : Int32) - (1 : Int32)) = (1 : Int32) from by decide]
  refine go_iaload K X336 e336 f338 (i := 1) rfl rfl d3_39 rfl ?_
  refine go_iload K X336 d3_40 rfl rfl ?_
  refine go_icmp K X336 d3_42 (by decide) rfl rfl ?_ ?_
  · intro (hc340 : ¬ (y0 + (1 : Int32)) = y1)
    refine go_aloadN K X336 d3_57 rfl rfl rfl ?_
    refine go_iloadN K X336 d3_58 rfl rfl ?_
    refine go_iinc K X336 (1 : Int32) #[.val (.ref a1), .val (.ref b327), .val (.int ((2 : Int32) + (1 : Int32))), .val (.ref a1), .val (.int (4 : Int32)), .val (.int (1 : Int32)), .val (.int y1)] d3_59 rfl rfl rfl rfl ?_
    rw [show ((2 : Int32) + (1 : Int32)) = (3 : Int32) from by decide]
    refine go_iload K X336 d3_62 rfl rfl ?_
    refine go_iastore K X336 e336 f338 (i := 2) rfl (Nat.le_of_ble_eq_true rfl) ga328 d3_64 rfl ?_
    intro T341 h341 X341 e341 W341 A341
    have kp342 : Keep h0 h341 [] := kp337.trans (Keep.of_wr W341) (allS (Or.inr gb329) all0)
    have f343 : AV Z h341 b327 .int [(.int y0), (.int (y0 + (1 : Int32))), (.int y1), (.int (0 : Int32)), (.int (0 : Int32)), (.int (0 : Int32)), (.int (0 : Int32)), (.int (0 : Int32))] := A341
    refine go_aloadN K X341 d3_65 rfl rfl rfl ?_
    refine go_iloadN K X341 d3_66 rfl rfl ?_
    refine go_iinc K X341 (1 : Int32) #[.val (.ref a1), .val (.ref b327), .val (.int ((3 : Int32) + (1 : Int32))), .val (.ref a1), .val (.int (4 : Int32)), .val (.int (1 : Int32)), .val (.int y1)] d3_67 rfl rfl rfl rfl ?_
    rw [show ((3 : Int32) + (1 : Int32)) = (4 : Int32) from by decide]
    refine go_iload K X341 d3_70 rfl rfl ?_
    refine go_iconst K X341 (1 : Int32) d3_72 rfl rfl ?_
    refine go_iadd K X341 d3_73 rfl ?_
    refine go_iastore K X341 e341 f343 (i := 3) rfl (Nat.le_of_ble_eq_true rfl) ga328 d3_74 rfl ?_
    intro T344 h344 X344 e344 W344 A344
    have kp345 : Keep h0 h344 [] := kp342.trans (Keep.of_wr W344) (allS (Or.inr gb329) all0)
    have f346 : AV Z h344 b327 .int [(.int y0), (.int (y0 + (1 : Int32))), (.int y1), (.int (y1 + (1 : Int32))), (.int (0 : Int32)), (.int (0 : Int32)), (.int (0 : Int32)), (.int (0 : Int32))] := A344
    refine go_iinc K X344 (1 : Int32) #[.val (.ref a1), .val (.ref b327), .val (.int (4 : Int32)), .val (.ref a1), .val (.int (4 : Int32)), .val (.int ((1 : Int32) + (1 : Int32))), .val (.int y1)] d3_75 rfl rfl rfl rfl ?_
    rw [show ((1 : Int32) + (1 : Int32)) = (2 : Int32) from by decide]
    refine go_goto K X344 d3_78 (by decide) rfl ?_
    refine go_iload K X344 d3_18 rfl rfl ?_
    refine go_iload K X344 d3_20 rfl rfl ?_
    refine go_icmpF K X344 d3_22 rfl (by decide : (2 : Int32) < (4 : Int32)) ?_
    refine go_aloadN K X344 d3_25 rfl rfl rfl ?_
    refine go_iload K X344 d3_26 rfl rfl ?_
    have f347 : AV Z h344 a1 .int [(.int y0), (.int y1), (.int y2), (.int y3)] := ((f339.keep (Keep.of_wr W341) (ninS (Nat.ne_of_lt (Nat.lt_of_lt_of_le H1.lt (Nat.le_of_eq g327.symm))) nin0)).keep (Keep.of_wr W344) (ninS (Nat.ne_of_lt (Nat.lt_of_lt_of_le H1.lt (Nat.le_of_eq g327.symm))) nin0))
    refine go_iaload K X344 e344 f347 (i := 2) rfl rfl d3_28 rfl ?_
    refine go_istore K X344 #[.val (.ref a1), .val (.ref b327), .val (.int (4 : Int32)), .val (.ref a1), .val (.int (4 : Int32)), .val (.int (2 : Int32)), .val (.int y2)] d3_29 rfl rfl ?_
    refine go_iloadN K X344 d3_31 rfl rfl ?_
    refine go_ifF K X344 d3_32 rfl (by decide : (0 : Int32) < (4 : Int32)) ?_
    refine go_aloadN K X344 d3_35 rfl rfl rfl ?_
    refine go_iloadN K X344 d3_36 rfl rfl ?_
    refine go_iconst K X344 (1 : Int32) d3_37 rfl rfl ?_
    refine go_isub K X344 d3_38 rfl ?_
    rw [show ((4 : Int32) - (1 : Int32)) = (3 : Int32) from by decide]
    refine go_iaload K X344 e344 f346 (i := 3) rfl rfl d3_39 rfl ?_
    refine go_iload K X344 d3_40 rfl rfl ?_
    refine go_icmp K X344 d3_42 (by decide) rfl rfl ?_ ?_
    · intro (hc348 : ¬ (y1 + (1 : Int32)) = y2)
      refine go_aloadN K X344 d3_57 rfl rfl rfl ?_
      refine go_iloadN K X344 d3_58 rfl rfl ?_
      refine go_iinc K X344 (1 : Int32) #[.val (.ref a1), .val (.ref b327), .val (.int ((4 : Int32) + (1 : Int32))), .val (.ref a1), .val (.int (4 : Int32)), .val (.int (2 : Int32)), .val (.int y2)] d3_59 rfl rfl rfl rfl ?_
      rw [show ((4 : Int32) + (1 : Int32)) = (5 : Int32) from by decide]
      refine go_iload K X344 d3_62 rfl rfl ?_
      refine go_iastore K X344 e344 f346 (i := 4) rfl (Nat.le_of_ble_eq_true rfl) ga328 d3_64 rfl ?_
      intro T349 h349 X349 e349 W349 A349
      have kp350 : Keep h0 h349 [] := kp345.trans (Keep.of_wr W349) (allS (Or.inr gb329) all0)
      have f351 : AV Z h349 b327 .int [(.int y0), (.int (y0 + (1 : Int32))), (.int y1), (.int (y1 + (1 : Int32))), (.int y2), (.int (0 : Int32)), (.int (0 : Int32)), (.int (0 : Int32))] := A349
      refine go_aloadN K X349 d3_65 rfl rfl rfl ?_
      refine go_iloadN K X349 d3_66 rfl rfl ?_
      refine go_iinc K X349 (1 : Int32) #[.val (.ref a1), .val (.ref b327), .val (.int ((5 : Int32) + (1 : Int32))), .val (.ref a1), .val (.int (4 : Int32)), .val (.int (2 : Int32)), .val (.int y2)] d3_67 rfl rfl rfl rfl ?_
      rw [show ((5 : Int32) + (1 : Int32)) = (6 : Int32) from by decide]
      refine go_iload K X349 d3_70 rfl rfl ?_
      refine go_iconst K X349 (1 : Int32) d3_72 rfl rfl ?_
      refine go_iadd K X349 d3_73 rfl ?_
      refine go_iastore K X349 e349 f351 (i := 5) rfl (Nat.le_of_ble_eq_true rfl) ga328 d3_74 rfl ?_
      intro T352 h352 X352 e352 W352 A352
      have kp353 : Keep h0 h352 [] := kp350.trans (Keep.of_wr W352) (allS (Or.inr gb329) all0)
      have f354 : AV Z h352 b327 .int [(.int y0), (.int (y0 + (1 : Int32))), (.int y1), (.int (y1 + (1 : Int32))), (.int y2), (.int (y2 + (1 : Int32))), (.int (0 : Int32)), (.int (0 : Int32))] := A352
      refine go_iinc K X352 (1 : Int32) #[.val (.ref a1), .val (.ref b327), .val (.int (6 : Int32)), .val (.ref a1), .val (.int (4 : Int32)), .val (.int ((2 : Int32) + (1 : Int32))), .val (.int y2)] d3_75 rfl rfl rfl rfl ?_
      rw [show ((2 : Int32) + (1 : Int32)) = (3 : Int32) from by decide]
      refine go_goto K X352 d3_78 (by decide) rfl ?_
      refine go_iload K X352 d3_18 rfl rfl ?_
      refine go_iload K X352 d3_20 rfl rfl ?_
      refine go_icmpF K X352 d3_22 rfl (by decide : (3 : Int32) < (4 : Int32)) ?_
      refine go_aloadN K X352 d3_25 rfl rfl rfl ?_
      refine go_iload K X352 d3_26 rfl rfl ?_
      have f355 : AV Z h352 a1 .int [(.int y0), (.int y1), (.int y2), (.int y3)] := ((f347.keep (Keep.of_wr W349) (ninS (Nat.ne_of_lt (Nat.lt_of_lt_of_le H1.lt (Nat.le_of_eq g327.symm))) nin0)).keep (Keep.of_wr W352) (ninS (Nat.ne_of_lt (Nat.lt_of_lt_of_le H1.lt (Nat.le_of_eq g327.symm))) nin0))
      refine go_iaload K X352 e352 f355 (i := 3) rfl rfl d3_28 rfl ?_
      refine go_istore K X352 #[.val (.ref a1), .val (.ref b327), .val (.int (6 : Int32)), .val (.ref a1), .val (.int (4 : Int32)), .val (.int (3 : Int32)), .val (.int y3)] d3_29 rfl rfl ?_
      refine go_iloadN K X352 d3_31 rfl rfl ?_
      refine go_ifF K X352 d3_32 rfl (by decide : (0 : Int32) < (6 : Int32)) ?_
      refine go_aloadN K X352 d3_35 rfl rfl rfl ?_
      refine go_iloadN K X352 d3_36 rfl rfl ?_
      refine go_iconst K X352 (1 : Int32) d3_37 rfl rfl ?_
      refine go_isub K X352 d3_38 rfl ?_
      rw [show ((6 : Int32) - (1 : Int32)) = (5 : Int32) from by decide]
      refine go_iaload K X352 e352 f354 (i := 5) rfl rfl d3_39 rfl ?_
      refine go_iload K X352 d3_40 rfl rfl ?_
      refine go_icmp K X352 d3_42 (by decide) rfl rfl ?_ ?_
      · intro (hc356 : ¬ (y2 + (1 : Int32)) = y3)
        refine go_aloadN K X352 d3_57 rfl rfl rfl ?_
        refine go_iloadN K X352 d3_58 rfl rfl ?_
        refine go_iinc K X352 (1 : Int32) #[.val (.ref a1), .val (.ref b327), .val (.int ((6 : Int32) + (1 : Int32))), .val (.ref a1), .val (.int (4 : Int32)), .val (.int (3 : Int32)), .val (.int y3)] d3_59 rfl rfl rfl rfl ?_
        rw [show ((6 : Int32) + (1 : Int32)) = (7 : Int32) from by decide]
        refine go_iload K X352 d3_62 rfl rfl ?_
        refine go_iastore K X352 e352 f354 (i := 6) rfl (Nat.le_of_ble_eq_true rfl) ga328 d3_64 rfl ?_
        intro T357 h357 X357 e357 W357 A357
        have kp358 : Keep h0 h357 [] := kp353.trans (Keep.of_wr W357) (allS (Or.inr gb329) all0)
        have f359 : AV Z h357 b327 .int [(.int y0), (.int (y0 + (1 : Int32))), (.int y1), (.int (y1 + (1 : Int32))), (.int y2), (.int (y2 + (1 : Int32))), (.int y3), (.int (0 : Int32))] := A357
        refine go_aloadN K X357 d3_65 rfl rfl rfl ?_
        refine go_iloadN K X357 d3_66 rfl rfl ?_
        refine go_iinc K X357 (1 : Int32) #[.val (.ref a1), .val (.ref b327), .val (.int ((7 : Int32) + (1 : Int32))), .val (.ref a1), .val (.int (4 : Int32)), .val (.int (3 : Int32)), .val (.int y3)] d3_67 rfl rfl rfl rfl ?_
        rw [show ((7 : Int32) + (1 : Int32)) = (8 : Int32) from by decide]
        refine go_iload K X357 d3_70 rfl rfl ?_
        refine go_iconst K X357 (1 : Int32) d3_72 rfl rfl ?_
        refine go_iadd K X357 d3_73 rfl ?_
        refine go_iastore K X357 e357 f359 (i := 7) rfl (Nat.le_of_ble_eq_true rfl) ga328 d3_74 rfl ?_
        intro T360 h360 X360 e360 W360 A360
        have kp361 : Keep h0 h360 [] := kp358.trans (Keep.of_wr W360) (allS (Or.inr gb329) all0)
        have f362 : AV Z h360 b327 .int [(.int y0), (.int (y0 + (1 : Int32))), (.int y1), (.int (y1 + (1 : Int32))), (.int y2), (.int (y2 + (1 : Int32))), (.int y3), (.int (y3 + (1 : Int32)))] := A360
        refine go_iinc K X360 (1 : Int32) #[.val (.ref a1), .val (.ref b327), .val (.int (8 : Int32)), .val (.ref a1), .val (.int (4 : Int32)), .val (.int ((3 : Int32) + (1 : Int32))), .val (.int y3)] d3_75 rfl rfl rfl rfl ?_
        rw [show ((3 : Int32) + (1 : Int32)) = (4 : Int32) from by decide]
        refine go_goto K X360 d3_78 (by decide) rfl ?_
        refine go_iload K X360 d3_18 rfl rfl ?_
        refine go_iload K X360 d3_20 rfl rfl ?_
        refine go_icmpT K X360 d3_22 (by decide) rfl (by decide : ¬ (4 : Int32) < (4 : Int32)) ?_
        refine go_new K X360 (wd hw 16 rfl) (wd hw 17 rfl) (wd hw 14 rfl) e360 d3_81 rfl (cells' := 2) (slots' := 9) rfl rfl (by decide) (by decide) ?_
        intro T363 h363 b363 g363 X363 e363 E363 A363 D363
        have ga364 : n0 ≤ b363 := Nat.le_trans (Nat.le_trans (Nat.le_trans (Nat.le_trans (Nat.le_trans (Nat.le_trans (Nat.le_trans (Nat.le_trans (Nat.le_trans (Nat.le_trans H0 (Keep.ext (Keep.refl _ []) E327).1) (Keep.of_wr W333).1) (Keep.of_wr W336).1) (Keep.of_wr W341).1) (Keep.of_wr W344).1) (Keep.of_wr W349).1) (Keep.of_wr W352).1) (Keep.of_wr W357).1) (Keep.of_wr W360).1) (Nat.le_of_eq g363.symm)
        have gb365 : h0.size ≤ b363 := Nat.le_trans kp361.1 (Nat.le_of_eq g363.symm)
        have kp366 : Keep h0 h363 [] := kp361.trans (Keep.ext (Keep.refl _ []) E363) all0
        refine go_dup K X363 d3_84 rfl rfl ?_
        refine go_aloadN K X363 d3_85 rfl rfl rfl ?_
        refine go_iloadN K X363 d3_86 rfl rfl ?_
        have f367 : Exa Z h363 b327 "[I" := (((((((((C327.keep (Keep.of_wr W333)).keep (Keep.of_wr W336)).keep (Keep.of_wr W341)).keep (Keep.of_wr W344)).keep (Keep.of_wr W349)).keep (Keep.of_wr W352)).keep (Keep.of_wr W357)).keep (Keep.of_wr W360)).keep (Keep.ext (Keep.refl _ []) E363))
        have f368 : AV Z h363 b327 .int [(.int y0), (.int (y0 + (1 : Int32))), (.int y1), (.int (y1 + (1 : Int32))), (.int y2), (.int (y2 + (1 : Int32))), (.int y3), (.int (y3 + (1 : Int32)))] := (f362.keep (Keep.ext (Keep.refl _ []) E363) nin0)
        refine go_static K X363 (argsL := [(.ref b327), (.int (8 : Int32))]) (stk := [(.ref b363), (.ref b363)]) (wd hw 18 rfl) (wd hw 19 rfl) (wd hw 20 rfl) (wd hw 21 rfl) (by decide) (lenOf pd_1 rfl) e363 (rmCopyEq hw b327 (8 : Int32) [(.int y0), (.int (y0 + (1 : Int32))), (.int y1), (.int (y1 + (1 : Int32))), (.int y2), (.int (y2 + (1 : Int32))), (.int y3), (.int (y3 + (1 : Int32)))] h363 (Nat.le_trans (Nat.le_trans (Nat.le_trans (Nat.le_trans (Nat.le_trans (Nat.le_trans (Nat.le_trans (Nat.le_trans (Nat.le_trans (Nat.le_trans H0 (Keep.ext (Keep.refl _ []) E327).1) (Keep.of_wr W333).1) (Keep.of_wr W336).1) (Keep.of_wr W341).1) (Keep.of_wr W344).1) (Keep.of_wr W349).1) (Keep.of_wr W352).1) (Keep.of_wr W357).1) (Keep.of_wr W360).1) (Keep.ext (Keep.refl _ []) E363).1) f367 f368 rfl (Nat.le_of_ble_eq_true rfl) (own_fit_list (by simp))) rfl rfl d3_87 rfl (by decide) (W := 2) (Nat.le_of_eq rfl) (by decide) (cells' := 3) (slots' := 17) rfl rfl (by decide) (by decide) ?_
        rintro T369 h369 _ X369 e369 ⟨r370, rfl, K369, f371, f372⟩
        show Go _ _ _ _ _ _ _ (T369.setTop (mkF m 90 #[.val (.ref a1), .val (.ref b327), .val (.int (8 : Int32)), .val (.ref a1), .val (.int (4 : Int32)), .val (.int (4 : Int32)), .val (.int y3)] [(.ref r370), (.ref b363), (.ref b363)]))
        have ga373 : n0 ≤ r370 := Nat.le_trans (Nat.le_trans (Nat.le_trans (Nat.le_trans (Nat.le_trans (Nat.le_trans (Nat.le_trans (Nat.le_trans (Nat.le_trans (Nat.le_trans (Nat.le_trans H0 (Keep.ext (Keep.refl _ []) E327).1) (Keep.of_wr W333).1) (Keep.of_wr W336).1) (Keep.of_wr W341).1) (Keep.of_wr W344).1) (Keep.of_wr W349).1) (Keep.of_wr W352).1) (Keep.of_wr W357).1) (Keep.of_wr W360).1) (Keep.ext (Keep.refl _ []) E363).1) f371
        have gb374 : h0.size ≤ r370 := Nat.le_trans kp366.1 f371
        have kp375 : Keep h0 h369 [] := kp366.trans K369 all0
        have hr : own_runs [y0, y1, y2, y3] = [(.int y0), (.int (y0 + (1 : Int32))), (.int y1), (.int (y1 + (1 : Int32))), (.int y2), (.int (y2 + (1 : Int32))), (.int y3), (.int (y3 + (1 : Int32)))] := by
          show ((own_step (own_step (own_step (own_step ([]) y0) y1) y2) y3).reverse).map Value.int = _
          rw [own_step0, own_stepN hc340, own_stepN hc348, own_stepN hc356]
          rfl
        have zr370 : AV Z h369 r370 .int (own_runs [y0, y1, y2, y3]) := by rw [hr]; exact f372
        have f376 : Exa Z h369 b363 "com/example/divided_duty/dividedduty/policy/Ranges" := (A363.keep K369)
        have f377 : Fld Z h369 b363 "com/example/divided_duty/dividedduty/policy/Ranges" "bounds" "[I" .null := ((D363 (Or.inr (wd hw 38 rfl)) (ty := (.array .int)) (by decide) : Fld Z h363 b363 "com/example/divided_duty/dividedduty/policy/Ranges" "bounds" "[I" .null).keep K369 nin0)
        refine go_init K X369 (a := b363) (argsL := [(.ref r370)]) (stk := [(.ref b363)]) (wd hw 31 rfl) (wd hw 32 rfl) (wd hw 14 rfl) (wd hw 33 rfl) (by decide) rfl (lenOf pd_2 rfl) e369 (rmRInit hw b363 r370 .null h369 ga364 f376 f377) rfl rfl d3_90 rfl (by decide) (W := 1) (Nat.le_of_eq rfl) (by decide) (cells' := 3) (slots' := 17) rfl rfl (by decide) (by decide) ?_
        rintro T378 h378 _ X378 e378 ⟨rfl, K378, f379, f380⟩
        show Go _ _ _ _ _ _ _ (T378.setTop (mkF m 93 #[.val (.ref a1), .val (.ref b327), .val (.int (8 : Int32)), .val (.ref a1), .val (.int (4 : Int32)), .val (.int (4 : Int32)), .val (.int y3)] [(.ref b363)]))
        have kp381 : Keep h0 h378 [] := kp375.trans K378 (allS (Or.inr gb365) all0)
        refine go_retA K X378 rfl rfl rfl d3_93 (by decide) (by decide) ?_
        have f382 : AV Z h378 r370 .int (own_runs [y0, y1, y2, y3]) := (zr370.keep K378 (ninS (Ne.symm (Nat.ne_of_lt (Nat.lt_of_lt_of_le A363.lt f371))) nin0))
        rw [e378]
        exact ⟨b363, r370, rfl, kp381, gb365, gb374, f379, f380, f382⟩
      · intro (hc356 : (y2 + (1 : Int32)) = y3)
        refine go_aloadN K X352 d3_45 rfl rfl rfl ?_
        refine go_iloadN K X352 d3_46 rfl rfl ?_
        refine go_iconst K X352 (1 : Int32) d3_47 rfl rfl ?_
        refine go_isub K X352 d3_48 rfl ?_
        rw [show ((6 : Int32) - (1 : Int32)) = (5 : Int32) from by decide]
        refine go_dup2 K X352 d3_49 rfl rfl rfl ?_
        refine go_iaload K X352 e352 f354 (i := 5) rfl rfl d3_50 rfl ?_
        refine go_iconst K X352 (1 : Int32) d3_51 rfl rfl ?_
        refine go_iadd K X352 d3_52 rfl ?_
        refine go_iastore K X352 e352 f354 (i := 5) rfl (Nat.le_of_ble_eq_true rfl) ga328 d3_53 rfl ?_
        intro T383 h383 X383 e383 W383 A383
        have kp384 : Keep h0 h383 [] := kp353.trans (Keep.of_wr W383) (allS (Or.inr gb329) all0)
        have f385 : AV Z h383 b327 .int [(.int y0), (.int (y0 + (1 : Int32))), (.int y1), (.int (y1 + (1 : Int32))), (.int y2), (.int ((y2 + (1 : Int32)) + (1 : Int32))), (.int (0 : Int32)), (.int (0 : Int32))] := A383
        refine go_goto K X383 d3_54 (by decide) rfl ?_
        refine go_iinc K X383 (1 : Int32) #[.val (.ref a1), .val (.ref b327), .val (.int (6 : Int32)), .val (.ref a1), .val (.int (4 : Int32)), .val (.int ((3 : Int32) + (1 : Int32))), .val (.int y3)] d3_75 rfl rfl rfl rfl ?_
        rw [show ((3 : Int32) + (1 : Int32)) = (4 : Int32) from by decide]
        refine go_goto K X383 d3_78 (by decide) rfl ?_
        refine go_iload K X383 d3_18 rfl rfl ?_
        refine go_iload K X383 d3_20 rfl rfl ?_
        refine go_icmpT K X383 d3_22 (by decide) rfl (by decide : ¬ (4 : Int32) < (4 : Int32)) ?_
        refine go_new K X383 (wd hw 16 rfl) (wd hw 17 rfl) (wd hw 14 rfl) e383 d3_81 rfl (cells' := 2) (slots' := 9) rfl rfl (by decide) (by decide) ?_
        intro T386 h386 b386 g386 X386 e386 E386 A386 D386
        have ga387 : n0 ≤ b386 := Nat.le_trans (Nat.le_trans (Nat.le_trans (Nat.le_trans (Nat.le_trans (Nat.le_trans (Nat.le_trans (Nat.le_trans (Nat.le_trans H0 (Keep.ext (Keep.refl _ []) E327).1) (Keep.of_wr W333).1) (Keep.of_wr W336).1) (Keep.of_wr W341).1) (Keep.of_wr W344).1) (Keep.of_wr W349).1) (Keep.of_wr W352).1) (Keep.of_wr W383).1) (Nat.le_of_eq g386.symm)
        have gb388 : h0.size ≤ b386 := Nat.le_trans kp384.1 (Nat.le_of_eq g386.symm)
        have kp389 : Keep h0 h386 [] := kp384.trans (Keep.ext (Keep.refl _ []) E386) all0
        refine go_dup K X386 d3_84 rfl rfl ?_
        refine go_aloadN K X386 d3_85 rfl rfl rfl ?_
        refine go_iloadN K X386 d3_86 rfl rfl ?_
        have f390 : AV Z h386 b327 .int [(.int y0), (.int (y0 + (1 : Int32))), (.int y1), (.int (y1 + (1 : Int32))), (.int y2), (.int ((y2 + (1 : Int32)) + (1 : Int32))), (.int (0 : Int32)), (.int (0 : Int32))] := (f385.keep (Keep.ext (Keep.refl _ []) E386) nin0)
        refine go_static K X386 (argsL := [(.ref b327), (.int (6 : Int32))]) (stk := [(.ref b386), (.ref b386)]) (wd hw 18 rfl) (wd hw 19 rfl) (wd hw 20 rfl) (wd hw 21 rfl) (by decide) (lenOf pd_1 rfl) e386 (rmCopyLt hw b327 (6 : Int32) [(.int y0), (.int (y0 + (1 : Int32))), (.int y1), (.int (y1 + (1 : Int32))), (.int y2), (.int ((y2 + (1 : Int32)) + (1 : Int32))), (.int (0 : Int32)), (.int (0 : Int32))] 6 h386 (Nat.le_trans (Nat.le_trans (Nat.le_trans (Nat.le_trans (Nat.le_trans (Nat.le_trans (Nat.le_trans (Nat.le_trans (Nat.le_trans H0 (Keep.ext (Keep.refl _ []) E327).1) (Keep.of_wr W333).1) (Keep.of_wr W336).1) (Keep.of_wr W341).1) (Keep.of_wr W344).1) (Keep.of_wr W349).1) (Keep.of_wr W352).1) (Keep.of_wr W383).1) (Keep.ext (Keep.refl _ []) E386).1) f390 rfl (Nat.le_of_ble_eq_true rfl) (Nat.le_of_ble_eq_true rfl) (own_fit_list (by simp))) rfl rfl d3_87 rfl (by decide) (W := 2) (Nat.le_of_eq rfl) (by decide) (cells' := 3) (slots' := 17) rfl rfl (by decide) (by decide) ?_
        rintro T391 h391 _ X391 e391 ⟨r392, rfl, K391, f393, f394⟩
        show Go _ _ _ _ _ _ _ (T391.setTop (mkF m 90 #[.val (.ref a1), .val (.ref b327), .val (.int (6 : Int32)), .val (.ref a1), .val (.int (4 : Int32)), .val (.int (4 : Int32)), .val (.int y3)] [(.ref r392), (.ref b386), (.ref b386)]))
        have ga395 : n0 ≤ r392 := Nat.le_trans (Nat.le_trans (Nat.le_trans (Nat.le_trans (Nat.le_trans (Nat.le_trans (Nat.le_trans (Nat.le_trans (Nat.le_trans (Nat.le_trans H0 (Keep.ext (Keep.refl _ []) E327).1) (Keep.of_wr W333).1) (Keep.of_wr W336).1) (Keep.of_wr W341).1) (Keep.of_wr W344).1) (Keep.of_wr W349).1) (Keep.of_wr W352).1) (Keep.of_wr W383).1) (Keep.ext (Keep.refl _ []) E386).1) f393
        have gb396 : h0.size ≤ r392 := Nat.le_trans kp389.1 f393
        have kp397 : Keep h0 h391 [] := kp389.trans K391 all0
        have hr : own_runs [y0, y1, y2, y3] = [(.int y0), (.int (y0 + (1 : Int32))), (.int y1), (.int (y1 + (1 : Int32))), (.int y2), (.int ((y2 + (1 : Int32)) + (1 : Int32)))] := by
          show ((own_step (own_step (own_step (own_step ([]) y0) y1) y2) y3).reverse).map Value.int = _
          rw [own_step0, own_stepN hc340, own_stepN hc348, own_stepY hc356]
          rfl
        have zr392 : AV Z h391 r392 .int (own_runs [y0, y1, y2, y3]) := by rw [hr]; exact f394
        have f398 : Exa Z h391 b386 "com/example/divided_duty/dividedduty/policy/Ranges" := (A386.keep K391)
        have f399 : Fld Z h391 b386 "com/example/divided_duty/dividedduty/policy/Ranges" "bounds" "[I" .null := ((D386 (Or.inr (wd hw 38 rfl)) (ty := (.array .int)) (by decide) : Fld Z h386 b386 "com/example/divided_duty/dividedduty/policy/Ranges" "bounds" "[I" .null).keep K391 nin0)
        refine go_init K X391 (a := b386) (argsL := [(.ref r392)]) (stk := [(.ref b386)]) (wd hw 31 rfl) (wd hw 32 rfl) (wd hw 14 rfl) (wd hw 33 rfl) (by decide) rfl (lenOf pd_2 rfl) e391 (rmRInit hw b386 r392 .null h391 ga387 f398 f399) rfl rfl d3_90 rfl (by decide) (W := 1) (Nat.le_of_eq rfl) (by decide) (cells' := 3) (slots' := 17) rfl rfl (by decide) (by decide) ?_
        rintro T400 h400 _ X400 e400 ⟨rfl, K400, f401, f402⟩
        show Go _ _ _ _ _ _ _ (T400.setTop (mkF m 93 #[.val (.ref a1), .val (.ref b327), .val (.int (6 : Int32)), .val (.ref a1), .val (.int (4 : Int32)), .val (.int (4 : Int32)), .val (.int y3)] [(.ref b386)]))
        have kp403 : Keep h0 h400 [] := kp397.trans K400 (allS (Or.inr gb388) all0)
        refine go_retA K X400 rfl rfl rfl d3_93 (by decide) (by decide) ?_
        have f404 : AV Z h400 r392 .int (own_runs [y0, y1, y2, y3]) := (zr392.keep K400 (ninS (Ne.symm (Nat.ne_of_lt (Nat.lt_of_lt_of_le A386.lt f393))) nin0))
        rw [e400]
        exact ⟨b386, r392, rfl, kp403, gb388, gb396, f401, f402, f404⟩
    · intro (hc348 : (y1 + (1 : Int32)) = y2)
      refine go_aloadN K X344 d3_45 rfl rfl rfl ?_
      refine go_iloadN K X344 d3_46 rfl rfl ?_
      refine go_iconst K X344 (1 : Int32) d3_47 rfl rfl ?_
      refine go_isub K X344 d3_48 rfl ?_
      rw [show ((4 : Int32) - (1 : Int32)) = (3 : Int32) from by decide]
      refine go_dup2 K X344 d3_49 rfl rfl rfl ?_
      refine go_iaload K X344 e344 f346 (i := 3) rfl rfl d3_50 rfl ?_
      refine go_iconst K X344 (1 : Int32) d3_51 rfl rfl ?_
      refine go_iadd K X344 d3_52 rfl ?_
      refine go_iastore K X344 e344 f346 (i := 3) rfl (Nat.le_of_ble_eq_true rfl) ga328 d3_53 rfl ?_
      intro T405 h405 X405 e405 W405 A405
      have kp406 : Keep h0 h405 [] := kp345.trans (Keep.of_wr W405) (allS (Or.inr gb329) all0)
      have f407 : AV Z h405 b327 .int [(.int y0), (.int (y0 + (1 : Int32))), (.int y1), (.int ((y1 + (1 : Int32)) + (1 : Int32))), (.int (0 : Int32)), (.int (0 : Int32)), (.int (0 : Int32)), (.int (0 : Int32))] := A405
      refine go_goto K X405 d3_54 (by decide) rfl ?_
      refine go_iinc K X405 (1 : Int32) #[.val (.ref a1), .val (.ref b327), .val (.int (4 : Int32)), .val (.ref a1), .val (.int (4 : Int32)), .val (.int ((2 : Int32) + (1 : Int32))), .val (.int y2)] d3_75 rfl rfl rfl rfl ?_
      rw [show ((2 : Int32) + (1 : Int32)) = (3 : Int32) from by decide]
      refine go_goto K X405 d3_78 (by decide) rfl ?_
      refine go_iload K X405 d3_18 rfl rfl ?_
      refine go_iload K X405 d3_20 rfl rfl ?_
      refine go_icmpF K X405 d3_22 rfl (by decide : (3 : Int32) < (4 : Int32)) ?_
      refine go_aloadN K X405 d3_25 rfl rfl rfl ?_
      refine go_iload K X405 d3_26 rfl rfl ?_
      have f408 : AV Z h405 a1 .int [(.int y0), (.int y1), (.int y2), (.int y3)] := (f347.keep (Keep.of_wr W405) (ninS (Nat.ne_of_lt (Nat.lt_of_lt_of_le H1.lt (Nat.le_of_eq g327.symm))) nin0))
      refine go_iaload K X405 e405 f408 (i := 3) rfl rfl d3_28 rfl ?_
      refine go_istore K X405 #[.val (.ref a1), .val (.ref b327), .val (.int (4 : Int32)), .val (.ref a1), .val (.int (4 : Int32)), .val (.int (3 : Int32)), .val (.int y3)] d3_29 rfl rfl ?_
      refine go_iloadN K X405 d3_31 rfl rfl ?_
      refine go_ifF K X405 d3_32 rfl (by decide : (0 : Int32) < (4 : Int32)) ?_
      refine go_aloadN K X405 d3_35 rfl rfl rfl ?_
      refine go_iloadN K X405 d3_36 rfl rfl ?_
      refine go_iconst K X405 (1 : Int32) d3_37 rfl rfl ?_
      refine go_isub K X405 d3_38 rfl ?_
      rw [show ((4 : Int32) - (1 : Int32)) = (3 : Int32) from by decide]
      refine go_iaload K X405 e405 f407 (i := 3) rfl rfl d3_39 rfl ?_
      refine go_iload K X405 d3_40 rfl rfl ?_
      refine go_icmp K X405 d3_42 (by decide) rfl rfl ?_ ?_
      · intro (hc409 : ¬ ((y1 + (1 : Int32)) + (1 : Int32)) = y3)
        refine go_aloadN K X405 d3_57 rfl rfl rfl ?_
        refine go_iloadN K X405 d3_58 rfl rfl ?_
        refine go_iinc K X405 (1 : Int32) #[.val (.ref a1), .val (.ref b327), .val (.int ((4 : Int32) + (1 : Int32))), .val (.ref a1), .val (.int (4 : Int32)), .val (.int (3 : Int32)), .val (.int y3)] d3_59 rfl rfl rfl rfl ?_
        rw [show ((4 : Int32) + (1 : Int32)) = (5 : Int32) from by decide]
        refine go_iload K X405 d3_62 rfl rfl ?_
        refine go_iastore K X405 e405 f407 (i := 4) rfl (Nat.le_of_ble_eq_true rfl) ga328 d3_64 rfl ?_
        intro T410 h410 X410 e410 W410 A410
        have kp411 : Keep h0 h410 [] := kp406.trans (Keep.of_wr W410) (allS (Or.inr gb329) all0)
        have f412 : AV Z h410 b327 .int [(.int y0), (.int (y0 + (1 : Int32))), (.int y1), (.int ((y1 + (1 : Int32)) + (1 : Int32))), (.int y3), (.int (0 : Int32)), (.int (0 : Int32)), (.int (0 : Int32))] := A410
        refine go_aloadN K X410 d3_65 rfl rfl rfl ?_
        refine go_iloadN K X410 d3_66 rfl rfl ?_
        refine go_iinc K X410 (1 : Int32) #[.val (.ref a1), .val (.ref b327), .val (.int ((5 : Int32) + (1 : Int32))), .val (.ref a1), .val (.int (4 : Int32)), .val (.int (3 : Int32)), .val (.int y3)] d3_67 rfl rfl rfl rfl ?_
        rw [show ((5 : Int32) + (1 : Int32)) = (6 : Int32) from by decide]
        refine go_iload K X410 d3_70 rfl rfl ?_
        refine go_iconst K X410 (1 : Int32) d3_72 rfl rfl ?_
        refine go_iadd K X410 d3_73 rfl ?_
        refine go_iastore K X410 e410 f412 (i := 5) rfl (Nat.le_of_ble_eq_true rfl) ga328 d3_74 rfl ?_
        intro T413 h413 X413 e413 W413 A413
        have kp414 : Keep h0 h413 [] := kp411.trans (Keep.of_wr W413) (allS (Or.inr gb329) all0)
        have f415 : AV Z h413 b327 .int [(.int y0), (.int (y0 + (1 : Int32))), (.int y1), (.int ((y1 + (1 : Int32)) + (1 : Int32))), (.int y3), (.int (y3 + (1 : Int32))), (.int (0 : Int32)), (.int (0 : Int32))] := A413
        refine go_iinc K X413 (1 : Int32) #[.val (.ref a1), .val (.ref b327), .val (.int (6 : Int32)), .val (.ref a1), .val (.int (4 : Int32)), .val (.int ((3 : Int32) + (1 : Int32))), .val (.int y3)] d3_75 rfl rfl rfl rfl ?_
        rw [show ((3 : Int32) + (1 : Int32)) = (4 : Int32) from by decide]
        refine go_goto K X413 d3_78 (by decide) rfl ?_
        refine go_iload K X413 d3_18 rfl rfl ?_
        refine go_iload K X413 d3_20 rfl rfl ?_
        refine go_icmpT K X413 d3_22 (by decide) rfl (by decide : ¬ (4 : Int32) < (4 : Int32)) ?_
        refine go_new K X413 (wd hw 16 rfl) (wd hw 17 rfl) (wd hw 14 rfl) e413 d3_81 rfl (cells' := 2) (slots' := 9) rfl rfl (by decide) (by decide) ?_
        intro T416 h416 b416 g416 X416 e416 E416 A416 D416
        have ga417 : n0 ≤ b416 := Nat.le_trans (Nat.le_trans (Nat.le_trans (Nat.le_trans (Nat.le_trans (Nat.le_trans (Nat.le_trans (Nat.le_trans (Nat.le_trans H0 (Keep.ext (Keep.refl _ []) E327).1) (Keep.of_wr W333).1) (Keep.of_wr W336).1) (Keep.of_wr W341).1) (Keep.of_wr W344).1) (Keep.of_wr W405).1) (Keep.of_wr W410).1) (Keep.of_wr W413).1) (Nat.le_of_eq g416.symm)
        have gb418 : h0.size ≤ b416 := Nat.le_trans kp414.1 (Nat.le_of_eq g416.symm)
        have kp419 : Keep h0 h416 [] := kp414.trans (Keep.ext (Keep.refl _ []) E416) all0
        refine go_dup K X416 d3_84 rfl rfl ?_
        refine go_aloadN K X416 d3_85 rfl rfl rfl ?_
        refine go_iloadN K X416 d3_86 rfl rfl ?_
        have f420 : AV Z h416 b327 .int [(.int y0), (.int (y0 + (1 : Int32))), (.int y1), (.int ((y1 + (1 : Int32)) + (1 : Int32))), (.int y3), (.int (y3 + (1 : Int32))), (.int (0 : Int32)), (.int (0 : Int32))] := (f415.keep (Keep.ext (Keep.refl _ []) E416) nin0)
        refine go_static K X416 (argsL := [(.ref b327), (.int (6 : Int32))]) (stk := [(.ref b416), (.ref b416)]) (wd hw 18 rfl) (wd hw 19 rfl) (wd hw 20 rfl) (wd hw 21 rfl) (by decide) (lenOf pd_1 rfl) e416 (rmCopyLt hw b327 (6 : Int32) [(.int y0), (.int (y0 + (1 : Int32))), (.int y1), (.int ((y1 + (1 : Int32)) + (1 : Int32))), (.int y3), (.int (y3 + (1 : Int32))), (.int (0 : Int32)), (.int (0 : Int32))] 6 h416 (Nat.le_trans (Nat.le_trans (Nat.le_trans (Nat.le_trans (Nat.le_trans (Nat.le_trans (Nat.le_trans (Nat.le_trans (Nat.le_trans H0 (Keep.ext (Keep.refl _ []) E327).1) (Keep.of_wr W333).1) (Keep.of_wr W336).1) (Keep.of_wr W341).1) (Keep.of_wr W344).1) (Keep.of_wr W405).1) (Keep.of_wr W410).1) (Keep.of_wr W413).1) (Keep.ext (Keep.refl _ []) E416).1) f420 rfl (Nat.le_of_ble_eq_true rfl) (Nat.le_of_ble_eq_true rfl) (own_fit_list (by simp))) rfl rfl d3_87 rfl (by decide) (W := 2) (Nat.le_of_eq rfl) (by decide) (cells' := 3) (slots' := 17) rfl rfl (by decide) (by decide) ?_
        rintro T421 h421 _ X421 e421 ⟨r422, rfl, K421, f423, f424⟩
        show Go _ _ _ _ _ _ _ (T421.setTop (mkF m 90 #[.val (.ref a1), .val (.ref b327), .val (.int (6 : Int32)), .val (.ref a1), .val (.int (4 : Int32)), .val (.int (4 : Int32)), .val (.int y3)] [(.ref r422), (.ref b416), (.ref b416)]))
        have ga425 : n0 ≤ r422 := Nat.le_trans (Nat.le_trans (Nat.le_trans (Nat.le_trans (Nat.le_trans (Nat.le_trans (Nat.le_trans (Nat.le_trans (Nat.le_trans (Nat.le_trans H0 (Keep.ext (Keep.refl _ []) E327).1) (Keep.of_wr W333).1) (Keep.of_wr W336).1) (Keep.of_wr W341).1) (Keep.of_wr W344).1) (Keep.of_wr W405).1) (Keep.of_wr W410).1) (Keep.of_wr W413).1) (Keep.ext (Keep.refl _ []) E416).1) f423
        have gb426 : h0.size ≤ r422 := Nat.le_trans kp419.1 f423
        have kp427 : Keep h0 h421 [] := kp419.trans K421 all0
        have hr : own_runs [y0, y1, y2, y3] = [(.int y0), (.int (y0 + (1 : Int32))), (.int y1), (.int ((y1 + (1 : Int32)) + (1 : Int32))), (.int y3), (.int (y3 + (1 : Int32)))] := by
          show ((own_step (own_step (own_step (own_step ([]) y0) y1) y2) y3).reverse).map Value.int = _
          rw [own_step0, own_stepN hc340, own_stepY hc348, own_stepN hc409]
          rfl
        have zr422 : AV Z h421 r422 .int (own_runs [y0, y1, y2, y3]) := by rw [hr]; exact f424
        have f428 : Exa Z h421 b416 "com/example/divided_duty/dividedduty/policy/Ranges" := (A416.keep K421)
        have f429 : Fld Z h421 b416 "com/example/divided_duty/dividedduty/policy/Ranges" "bounds" "[I" .null := ((D416 (Or.inr (wd hw 38 rfl)) (ty := (.array .int)) (by decide) : Fld Z h416 b416 "com/example/divided_duty/dividedduty/policy/Ranges" "bounds" "[I" .null).keep K421 nin0)
        refine go_init K X421 (a := b416) (argsL := [(.ref r422)]) (stk := [(.ref b416)]) (wd hw 31 rfl) (wd hw 32 rfl) (wd hw 14 rfl) (wd hw 33 rfl) (by decide) rfl (lenOf pd_2 rfl) e421 (rmRInit hw b416 r422 .null h421 ga417 f428 f429) rfl rfl d3_90 rfl (by decide) (W := 1) (Nat.le_of_eq rfl) (by decide) (cells' := 3) (slots' := 17) rfl rfl (by decide) (by decide) ?_
        rintro T430 h430 _ X430 e430 ⟨rfl, K430, f431, f432⟩
        show Go _ _ _ _ _ _ _ (T430.setTop (mkF m 93 #[.val (.ref a1), .val (.ref b327), .val (.int (6 : Int32)), .val (.ref a1), .val (.int (4 : Int32)), .val (.int (4 : Int32)), .val (.int y3)] [(.ref b416)]))
        have kp433 : Keep h0 h430 [] := kp427.trans K430 (allS (Or.inr gb418) all0)
        refine go_retA K X430 rfl rfl rfl d3_93 (by decide) (by decide) ?_
        have f434 : AV Z h430 r422 .int (own_runs [y0, y1, y2, y3]) := (zr422.keep K430 (ninS (Ne.symm (Nat.ne_of_lt (Nat.lt_of_lt_of_le A416.lt f423))) nin0))
        rw [e430]
        exact ⟨b416, r422, rfl, kp433, gb418, gb426, f431, f432, f434⟩
      · intro (hc409 : ((y1 + (1 : Int32)) + (1 : Int32)) = y3)
        refine go_aloadN K X405 d3_45 rfl rfl rfl ?_
        refine go_iloadN K X405 d3_46 rfl rfl ?_
        refine go_iconst K X405 (1 : Int32) d3_47 rfl rfl ?_
        refine go_isub K X405 d3_48 rfl ?_
        rw [show ((4 : Int32) - (1 : Int32)) = (3 : Int32) from by decide]
        refine go_dup2 K X405 d3_49 rfl rfl rfl ?_
        refine go_iaload K X405 e405 f407 (i := 3) rfl rfl d3_50 rfl ?_
        refine go_iconst K X405 (1 : Int32) d3_51 rfl rfl ?_
        refine go_iadd K X405 d3_52 rfl ?_
        refine go_iastore K X405 e405 f407 (i := 3) rfl (Nat.le_of_ble_eq_true rfl) ga328 d3_53 rfl ?_
        intro T435 h435 X435 e435 W435 A435
        have kp436 : Keep h0 h435 [] := kp406.trans (Keep.of_wr W435) (allS (Or.inr gb329) all0)
        have f437 : AV Z h435 b327 .int [(.int y0), (.int (y0 + (1 : Int32))), (.int y1), (.int (((y1 + (1 : Int32)) + (1 : Int32)) + (1 : Int32))), (.int (0 : Int32)), (.int (0 : Int32)), (.int (0 : Int32)), (.int (0 : Int32))] := A435
        refine go_goto K X435 d3_54 (by decide) rfl ?_
        refine go_iinc K X435 (1 : Int32) #[.val (.ref a1), .val (.ref b327), .val (.int (4 : Int32)), .val (.ref a1), .val (.int (4 : Int32)), .val (.int ((3 : Int32) + (1 : Int32))), .val (.int y3)] d3_75 rfl rfl rfl rfl ?_
        rw [show ((3 : Int32) + (1 : Int32)) = (4 : Int32) from by decide]
        refine go_goto K X435 d3_78 (by decide) rfl ?_
        refine go_iload K X435 d3_18 rfl rfl ?_
        refine go_iload K X435 d3_20 rfl rfl ?_
        refine go_icmpT K X435 d3_22 (by decide) rfl (by decide : ¬ (4 : Int32) < (4 : Int32)) ?_
        refine go_new K X435 (wd hw 16 rfl) (wd hw 17 rfl) (wd hw 14 rfl) e435 d3_81 rfl (cells' := 2) (slots' := 9) rfl rfl (by decide) (by decide) ?_
        intro T438 h438 b438 g438 X438 e438 E438 A438 D438
        have ga439 : n0 ≤ b438 := Nat.le_trans (Nat.le_trans (Nat.le_trans (Nat.le_trans (Nat.le_trans (Nat.le_trans (Nat.le_trans (Nat.le_trans H0 (Keep.ext (Keep.refl _ []) E327).1) (Keep.of_wr W333).1) (Keep.of_wr W336).1) (Keep.of_wr W341).1) (Keep.of_wr W344).1) (Keep.of_wr W405).1) (Keep.of_wr W435).1) (Nat.le_of_eq g438.symm)
        have gb440 : h0.size ≤ b438 := Nat.le_trans kp436.1 (Nat.le_of_eq g438.symm)
        have kp441 : Keep h0 h438 [] := kp436.trans (Keep.ext (Keep.refl _ []) E438) all0
        refine go_dup K X438 d3_84 rfl rfl ?_
        refine go_aloadN K X438 d3_85 rfl rfl rfl ?_
        refine go_iloadN K X438 d3_86 rfl rfl ?_
        have f442 : AV Z h438 b327 .int [(.int y0), (.int (y0 + (1 : Int32))), (.int y1), (.int (((y1 + (1 : Int32)) + (1 : Int32)) + (1 : Int32))), (.int (0 : Int32)), (.int (0 : Int32)), (.int (0 : Int32)), (.int (0 : Int32))] := (f437.keep (Keep.ext (Keep.refl _ []) E438) nin0)
        refine go_static K X438 (argsL := [(.ref b327), (.int (4 : Int32))]) (stk := [(.ref b438), (.ref b438)]) (wd hw 18 rfl) (wd hw 19 rfl) (wd hw 20 rfl) (wd hw 21 rfl) (by decide) (lenOf pd_1 rfl) e438 (rmCopyLt hw b327 (4 : Int32) [(.int y0), (.int (y0 + (1 : Int32))), (.int y1), (.int (((y1 + (1 : Int32)) + (1 : Int32)) + (1 : Int32))), (.int (0 : Int32)), (.int (0 : Int32)), (.int (0 : Int32)), (.int (0 : Int32))] 4 h438 (Nat.le_trans (Nat.le_trans (Nat.le_trans (Nat.le_trans (Nat.le_trans (Nat.le_trans (Nat.le_trans (Nat.le_trans H0 (Keep.ext (Keep.refl _ []) E327).1) (Keep.of_wr W333).1) (Keep.of_wr W336).1) (Keep.of_wr W341).1) (Keep.of_wr W344).1) (Keep.of_wr W405).1) (Keep.of_wr W435).1) (Keep.ext (Keep.refl _ []) E438).1) f442 rfl (Nat.le_of_ble_eq_true rfl) (Nat.le_of_ble_eq_true rfl) (own_fit_list (by simp))) rfl rfl d3_87 rfl (by decide) (W := 2) (Nat.le_of_eq rfl) (by decide) (cells' := 3) (slots' := 17) rfl rfl (by decide) (by decide) ?_
        rintro T443 h443 _ X443 e443 ⟨r444, rfl, K443, f445, f446⟩
        show Go _ _ _ _ _ _ _ (T443.setTop (mkF m 90 #[.val (.ref a1), .val (.ref b327), .val (.int (4 : Int32)), .val (.ref a1), .val (.int (4 : Int32)), .val (.int (4 : Int32)), .val (.int y3)] [(.ref r444), (.ref b438), (.ref b438)]))
        have ga447 : n0 ≤ r444 := Nat.le_trans (Nat.le_trans (Nat.le_trans (Nat.le_trans (Nat.le_trans (Nat.le_trans (Nat.le_trans (Nat.le_trans (Nat.le_trans H0 (Keep.ext (Keep.refl _ []) E327).1) (Keep.of_wr W333).1) (Keep.of_wr W336).1) (Keep.of_wr W341).1) (Keep.of_wr W344).1) (Keep.of_wr W405).1) (Keep.of_wr W435).1) (Keep.ext (Keep.refl _ []) E438).1) f445
        have gb448 : h0.size ≤ r444 := Nat.le_trans kp441.1 f445
        have kp449 : Keep h0 h443 [] := kp441.trans K443 all0
        have hr : own_runs [y0, y1, y2, y3] = [(.int y0), (.int (y0 + (1 : Int32))), (.int y1), (.int (((y1 + (1 : Int32)) + (1 : Int32)) + (1 : Int32)))] := by
          show ((own_step (own_step (own_step (own_step ([]) y0) y1) y2) y3).reverse).map Value.int = _
          rw [own_step0, own_stepN hc340, own_stepY hc348, own_stepY hc409]
          rfl
        have zr444 : AV Z h443 r444 .int (own_runs [y0, y1, y2, y3]) := by rw [hr]; exact f446
        have f450 : Exa Z h443 b438 "com/example/divided_duty/dividedduty/policy/Ranges" := (A438.keep K443)
        have f451 : Fld Z h443 b438 "com/example/divided_duty/dividedduty/policy/Ranges" "bounds" "[I" .null := ((D438 (Or.inr (wd hw 38 rfl)) (ty := (.array .int)) (by decide) : Fld Z h438 b438 "com/example/divided_duty/dividedduty/policy/Ranges" "bounds" "[I" .null).keep K443 nin0)
        refine go_init K X443 (a := b438) (argsL := [(.ref r444)]) (stk := [(.ref b438)]) (wd hw 31 rfl) (wd hw 32 rfl) (wd hw 14 rfl) (wd hw 33 rfl) (by decide) rfl (lenOf pd_2 rfl) e443 (rmRInit hw b438 r444 .null h443 ga439 f450 f451) rfl rfl d3_90 rfl (by decide) (W := 1) (Nat.le_of_eq rfl) (by decide) (cells' := 3) (slots' := 17) rfl rfl (by decide) (by decide) ?_
        rintro T452 h452 _ X452 e452 ⟨rfl, K452, f453, f454⟩
        show Go _ _ _ _ _ _ _ (T452.setTop (mkF m 93 #[.val (.ref a1), .val (.ref b327), .val (.int (4 : Int32)), .val (.ref a1), .val (.int (4 : Int32)), .val (.int (4 : Int32)), .val (.int y3)] [(.ref b438)]))
        have kp455 : Keep h0 h452 [] := kp449.trans K452 (allS (Or.inr gb440) all0)
        refine go_retA K X452 rfl rfl rfl d3_93 (by decide) (by decide) ?_
        have f456 : AV Z h452 r444 .int (own_runs [y0, y1, y2, y3]) := (zr444.keep K452 (ninS (Ne.symm (Nat.ne_of_lt (Nat.lt_of_lt_of_le A438.lt f445))) nin0))
        rw [e452]
        exact ⟨b438, r444, rfl, kp455, gb440, gb448, f453, f454, f456⟩
  · intro (hc340 : (y0 + (1 : Int32)) = y1)
    refine go_aloadN K X336 d3_45 rfl rfl rfl ?_
    refine go_iloadN K X336 d3_46 rfl rfl ?_
    refine go_iconst K X336 (1 : Int32) d3_47 rfl rfl ?_
    refine go_isub K X336 d3_48 rfl ?_
    rw [show ((2 : Int32) - (1 : Int32)) = (1 : Int32) from by decide]
    refine go_dup2 K X336 d3_49 rfl rfl rfl ?_
    refine go_iaload K X336 e336 f338 (i := 1) rfl rfl d3_50 rfl ?_
    refine go_iconst K X336 (1 : Int32) d3_51 rfl rfl ?_
    refine go_iadd K X336 d3_52 rfl ?_
    refine go_iastore K X336 e336 f338 (i := 1) rfl (Nat.le_of_ble_eq_true rfl) ga328 d3_53 rfl ?_
    intro T457 h457 X457 e457 W457 A457
    have kp458 : Keep h0 h457 [] := kp337.trans (Keep.of_wr W457) (allS (Or.inr gb329) all0)
    have f459 : AV Z h457 b327 .int [(.int y0), (.int ((y0 + (1 : Int32)) + (1 : Int32))), (.int (0 : Int32)), (.int (0 : Int32)), (.int (0 : Int32)), (.int (0 : Int32)), (.int (0 : Int32)), (.int (0 : Int32))] := A457
    refine go_goto K X457 d3_54 (by decide) rfl ?_
    refine go_iinc K X457 (1 : Int32) #[.val (.ref a1), .val (.ref b327), .val (.int (2 : Int32)), .val (.ref a1), .val (.int (4 : Int32)), .val (.int ((1 : Int32) + (1 : Int32))), .val (.int y1)] d3_75 rfl rfl rfl rfl ?_
    rw [show ((1 : Int32) + (1 : Int32)) = (2 : Int32) from by decide]
    refine go_goto K X457 d3_78 (by decide) rfl ?_
    refine go_iload K X457 d3_18 rfl rfl ?_
    refine go_iload K X457 d3_20 rfl rfl ?_
    refine go_icmpF K X457 d3_22 rfl (by decide : (2 : Int32) < (4 : Int32)) ?_
    refine go_aloadN K X457 d3_25 rfl rfl rfl ?_
    refine go_iload K X457 d3_26 rfl rfl ?_
    have f460 : AV Z h457 a1 .int [(.int y0), (.int y1), (.int y2), (.int y3)] := (f339.keep (Keep.of_wr W457) (ninS (Nat.ne_of_lt (Nat.lt_of_lt_of_le H1.lt (Nat.le_of_eq g327.symm))) nin0))
    refine go_iaload K X457 e457 f460 (i := 2) rfl rfl d3_28 rfl ?_
    refine go_istore K X457 #[.val (.ref a1), .val (.ref b327), .val (.int (2 : Int32)), .val (.ref a1), .val (.int (4 : Int32)), .val (.int (2 : Int32)), .val (.int y2)] d3_29 rfl rfl ?_
    refine go_iloadN K X457 d3_31 rfl rfl ?_
    refine go_ifF K X457 d3_32 rfl (by decide : (0 : Int32) < (2 : Int32)) ?_
    refine go_aloadN K X457 d3_35 rfl rfl rfl ?_
    refine go_iloadN K X457 d3_36 rfl rfl ?_
    refine go_iconst K X457 (1 : Int32) d3_37 rfl rfl ?_
    refine go_isub K X457 d3_38 rfl ?_
    rw [show ((2 : Int32) - (1 : Int32)) = (1 : Int32) from by decide]
    refine go_iaload K X457 e457 f459 (i := 1) rfl rfl d3_39 rfl ?_
    refine go_iload K X457 d3_40 rfl rfl ?_
    refine go_icmp K X457 d3_42 (by decide) rfl rfl ?_ ?_
    · intro (hc461 : ¬ ((y0 + (1 : Int32)) + (1 : Int32)) = y2)
      refine go_aloadN K X457 d3_57 rfl rfl rfl ?_
      refine go_iloadN K X457 d3_58 rfl rfl ?_
      refine go_iinc K X457 (1 : Int32) #[.val (.ref a1), .val (.ref b327), .val (.int ((2 : Int32) + (1 : Int32))), .val (.ref a1), .val (.int (4 : Int32)), .val (.int (2 : Int32)), .val (.int y2)] d3_59 rfl rfl rfl rfl ?_
      rw [show ((2 : Int32) + (1 : Int32)) = (3 : Int32) from by decide]
      refine go_iload K X457 d3_62 rfl rfl ?_
      refine go_iastore K X457 e457 f459 (i := 2) rfl (Nat.le_of_ble_eq_true rfl) ga328 d3_64 rfl ?_
      intro T462 h462 X462 e462 W462 A462
      have kp463 : Keep h0 h462 [] := kp458.trans (Keep.of_wr W462) (allS (Or.inr gb329) all0)
      have f464 : AV Z h462 b327 .int [(.int y0), (.int ((y0 + (1 : Int32)) + (1 : Int32))), (.int y2), (.int (0 : Int32)), (.int (0 : Int32)), (.int (0 : Int32)), (.int (0 : Int32)), (.int (0 : Int32))] := A462
      refine go_aloadN K X462 d3_65 rfl rfl rfl ?_
      refine go_iloadN K X462 d3_66 rfl rfl ?_
      refine go_iinc K X462 (1 : Int32) #[.val (.ref a1), .val (.ref b327), .val (.int ((3 : Int32) + (1 : Int32))), .val (.ref a1), .val (.int (4 : Int32)), .val (.int (2 : Int32)), .val (.int y2)] d3_67 rfl rfl rfl rfl ?_
      rw [show ((3 : Int32) + (1 : Int32)) = (4 : Int32) from by decide]
      refine go_iload K X462 d3_70 rfl rfl ?_
      refine go_iconst K X462 (1 : Int32) d3_72 rfl rfl ?_
      refine go_iadd K X462 d3_73 rfl ?_
      refine go_iastore K X462 e462 f464 (i := 3) rfl (Nat.le_of_ble_eq_true rfl) ga328 d3_74 rfl ?_
      intro T465 h465 X465 e465 W465 A465
      have kp466 : Keep h0 h465 [] := kp463.trans (Keep.of_wr W465) (allS (Or.inr gb329) all0)
      have f467 : AV Z h465 b327 .int [(.int y0), (.int ((y0 + (1 : Int32)) + (1 : Int32))), (.int y2), (.int (y2 + (1 : Int32))), (.int (0 : Int32)), (.int (0 : Int32)), (.int (0 : Int32)), (.int (0 : Int32))] := A465
      refine go_iinc K X465 (1 : Int32) #[.val (.ref a1), .val (.ref b327), .val (.int (4 : Int32)), .val (.ref a1), .val (.int (4 : Int32)), .val (.int ((2 : Int32) + (1 : Int32))), .val (.int y2)] d3_75 rfl rfl rfl rfl ?_
      rw [show ((2 : Int32) + (1 : Int32)) = (3 : Int32) from by decide]
      refine go_goto K X465 d3_78 (by decide) rfl ?_
      refine go_iload K X465 d3_18 rfl rfl ?_
      refine go_iload K X465 d3_20 rfl rfl ?_
      refine go_icmpF K X465 d3_22 rfl (by decide : (3 : Int32) < (4 : Int32)) ?_
      refine go_aloadN K X465 d3_25 rfl rfl rfl ?_
      refine go_iload K X465 d3_26 rfl rfl ?_
      have f468 : AV Z h465 a1 .int [(.int y0), (.int y1), (.int y2), (.int y3)] := ((f460.keep (Keep.of_wr W462) (ninS (Nat.ne_of_lt (Nat.lt_of_lt_of_le H1.lt (Nat.le_of_eq g327.symm))) nin0)).keep (Keep.of_wr W465) (ninS (Nat.ne_of_lt (Nat.lt_of_lt_of_le H1.lt (Nat.le_of_eq g327.symm))) nin0))
      refine go_iaload K X465 e465 f468 (i := 3) rfl rfl d3_28 rfl ?_
      refine go_istore K X465 #[.val (.ref a1), .val (.ref b327), .val (.int (4 : Int32)), .val (.ref a1), .val (.int (4 : Int32)), .val (.int (3 : Int32)), .val (.int y3)] d3_29 rfl rfl ?_
      refine go_iloadN K X465 d3_31 rfl rfl ?_
      refine go_ifF K X465 d3_32 rfl (by decide : (0 : Int32) < (4 : Int32)) ?_
      refine go_aloadN K X465 d3_35 rfl rfl rfl ?_
      refine go_iloadN K X465 d3_36 rfl rfl ?_
      refine go_iconst K X465 (1 : Int32) d3_37 rfl rfl ?_
      refine go_isub K X465 d3_38 rfl ?_
      rw [show ((4 : Int32) - (1 : Int32)) = (3 : Int32) from by decide]
      refine go_iaload K X465 e465 f467 (i := 3) rfl rfl d3_39 rfl ?_
      refine go_iload K X465 d3_40 rfl rfl ?_
      refine go_icmp K X465 d3_42 (by decide) rfl rfl ?_ ?_
      · intro (hc469 : ¬ (y2 + (1 : Int32)) = y3)
        refine go_aloadN K X465 d3_57 rfl rfl rfl ?_
        refine go_iloadN K X465 d3_58 rfl rfl ?_
        refine go_iinc K X465 (1 : Int32) #[.val (.ref a1), .val (.ref b327), .val (.int ((4 : Int32) + (1 : Int32))), .val (.ref a1), .val (.int (4 : Int32)), .val (.int (3 : Int32)), .val (.int y3)] d3_59 rfl rfl rfl rfl ?_
        rw [show ((4 : Int32) + (1 : Int32)) = (5 : Int32) from by decide]
        refine go_iload K X465 d3_62 rfl rfl ?_
        refine go_iastore K X465 e465 f467 (i := 4) rfl (Nat.le_of_ble_eq_true rfl) ga328 d3_64 rfl ?_
        intro T470 h470 X470 e470 W470 A470
        have kp471 : Keep h0 h470 [] := kp466.trans (Keep.of_wr W470) (allS (Or.inr gb329) all0)
        have f472 : AV Z h470 b327 .int [(.int y0), (.int ((y0 + (1 : Int32)) + (1 : Int32))), (.int y2), (.int (y2 + (1 : Int32))), (.int y3), (.int (0 : Int32)), (.int (0 : Int32)), (.int (0 : Int32))] := A470
        refine go_aloadN K X470 d3_65 rfl rfl rfl ?_
        refine go_iloadN K X470 d3_66 rfl rfl ?_
        refine go_iinc K X470 (1 : Int32) #[.val (.ref a1), .val (.ref b327), .val (.int ((5 : Int32) + (1 : Int32))), .val (.ref a1), .val (.int (4 : Int32)), .val (.int (3 : Int32)), .val (.int y3)] d3_67 rfl rfl rfl rfl ?_
        rw [show ((5 : Int32) + (1 : Int32)) = (6 : Int32) from by decide]
        refine go_iload K X470 d3_70 rfl rfl ?_
        refine go_iconst K X470 (1 : Int32) d3_72 rfl rfl ?_
        refine go_iadd K X470 d3_73 rfl ?_
        refine go_iastore K X470 e470 f472 (i := 5) rfl (Nat.le_of_ble_eq_true rfl) ga328 d3_74 rfl ?_
        intro T473 h473 X473 e473 W473 A473
        have kp474 : Keep h0 h473 [] := kp471.trans (Keep.of_wr W473) (allS (Or.inr gb329) all0)
        have f475 : AV Z h473 b327 .int [(.int y0), (.int ((y0 + (1 : Int32)) + (1 : Int32))), (.int y2), (.int (y2 + (1 : Int32))), (.int y3), (.int (y3 + (1 : Int32))), (.int (0 : Int32)), (.int (0 : Int32))] := A473
        refine go_iinc K X473 (1 : Int32) #[.val (.ref a1), .val (.ref b327), .val (.int (6 : Int32)), .val (.ref a1), .val (.int (4 : Int32)), .val (.int ((3 : Int32) + (1 : Int32))), .val (.int y3)] d3_75 rfl rfl rfl rfl ?_
        rw [show ((3 : Int32) + (1 : Int32)) = (4 : Int32) from by decide]
        refine go_goto K X473 d3_78 (by decide) rfl ?_
        refine go_iload K X473 d3_18 rfl rfl ?_
        refine go_iload K X473 d3_20 rfl rfl ?_
        refine go_icmpT K X473 d3_22 (by decide) rfl (by decide : ¬ (4 : Int32) < (4 : Int32)) ?_
        refine go_new K X473 (wd hw 16 rfl) (wd hw 17 rfl) (wd hw 14 rfl) e473 d3_81 rfl (cells' := 2) (slots' := 9) rfl rfl (by decide) (by decide) ?_
        intro T476 h476 b476 g476 X476 e476 E476 A476 D476
        have ga477 : n0 ≤ b476 := Nat.le_trans (Nat.le_trans (Nat.le_trans (Nat.le_trans (Nat.le_trans (Nat.le_trans (Nat.le_trans (Nat.le_trans (Nat.le_trans H0 (Keep.ext (Keep.refl _ []) E327).1) (Keep.of_wr W333).1) (Keep.of_wr W336).1) (Keep.of_wr W457).1) (Keep.of_wr W462).1) (Keep.of_wr W465).1) (Keep.of_wr W470).1) (Keep.of_wr W473).1) (Nat.le_of_eq g476.symm)
        have gb478 : h0.size ≤ b476 := Nat.le_trans kp474.1 (Nat.le_of_eq g476.symm)
        have kp479 : Keep h0 h476 [] := kp474.trans (Keep.ext (Keep.refl _ []) E476) all0
        refine go_dup K X476 d3_84 rfl rfl ?_
        refine go_aloadN K X476 d3_85 rfl rfl rfl ?_
        refine go_iloadN K X476 d3_86 rfl rfl ?_
        have f480 : AV Z h476 b327 .int [(.int y0), (.int ((y0 + (1 : Int32)) + (1 : Int32))), (.int y2), (.int (y2 + (1 : Int32))), (.int y3), (.int (y3 + (1 : Int32))), (.int (0 : Int32)), (.int (0 : Int32))] := (f475.keep (Keep.ext (Keep.refl _ []) E476) nin0)
        refine go_static K X476 (argsL := [(.ref b327), (.int (6 : Int32))]) (stk := [(.ref b476), (.ref b476)]) (wd hw 18 rfl) (wd hw 19 rfl) (wd hw 20 rfl) (wd hw 21 rfl) (by decide) (lenOf pd_1 rfl) e476 (rmCopyLt hw b327 (6 : Int32) [(.int y0), (.int ((y0 + (1 : Int32)) + (1 : Int32))), (.int y2), (.int (y2 + (1 : Int32))), (.int y3), (.int (y3 + (1 : Int32))), (.int (0 : Int32)), (.int (0 : Int32))] 6 h476 (Nat.le_trans (Nat.le_trans (Nat.le_trans (Nat.le_trans (Nat.le_trans (Nat.le_trans (Nat.le_trans (Nat.le_trans (Nat.le_trans H0 (Keep.ext (Keep.refl _ []) E327).1) (Keep.of_wr W333).1) (Keep.of_wr W336).1) (Keep.of_wr W457).1) (Keep.of_wr W462).1) (Keep.of_wr W465).1) (Keep.of_wr W470).1) (Keep.of_wr W473).1) (Keep.ext (Keep.refl _ []) E476).1) f480 rfl (Nat.le_of_ble_eq_true rfl) (Nat.le_of_ble_eq_true rfl) (own_fit_list (by simp))) rfl rfl d3_87 rfl (by decide) (W := 2) (Nat.le_of_eq rfl) (by decide) (cells' := 3) (slots' := 17) rfl rfl (by decide) (by decide) ?_
        rintro T481 h481 _ X481 e481 ⟨r482, rfl, K481, f483, f484⟩
        show Go _ _ _ _ _ _ _ (T481.setTop (mkF m 90 #[.val (.ref a1), .val (.ref b327), .val (.int (6 : Int32)), .val (.ref a1), .val (.int (4 : Int32)), .val (.int (4 : Int32)), .val (.int y3)] [(.ref r482), (.ref b476), (.ref b476)]))
        have ga485 : n0 ≤ r482 := Nat.le_trans (Nat.le_trans (Nat.le_trans (Nat.le_trans (Nat.le_trans (Nat.le_trans (Nat.le_trans (Nat.le_trans (Nat.le_trans (Nat.le_trans H0 (Keep.ext (Keep.refl _ []) E327).1) (Keep.of_wr W333).1) (Keep.of_wr W336).1) (Keep.of_wr W457).1) (Keep.of_wr W462).1) (Keep.of_wr W465).1) (Keep.of_wr W470).1) (Keep.of_wr W473).1) (Keep.ext (Keep.refl _ []) E476).1) f483
        have gb486 : h0.size ≤ r482 := Nat.le_trans kp479.1 f483
        have kp487 : Keep h0 h481 [] := kp479.trans K481 all0
        have hr : own_runs [y0, y1, y2, y3] = [(.int y0), (.int ((y0 + (1 : Int32)) + (1 : Int32))), (.int y2), (.int (y2 + (1 : Int32))), (.int y3), (.int (y3 + (1 : Int32)))] := by
          show ((own_step (own_step (own_step (own_step ([]) y0) y1) y2) y3).reverse).map Value.int = _
          rw [own_step0, own_stepY hc340, own_stepN hc461, own_stepN hc469]
          rfl
        have zr482 : AV Z h481 r482 .int (own_runs [y0, y1, y2, y3]) := by rw [hr]; exact f484
        have f488 : Exa Z h481 b476 "com/example/divided_duty/dividedduty/policy/Ranges" := (A476.keep K481)
        have f489 : Fld Z h481 b476 "com/example/divided_duty/dividedduty/policy/Ranges" "bounds" "[I" .null := ((D476 (Or.inr (wd hw 38 rfl)) (ty := (.array .int)) (by decide) : Fld Z h476 b476 "com/example/divided_duty/dividedduty/policy/Ranges" "bounds" "[I" .null).keep K481 nin0)
        refine go_init K X481 (a := b476) (argsL := [(.ref r482)]) (stk := [(.ref b476)]) (wd hw 31 rfl) (wd hw 32 rfl) (wd hw 14 rfl) (wd hw 33 rfl) (by decide) rfl (lenOf pd_2 rfl) e481 (rmRInit hw b476 r482 .null h481 ga477 f488 f489) rfl rfl d3_90 rfl (by decide) (W := 1) (Nat.le_of_eq rfl) (by decide) (cells' := 3) (slots' := 17) rfl rfl (by decide) (by decide) ?_
        rintro T490 h490 _ X490 e490 ⟨rfl, K490, f491, f492⟩
        show Go _ _ _ _ _ _ _ (T490.setTop (mkF m 93 #[.val (.ref a1), .val (.ref b327), .val (.int (6 : Int32)), .val (.ref a1), .val (.int (4 : Int32)), .val (.int (4 : Int32)), .val (.int y3)] [(.ref b476)]))
        have kp493 : Keep h0 h490 [] := kp487.trans K490 (allS (Or.inr gb478) all0)
        refine go_retA K X490 rfl rfl rfl d3_93 (by decide) (by decide) ?_
        have f494 : AV Z h490 r482 .int (own_runs [y0, y1, y2, y3]) := (zr482.keep K490 (ninS (Ne.symm (Nat.ne_of_lt (Nat.lt_of_lt_of_le A476.lt f483))) nin0))
        rw [e490]
        exact ⟨b476, r482, rfl, kp493, gb478, gb486, f491, f492, f494⟩
      · intro (hc469 : (y2 + (1 : Int32)) = y3)
        refine go_aloadN K X465 d3_45 rfl rfl rfl ?_
        refine go_iloadN K X465 d3_46 rfl rfl ?_
        refine go_iconst K X465 (1 : Int32) d3_47 rfl rfl ?_
        refine go_isub K X465 d3_48 rfl ?_
        rw [show ((4 : Int32) - (1 : Int32)) = (3 : Int32) from by decide]
        refine go_dup2 K X465 d3_49 rfl rfl rfl ?_
        refine go_iaload K X465 e465 f467 (i := 3) rfl rfl d3_50 rfl ?_
        refine go_iconst K X465 (1 : Int32) d3_51 rfl rfl ?_
        refine go_iadd K X465 d3_52 rfl ?_
        refine go_iastore K X465 e465 f467 (i := 3) rfl (Nat.le_of_ble_eq_true rfl) ga328 d3_53 rfl ?_
        intro T495 h495 X495 e495 W495 A495
        have kp496 : Keep h0 h495 [] := kp466.trans (Keep.of_wr W495) (allS (Or.inr gb329) all0)
        have f497 : AV Z h495 b327 .int [(.int y0), (.int ((y0 + (1 : Int32)) + (1 : Int32))), (.int y2), (.int ((y2 + (1 : Int32)) + (1 : Int32))), (.int (0 : Int32)), (.int (0 : Int32)), (.int (0 : Int32)), (.int (0 : Int32))] := A495
        refine go_goto K X495 d3_54 (by decide) rfl ?_
        refine go_iinc K X495 (1 : Int32) #[.val (.ref a1), .val (.ref b327), .val (.int (4 : Int32)), .val (.ref a1), .val (.int (4 : Int32)), .val (.int ((3 : Int32) + (1 : Int32))), .val (.int y3)] d3_75 rfl rfl rfl rfl ?_
        rw [show ((3 : Int32) + (1 : Int32)) = (4 : Int32) from by decide]
        refine go_goto K X495 d3_78 (by decide) rfl ?_
        refine go_iload K X495 d3_18 rfl rfl ?_
        refine go_iload K X495 d3_20 rfl rfl ?_
        refine go_icmpT K X495 d3_22 (by decide) rfl (by decide : ¬ (4 : Int32) < (4 : Int32)) ?_
        refine go_new K X495 (wd hw 16 rfl) (wd hw 17 rfl) (wd hw 14 rfl) e495 d3_81 rfl (cells' := 2) (slots' := 9) rfl rfl (by decide) (by decide) ?_
        intro T498 h498 b498 g498 X498 e498 E498 A498 D498
        have ga499 : n0 ≤ b498 := Nat.le_trans (Nat.le_trans (Nat.le_trans (Nat.le_trans (Nat.le_trans (Nat.le_trans (Nat.le_trans (Nat.le_trans H0 (Keep.ext (Keep.refl _ []) E327).1) (Keep.of_wr W333).1) (Keep.of_wr W336).1) (Keep.of_wr W457).1) (Keep.of_wr W462).1) (Keep.of_wr W465).1) (Keep.of_wr W495).1) (Nat.le_of_eq g498.symm)
        have gb500 : h0.size ≤ b498 := Nat.le_trans kp496.1 (Nat.le_of_eq g498.symm)
        have kp501 : Keep h0 h498 [] := kp496.trans (Keep.ext (Keep.refl _ []) E498) all0
        refine go_dup K X498 d3_84 rfl rfl ?_
        refine go_aloadN K X498 d3_85 rfl rfl rfl ?_
        refine go_iloadN K X498 d3_86 rfl rfl ?_
        have f502 : AV Z h498 b327 .int [(.int y0), (.int ((y0 + (1 : Int32)) + (1 : Int32))), (.int y2), (.int ((y2 + (1 : Int32)) + (1 : Int32))), (.int (0 : Int32)), (.int (0 : Int32)), (.int (0 : Int32)), (.int (0 : Int32))] := (f497.keep (Keep.ext (Keep.refl _ []) E498) nin0)
        refine go_static K X498 (argsL := [(.ref b327), (.int (4 : Int32))]) (stk := [(.ref b498), (.ref b498)]) (wd hw 18 rfl) (wd hw 19 rfl) (wd hw 20 rfl) (wd hw 21 rfl) (by decide) (lenOf pd_1 rfl) e498 (rmCopyLt hw b327 (4 : Int32) [(.int y0), (.int ((y0 + (1 : Int32)) + (1 : Int32))), (.int y2), (.int ((y2 + (1 : Int32)) + (1 : Int32))), (.int (0 : Int32)), (.int (0 : Int32)), (.int (0 : Int32)), (.int (0 : Int32))] 4 h498 (Nat.le_trans (Nat.le_trans (Nat.le_trans (Nat.le_trans (Nat.le_trans (Nat.le_trans (Nat.le_trans (Nat.le_trans H0 (Keep.ext (Keep.refl _ []) E327).1) (Keep.of_wr W333).1) (Keep.of_wr W336).1) (Keep.of_wr W457).1) (Keep.of_wr W462).1) (Keep.of_wr W465).1) (Keep.of_wr W495).1) (Keep.ext (Keep.refl _ []) E498).1) f502 rfl (Nat.le_of_ble_eq_true rfl) (Nat.le_of_ble_eq_true rfl) (own_fit_list (by simp))) rfl rfl d3_87 rfl (by decide) (W := 2) (Nat.le_of_eq rfl) (by decide) (cells' := 3) (slots' := 17) rfl rfl (by decide) (by decide) ?_
        rintro T503 h503 _ X503 e503 ⟨r504, rfl, K503, f505, f506⟩
        show Go _ _ _ _ _ _ _ (T503.setTop (mkF m 90 #[.val (.ref a1), .val (.ref b327), .val (.int (4 : Int32)), .val (.ref a1), .val (.int (4 : Int32)), .val (.int (4 : Int32)), .val (.int y3)] [(.ref r504), (.ref b498), (.ref b498)]))
        have ga507 : n0 ≤ r504 := Nat.le_trans (Nat.le_trans (Nat.le_trans (Nat.le_trans (Nat.le_trans (Nat.le_trans (Nat.le_trans (Nat.le_trans (Nat.le_trans H0 (Keep.ext (Keep.refl _ []) E327).1) (Keep.of_wr W333).1) (Keep.of_wr W336).1) (Keep.of_wr W457).1) (Keep.of_wr W462).1) (Keep.of_wr W465).1) (Keep.of_wr W495).1) (Keep.ext (Keep.refl _ []) E498).1) f505
        have gb508 : h0.size ≤ r504 := Nat.le_trans kp501.1 f505
        have kp509 : Keep h0 h503 [] := kp501.trans K503 all0
        have hr : own_runs [y0, y1, y2, y3] = [(.int y0), (.int ((y0 + (1 : Int32)) + (1 : Int32))), (.int y2), (.int ((y2 + (1 : Int32)) + (1 : Int32)))] := by
          show ((own_step (own_step (own_step (own_step ([]) y0) y1) y2) y3).reverse).map Value.int = _
          rw [own_step0, own_stepY hc340, own_stepN hc461, own_stepY hc469]
          rfl
        have zr504 : AV Z h503 r504 .int (own_runs [y0, y1, y2, y3]) := by rw [hr]; exact f506
        have f510 : Exa Z h503 b498 "com/example/divided_duty/dividedduty/policy/Ranges" := (A498.keep K503)
        have f511 : Fld Z h503 b498 "com/example/divided_duty/dividedduty/policy/Ranges" "bounds" "[I" .null := ((D498 (Or.inr (wd hw 38 rfl)) (ty := (.array .int)) (by decide) : Fld Z h498 b498 "com/example/divided_duty/dividedduty/policy/Ranges" "bounds" "[I" .null).keep K503 nin0)
        refine go_init K X503 (a := b498) (argsL := [(.ref r504)]) (stk := [(.ref b498)]) (wd hw 31 rfl) (wd hw 32 rfl) (wd hw 14 rfl) (wd hw 33 rfl) (by decide) rfl (lenOf pd_2 rfl) e503 (rmRInit hw b498 r504 .null h503 ga499 f510 f511) rfl rfl d3_90 rfl (by decide) (W := 1) (Nat.le_of_eq rfl) (by decide) (cells' := 3) (slots' := 17) rfl rfl (by decide) (by decide) ?_
        rintro T512 h512 _ X512 e512 ⟨rfl, K512, f513, f514⟩
        show Go _ _ _ _ _ _ _ (T512.setTop (mkF m 93 #[.val (.ref a1), .val (.ref b327), .val (.int (4 : Int32)), .val (.ref a1), .val (.int (4 : Int32)), .val (.int (4 : Int32)), .val (.int y3)] [(.ref b498)]))
        have kp515 : Keep h0 h512 [] := kp509.trans K512 (allS (Or.inr gb500) all0)
        refine go_retA K X512 rfl rfl rfl d3_93 (by decide) (by decide) ?_
        have f516 : AV Z h512 r504 .int (own_runs [y0, y1, y2, y3]) := (zr504.keep K512 (ninS (Ne.symm (Nat.ne_of_lt (Nat.lt_of_lt_of_le A498.lt f505))) nin0))
        rw [e512]
        exact ⟨b498, r504, rfl, kp515, gb500, gb508, f513, f514, f516⟩
    · intro (hc461 : ((y0 + (1 : Int32)) + (1 : Int32)) = y2)
      refine go_aloadN K X457 d3_45 rfl rfl rfl ?_
      refine go_iloadN K X457 d3_46 rfl rfl ?_
      refine go_iconst K X457 (1 : Int32) d3_47 rfl rfl ?_
      refine go_isub K X457 d3_48 rfl ?_
      rw [show ((2 : Int32) - (1 : Int32)) = (1 : Int32) from by decide]
      refine go_dup2 K X457 d3_49 rfl rfl rfl ?_
      refine go_iaload K X457 e457 f459 (i := 1) rfl rfl d3_50 rfl ?_
      refine go_iconst K X457 (1 : Int32) d3_51 rfl rfl ?_
      refine go_iadd K X457 d3_52 rfl ?_
      refine go_iastore K X457 e457 f459 (i := 1) rfl (Nat.le_of_ble_eq_true rfl) ga328 d3_53 rfl ?_
      intro T517 h517 X517 e517 W517 A517
      have kp518 : Keep h0 h517 [] := kp458.trans (Keep.of_wr W517) (allS (Or.inr gb329) all0)
      have f519 : AV Z h517 b327 .int [(.int y0), (.int (((y0 + (1 : Int32)) + (1 : Int32)) + (1 : Int32))), (.int (0 : Int32)), (.int (0 : Int32)), (.int (0 : Int32)), (.int (0 : Int32)), (.int (0 : Int32)), (.int (0 : Int32))] := A517
      refine go_goto K X517 d3_54 (by decide) rfl ?_
      refine go_iinc K X517 (1 : Int32) #[.val (.ref a1), .val (.ref b327), .val (.int (2 : Int32)), .val (.ref a1), .val (.int (4 : Int32)), .val (.int ((2 : Int32) + (1 : Int32))), .val (.int y2)] d3_75 rfl rfl rfl rfl ?_
      rw [show ((2 : Int32) + (1 : Int32)) = (3 : Int32) from by decide]
      refine go_goto K X517 d3_78 (by decide) rfl ?_
      refine go_iload K X517 d3_18 rfl rfl ?_
      refine go_iload K X517 d3_20 rfl rfl ?_
      refine go_icmpF K X517 d3_22 rfl (by decide : (3 : Int32) < (4 : Int32)) ?_
      refine go_aloadN K X517 d3_25 rfl rfl rfl ?_
      refine go_iload K X517 d3_26 rfl rfl ?_
      have f520 : AV Z h517 a1 .int [(.int y0), (.int y1), (.int y2), (.int y3)] := (f460.keep (Keep.of_wr W517) (ninS (Nat.ne_of_lt (Nat.lt_of_lt_of_le H1.lt (Nat.le_of_eq g327.symm))) nin0))
      refine go_iaload K X517 e517 f520 (i := 3) rfl rfl d3_28 rfl ?_
      refine go_istore K X517 #[.val (.ref a1), .val (.ref b327), .val (.int (2 : Int32)), .val (.ref a1), .val (.int (4 : Int32)), .val (.int (3 : Int32)), .val (.int y3)] d3_29 rfl rfl ?_
      refine go_iloadN K X517 d3_31 rfl rfl ?_
      refine go_ifF K X517 d3_32 rfl (by decide : (0 : Int32) < (2 : Int32)) ?_
      refine go_aloadN K X517 d3_35 rfl rfl rfl ?_
      refine go_iloadN K X517 d3_36 rfl rfl ?_
      refine go_iconst K X517 (1 : Int32) d3_37 rfl rfl ?_
      refine go_isub K X517 d3_38 rfl ?_
      rw [show ((2 : Int32) - (1 : Int32)) = (1 : Int32) from by decide]
      refine go_iaload K X517 e517 f519 (i := 1) rfl rfl d3_39 rfl ?_
      refine go_iload K X517 d3_40 rfl rfl ?_
      refine go_icmp K X517 d3_42 (by decide) rfl rfl ?_ ?_
      · intro (hc521 : ¬ (((y0 + (1 : Int32)) + (1 : Int32)) + (1 : Int32)) = y3)
        refine go_aloadN K X517 d3_57 rfl rfl rfl ?_
        refine go_iloadN K X517 d3_58 rfl rfl ?_
        refine go_iinc K X517 (1 : Int32) #[.val (.ref a1), .val (.ref b327), .val (.int ((2 : Int32) + (1 : Int32))), .val (.ref a1), .val (.int (4 : Int32)), .val (.int (3 : Int32)), .val (.int y3)] d3_59 rfl rfl rfl rfl ?_
        rw [show ((2 : Int32) + (1 : Int32)) = (3 : Int32) from by decide]
        refine go_iload K X517 d3_62 rfl rfl ?_
        refine go_iastore K X517 e517 f519 (i := 2) rfl (Nat.le_of_ble_eq_true rfl) ga328 d3_64 rfl ?_
        intro T522 h522 X522 e522 W522 A522
        have kp523 : Keep h0 h522 [] := kp518.trans (Keep.of_wr W522) (allS (Or.inr gb329) all0)
        have f524 : AV Z h522 b327 .int [(.int y0), (.int (((y0 + (1 : Int32)) + (1 : Int32)) + (1 : Int32))), (.int y3), (.int (0 : Int32)), (.int (0 : Int32)), (.int (0 : Int32)), (.int (0 : Int32)), (.int (0 : Int32))] := A522
        refine go_aloadN K X522 d3_65 rfl rfl rfl ?_
        refine go_iloadN K X522 d3_66 rfl rfl ?_
        refine go_iinc K X522 (1 : Int32) #[.val (.ref a1), .val (.ref b327), .val (.int ((3 : Int32) + (1 : Int32))), .val (.ref a1), .val (.int (4 : Int32)), .val (.int (3 : Int32)), .val (.int y3)] d3_67 rfl rfl rfl rfl ?_
        rw [show ((3 : Int32) + (1 : Int32)) = (4 : Int32) from by decide]
        refine go_iload K X522 d3_70 rfl rfl ?_
        refine go_iconst K X522 (1 : Int32) d3_72 rfl rfl ?_
        refine go_iadd K X522 d3_73 rfl ?_
        refine go_iastore K X522 e522 f524 (i := 3) rfl (Nat.le_of_ble_eq_true rfl) ga328 d3_74 rfl ?_
        intro T525 h525 X525 e525 W525 A525
        have kp526 : Keep h0 h525 [] := kp523.trans (Keep.of_wr W525) (allS (Or.inr gb329) all0)
        have f527 : AV Z h525 b327 .int [(.int y0), (.int (((y0 + (1 : Int32)) + (1 : Int32)) + (1 : Int32))), (.int y3), (.int (y3 + (1 : Int32))), (.int (0 : Int32)), (.int (0 : Int32)), (.int (0 : Int32)), (.int (0 : Int32))] := A525
        refine go_iinc K X525 (1 : Int32) #[.val (.ref a1), .val (.ref b327), .val (.int (4 : Int32)), .val (.ref a1), .val (.int (4 : Int32)), .val (.int ((3 : Int32) + (1 : Int32))), .val (.int y3)] d3_75 rfl rfl rfl rfl ?_
        rw [show ((3 : Int32) + (1 : Int32)) = (4 : Int32) from by decide]
        refine go_goto K X525 d3_78 (by decide) rfl ?_
        refine go_iload K X525 d3_18 rfl rfl ?_
        refine go_iload K X525 d3_20 rfl rfl ?_
        refine go_icmpT K X525 d3_22 (by decide) rfl (by decide : ¬ (4 : Int32) < (4 : Int32)) ?_
        refine go_new K X525 (wd hw 16 rfl) (wd hw 17 rfl) (wd hw 14 rfl) e525 d3_81 rfl (cells' := 2) (slots' := 9) rfl rfl (by decide) (by decide) ?_
        intro T528 h528 b528 g528 X528 e528 E528 A528 D528
        have ga529 : n0 ≤ b528 := Nat.le_trans (Nat.le_trans (Nat.le_trans (Nat.le_trans (Nat.le_trans (Nat.le_trans (Nat.le_trans (Nat.le_trans H0 (Keep.ext (Keep.refl _ []) E327).1) (Keep.of_wr W333).1) (Keep.of_wr W336).1) (Keep.of_wr W457).1) (Keep.of_wr W517).1) (Keep.of_wr W522).1) (Keep.of_wr W525).1) (Nat.le_of_eq g528.symm)
        have gb530 : h0.size ≤ b528 := Nat.le_trans kp526.1 (Nat.le_of_eq g528.symm)
        have kp531 : Keep h0 h528 [] := kp526.trans (Keep.ext (Keep.refl _ []) E528) all0
        refine go_dup K X528 d3_84 rfl rfl ?_
        refine go_aloadN K X528 d3_85 rfl rfl rfl ?_
        refine go_iloadN K X528 d3_86 rfl rfl ?_
        have f532 : AV Z h528 b327 .int [(.int y0), (.int (((y0 + (1 : Int32)) + (1 : Int32)) + (1 : Int32))), (.int y3), (.int (y3 + (1 : Int32))), (.int (0 : Int32)), (.int (0 : Int32)), (.int (0 : Int32)), (.int (0 : Int32))] := (f527.keep (Keep.ext (Keep.refl _ []) E528) nin0)
        refine go_static K X528 (argsL := [(.ref b327), (.int (4 : Int32))]) (stk := [(.ref b528), (.ref b528)]) (wd hw 18 rfl) (wd hw 19 rfl) (wd hw 20 rfl) (wd hw 21 rfl) (by decide) (lenOf pd_1 rfl) e528 (rmCopyLt hw b327 (4 : Int32) [(.int y0), (.int (((y0 + (1 : Int32)) + (1 : Int32)) + (1 : Int32))), (.int y3), (.int (y3 + (1 : Int32))), (.int (0 : Int32)), (.int (0 : Int32)), (.int (0 : Int32)), (.int (0 : Int32))] 4 h528 (Nat.le_trans (Nat.le_trans (Nat.le_trans (Nat.le_trans (Nat.le_trans (Nat.le_trans (Nat.le_trans (Nat.le_trans H0 (Keep.ext (Keep.refl _ []) E327).1) (Keep.of_wr W333).1) (Keep.of_wr W336).1) (Keep.of_wr W457).1) (Keep.of_wr W517).1) (Keep.of_wr W522).1) (Keep.of_wr W525).1) (Keep.ext (Keep.refl _ []) E528).1) f532 rfl (Nat.le_of_ble_eq_true rfl) (Nat.le_of_ble_eq_true rfl) (own_fit_list (by simp))) rfl rfl d3_87 rfl (by decide) (W := 2) (Nat.le_of_eq rfl) (by decide) (cells' := 3) (slots' := 17) rfl rfl (by decide) (by decide) ?_
        rintro T533 h533 _ X533 e533 ⟨r534, rfl, K533, f535, f536⟩
        show Go _ _ _ _ _ _ _ (T533.setTop (mkF m 90 #[.val (.ref a1), .val (.ref b327), .val (.int (4 : Int32)), .val (.ref a1), .val (.int (4 : Int32)), .val (.int (4 : Int32)), .val (.int y3)] [(.ref r534), (.ref b528), (.ref b528)]))
        have ga537 : n0 ≤ r534 := Nat.le_trans (Nat.le_trans (Nat.le_trans (Nat.le_trans (Nat.le_trans (Nat.le_trans (Nat.le_trans (Nat.le_trans (Nat.le_trans H0 (Keep.ext (Keep.refl _ []) E327).1) (Keep.of_wr W333).1) (Keep.of_wr W336).1) (Keep.of_wr W457).1) (Keep.of_wr W517).1) (Keep.of_wr W522).1) (Keep.of_wr W525).1) (Keep.ext (Keep.refl _ []) E528).1) f535
        have gb538 : h0.size ≤ r534 := Nat.le_trans kp531.1 f535
        have kp539 : Keep h0 h533 [] := kp531.trans K533 all0
        have hr : own_runs [y0, y1, y2, y3] = [(.int y0), (.int (((y0 + (1 : Int32)) + (1 : Int32)) + (1 : Int32))), (.int y3), (.int (y3 + (1 : Int32)))] := by
          show ((own_step (own_step (own_step (own_step ([]) y0) y1) y2) y3).reverse).map Value.int = _
          rw [own_step0, own_stepY hc340, own_stepY hc461, own_stepN hc521]
          rfl
        have zr534 : AV Z h533 r534 .int (own_runs [y0, y1, y2, y3]) := by rw [hr]; exact f536
        have f540 : Exa Z h533 b528 "com/example/divided_duty/dividedduty/policy/Ranges" := (A528.keep K533)
        have f541 : Fld Z h533 b528 "com/example/divided_duty/dividedduty/policy/Ranges" "bounds" "[I" .null := ((D528 (Or.inr (wd hw 38 rfl)) (ty := (.array .int)) (by decide) : Fld Z h528 b528 "com/example/divided_duty/dividedduty/policy/Ranges" "bounds" "[I" .null).keep K533 nin0)
        refine go_init K X533 (a := b528) (argsL := [(.ref r534)]) (stk := [(.ref b528)]) (wd hw 31 rfl) (wd hw 32 rfl) (wd hw 14 rfl) (wd hw 33 rfl) (by decide) rfl (lenOf pd_2 rfl) e533 (rmRInit hw b528 r534 .null h533 ga529 f540 f541) rfl rfl d3_90 rfl (by decide) (W := 1) (Nat.le_of_eq rfl) (by decide) (cells' := 3) (slots' := 17) rfl rfl (by decide) (by decide) ?_
        rintro T542 h542 _ X542 e542 ⟨rfl, K542, f543, f544⟩
        show Go _ _ _ _ _ _ _ (T542.setTop (mkF m 93 #[.val (.ref a1), .val (.ref b327), .val (.int (4 : Int32)), .val (.ref a1), .val (.int (4 : Int32)), .val (.int (4 : Int32)), .val (.int y3)] [(.ref b528)]))
        have kp545 : Keep h0 h542 [] := kp539.trans K542 (allS (Or.inr gb530) all0)
        refine go_retA K X542 rfl rfl rfl d3_93 (by decide) (by decide) ?_
        have f546 : AV Z h542 r534 .int (own_runs [y0, y1, y2, y3]) := (zr534.keep K542 (ninS (Ne.symm (Nat.ne_of_lt (Nat.lt_of_lt_of_le A528.lt f535))) nin0))
        rw [e542]
        exact ⟨b528, r534, rfl, kp545, gb530, gb538, f543, f544, f546⟩
      · intro (hc521 : (((y0 + (1 : Int32)) + (1 : Int32)) + (1 : Int32)) = y3)
        refine go_aloadN K X517 d3_45 rfl rfl rfl ?_
        refine go_iloadN K X517 d3_46 rfl rfl ?_
        refine go_iconst K X517 (1 : Int32) d3_47 rfl rfl ?_
        refine go_isub K X517 d3_48 rfl ?_
        rw [show ((2 : Int32) - (1 : Int32)) = (1 : Int32) from by decide]
        refine go_dup2 K X517 d3_49 rfl rfl rfl ?_
        refine go_iaload K X517 e517 f519 (i := 1) rfl rfl d3_50 rfl ?_
        refine go_iconst K X517 (1 : Int32) d3_51 rfl rfl ?_
        refine go_iadd K X517 d3_52 rfl ?_
        refine go_iastore K X517 e517 f519 (i := 1) rfl (Nat.le_of_ble_eq_true rfl) ga328 d3_53 rfl ?_
        intro T547 h547 X547 e547 W547 A547
        have kp548 : Keep h0 h547 [] := kp518.trans (Keep.of_wr W547) (allS (Or.inr gb329) all0)
        have f549 : AV Z h547 b327 .int [(.int y0), (.int ((((y0 + (1 : Int32)) + (1 : Int32)) + (1 : Int32)) + (1 : Int32))), (.int (0 : Int32)), (.int (0 : Int32)), (.int (0 : Int32)), (.int (0 : Int32)), (.int (0 : Int32)), (.int (0 : Int32))] := A547
        refine go_goto K X547 d3_54 (by decide) rfl ?_
        refine go_iinc K X547 (1 : Int32) #[.val (.ref a1), .val (.ref b327), .val (.int (2 : Int32)), .val (.ref a1), .val (.int (4 : Int32)), .val (.int ((3 : Int32) + (1 : Int32))), .val (.int y3)] d3_75 rfl rfl rfl rfl ?_
        rw [show ((3 : Int32) + (1 : Int32)) = (4 : Int32) from by decide]
        refine go_goto K X547 d3_78 (by decide) rfl ?_
        refine go_iload K X547 d3_18 rfl rfl ?_
        refine go_iload K X547 d3_20 rfl rfl ?_
        refine go_icmpT K X547 d3_22 (by decide) rfl (by decide : ¬ (4 : Int32) < (4 : Int32)) ?_
        refine go_new K X547 (wd hw 16 rfl) (wd hw 17 rfl) (wd hw 14 rfl) e547 d3_81 rfl (cells' := 2) (slots' := 9) rfl rfl (by decide) (by decide) ?_
        intro T550 h550 b550 g550 X550 e550 E550 A550 D550
        have ga551 : n0 ≤ b550 := Nat.le_trans (Nat.le_trans (Nat.le_trans (Nat.le_trans (Nat.le_trans (Nat.le_trans (Nat.le_trans H0 (Keep.ext (Keep.refl _ []) E327).1) (Keep.of_wr W333).1) (Keep.of_wr W336).1) (Keep.of_wr W457).1) (Keep.of_wr W517).1) (Keep.of_wr W547).1) (Nat.le_of_eq g550.symm)
        have gb552 : h0.size ≤ b550 := Nat.le_trans kp548.1 (Nat.le_of_eq g550.symm)
        have kp553 : Keep h0 h550 [] := kp548.trans (Keep.ext (Keep.refl _ []) E550) all0
        refine go_dup K X550 d3_84 rfl rfl ?_
        refine go_aloadN K X550 d3_85 rfl rfl rfl ?_
        refine go_iloadN K X550 d3_86 rfl rfl ?_
        have f554 : AV Z h550 b327 .int [(.int y0), (.int ((((y0 + (1 : Int32)) + (1 : Int32)) + (1 : Int32)) + (1 : Int32))), (.int (0 : Int32)), (.int (0 : Int32)), (.int (0 : Int32)), (.int (0 : Int32)), (.int (0 : Int32)), (.int (0 : Int32))] := (f549.keep (Keep.ext (Keep.refl _ []) E550) nin0)
        refine go_static K X550 (argsL := [(.ref b327), (.int (2 : Int32))]) (stk := [(.ref b550), (.ref b550)]) (wd hw 18 rfl) (wd hw 19 rfl) (wd hw 20 rfl) (wd hw 21 rfl) (by decide) (lenOf pd_1 rfl) e550 (rmCopyLt hw b327 (2 : Int32) [(.int y0), (.int ((((y0 + (1 : Int32)) + (1 : Int32)) + (1 : Int32)) + (1 : Int32))), (.int (0 : Int32)), (.int (0 : Int32)), (.int (0 : Int32)), (.int (0 : Int32)), (.int (0 : Int32)), (.int (0 : Int32))] 2 h550 (Nat.le_trans (Nat.le_trans (Nat.le_trans (Nat.le_trans (Nat.le_trans (Nat.le_trans (Nat.le_trans H0 (Keep.ext (Keep.refl _ []) E327).1) (Keep.of_wr W333).1) (Keep.of_wr W336).1) (Keep.of_wr W457).1) (Keep.of_wr W517).1) (Keep.of_wr W547).1) (Keep.ext (Keep.refl _ []) E550).1) f554 rfl (Nat.le_of_ble_eq_true rfl) (Nat.le_of_ble_eq_true rfl) (own_fit_list (by simp))) rfl rfl d3_87 rfl (by decide) (W := 2) (Nat.le_of_eq rfl) (by decide) (cells' := 3) (slots' := 17) rfl rfl (by decide) (by decide) ?_
        rintro T555 h555 _ X555 e555 ⟨r556, rfl, K555, f557, f558⟩
        show Go _ _ _ _ _ _ _ (T555.setTop (mkF m 90 #[.val (.ref a1), .val (.ref b327), .val (.int (2 : Int32)), .val (.ref a1), .val (.int (4 : Int32)), .val (.int (4 : Int32)), .val (.int y3)] [(.ref r556), (.ref b550), (.ref b550)]))
        have ga559 : n0 ≤ r556 := Nat.le_trans (Nat.le_trans (Nat.le_trans (Nat.le_trans (Nat.le_trans (Nat.le_trans (Nat.le_trans (Nat.le_trans H0 (Keep.ext (Keep.refl _ []) E327).1) (Keep.of_wr W333).1) (Keep.of_wr W336).1) (Keep.of_wr W457).1) (Keep.of_wr W517).1) (Keep.of_wr W547).1) (Keep.ext (Keep.refl _ []) E550).1) f557
        have gb560 : h0.size ≤ r556 := Nat.le_trans kp553.1 f557
        have kp561 : Keep h0 h555 [] := kp553.trans K555 all0
        have hr : own_runs [y0, y1, y2, y3] = [(.int y0), (.int ((((y0 + (1 : Int32)) + (1 : Int32)) + (1 : Int32)) + (1 : Int32)))] := by
          show ((own_step (own_step (own_step (own_step ([]) y0) y1) y2) y3).reverse).map Value.int = _
          rw [own_step0, own_stepY hc340, own_stepY hc461, own_stepY hc521]
          rfl
        have zr556 : AV Z h555 r556 .int (own_runs [y0, y1, y2, y3]) := by rw [hr]; exact f558
        have f562 : Exa Z h555 b550 "com/example/divided_duty/dividedduty/policy/Ranges" := (A550.keep K555)
        have f563 : Fld Z h555 b550 "com/example/divided_duty/dividedduty/policy/Ranges" "bounds" "[I" .null := ((D550 (Or.inr (wd hw 38 rfl)) (ty := (.array .int)) (by decide) : Fld Z h550 b550 "com/example/divided_duty/dividedduty/policy/Ranges" "bounds" "[I" .null).keep K555 nin0)
        refine go_init K X555 (a := b550) (argsL := [(.ref r556)]) (stk := [(.ref b550)]) (wd hw 31 rfl) (wd hw 32 rfl) (wd hw 14 rfl) (wd hw 33 rfl) (by decide) rfl (lenOf pd_2 rfl) e555 (rmRInit hw b550 r556 .null h555 ga551 f562 f563) rfl rfl d3_90 rfl (by decide) (W := 1) (Nat.le_of_eq rfl) (by decide) (cells' := 3) (slots' := 17) rfl rfl (by decide) (by decide) ?_
        rintro T564 h564 _ X564 e564 ⟨rfl, K564, f565, f566⟩
        show Go _ _ _ _ _ _ _ (T564.setTop (mkF m 93 #[.val (.ref a1), .val (.ref b327), .val (.int (2 : Int32)), .val (.ref a1), .val (.int (4 : Int32)), .val (.int (4 : Int32)), .val (.int y3)] [(.ref b550)]))
        have kp567 : Keep h0 h564 [] := kp561.trans K564 (allS (Or.inr gb552) all0)
        refine go_retA K X564 rfl rfl rfl d3_93 (by decide) (by decide) ?_
        have f568 : AV Z h564 r556 .int (own_runs [y0, y1, y2, y3]) := (zr556.keep K564 (ninS (Ne.symm (Nat.ne_of_lt (Nat.lt_of_lt_of_le A550.lt f557))) nin0))
        rw [e564]
        exact ⟨b550, r556, rfl, kp567, gb552, gb560, f565, f566, f568⟩
theorem d7_0 : decode prog_29_method_10_code 0 = .ok (.aload_n 0, 1) := by decide +kernel
theorem d7_1 : decode prog_29_method_10_code 1 = .ok (.getfield 7, 3) := by decide +kernel
theorem d7_4 : decode prog_29_method_10_code 4 = .ok (.arraylength, 1) := by decide +kernel
theorem d7_5 : decode prog_29_method_10_code 5 = .ok (.iconst 2, 1) := by decide +kernel
theorem d7_6 : decode prog_29_method_10_code 6 = .ok (.idiv, 1) := by decide +kernel
theorem d7_7 : decode prog_29_method_10_code 7 = .ok (.ireturn, 1) := by decide +kernel
theorem ef_rmSize (m : MethodId) (a1 : Addr) : entryFrame m #[(.ref a1)] 1 = mkF m 0 #[.val (.ref a1)] [] := by first | (simp [entryFrame, mkF, argsToLocals, Value.category]; done) | rfl
def Q_rmSize (Z : State) (n0 : Nat) (a1 : Addr) (b : Addr) (vs : List Value) (h0 : Heap) (v : Option Value) (h : Heap) : Prop := v = some (.int (vs.length.toInt32 / (2 : Int32))) ∧ h = h0
abbrev R_rmSize : Room := { frames := 0, cells := 0, slots := 0, locals := 0 }
set_option maxRecDepth 65536 in
set_option maxHeartbeats 40000000 in
theorem rmSize {l : Launch} {Z : State} {n0 : Nat} {a0 : Array Value} (hw : ∀ d ∈ tables_1, d.before a0 Z = true) (a1 : Addr) (b : Addr) (vs : List Value) (h0 : Heap) (H0 : Fld Z h0 a1 "com/example/divided_duty/dividedduty/policy/Ranges" "bounds" "[I" (.ref b)) (H1 : AV Z h0 b .int vs) :
    Con l Z n0 (⟨"com/example/divided_duty/dividedduty/policy/Ranges", "size", "()I"⟩ : MethodName) prog_29_method_10_code 1 (some .int) R_rmSize #[(.ref a1)] h0 (Q_rmSize Z n0 a1 b vs h0) := by
  refine con_of (plainFor_of_name pn_com_example_divided_duty_dividedduty_policy_Ranges) ?_
  intro p e s m below meth c T0 K X0 e0
  replace K : Ctx p s m meth c Z "com/example/divided_duty/dividedduty/policy/Ranges" "size" prog_29_method_10_code 1 (some .int) := K
  refine go_entry (ef_rmSize m a1) ?_
  refine go_aloadN K X0 d7_0 rfl rfl rfl ?_
  refine go_getF K X0 (host := "") (Or.inl (wd hw 37 rfl)) Via.refl e0 H0 d7_1 rfl ?_
  intro T569 X569 e569
  refine go_arraylength K X569 e569 H1 (z := vs.length.toInt32) rfl d7_4 rfl ?_
  refine go_iconst K X569 (2 : Int32) d7_5 rfl rfl ?_
  refine go_idiv K X569 d7_6 (by decide) rfl ?_
  refine go_retI K X569 d7_7 (by decide) (by decide) ?_
  rw [e569]
  exact ⟨rfl, rfl⟩
theorem d10_0 : decode prog_29_method_11_code 0 = .ok (.aload_n 0, 1) := by decide +kernel
theorem d10_1 : decode prog_29_method_11_code 1 = .ok (.getfield 7, 3) := by decide +kernel
theorem d10_4 : decode prog_29_method_11_code 4 = .ok (.iconst 2, 1) := by decide +kernel
theorem d10_5 : decode prog_29_method_11_code 5 = .ok (.iload_n 1, 1) := by decide +kernel
theorem d10_6 : decode prog_29_method_11_code 6 = .ok (.imul, 1) := by decide +kernel
theorem d10_7 : decode prog_29_method_11_code 7 = .ok (.iaload, 1) := by decide +kernel
theorem d10_8 : decode prog_29_method_11_code 8 = .ok (.ireturn, 1) := by decide +kernel
theorem ef_rmFirst (m : MethodId) (a1 : Addr) (p2 : Int32) : entryFrame m #[(.ref a1), (.int p2)] 2 = mkF m 0 #[.val (.ref a1), .val (.int p2)] [] := by first | (simp [entryFrame, mkF, argsToLocals, Value.category]; done) | rfl
def Q_rmFirst (Z : State) (n0 : Nat) (a1 : Addr) (p2 : Int32) (b : Addr) (vs : List Value) (j : Nat) (y : Int32) (h0 : Heap) (v : Option Value) (h : Heap) : Prop := v = some (.int y) ∧ h = h0
abbrev R_rmFirst : Room := { frames := 0, cells := 0, slots := 0, locals := 0 }
set_option maxRecDepth 65536 in
set_option maxHeartbeats 40000000 in
theorem rmFirst {l : Launch} {Z : State} {n0 : Nat} {a0 : Array Value} (hw : ∀ d ∈ tables_1, d.before a0 Z = true) (a1 : Addr) (p2 : Int32) (b : Addr) (vs : List Value) (j : Nat) (y : Int32) (h0 : Heap) (H0 : Fld Z h0 a1 "com/example/divided_duty/dividedduty/policy/Ranges" "bounds" "[I" (.ref b)) (H1 : AV Z h0 b .int vs) (H2 : ((2 : Int32) * p2).toInt = (j : Int)) (H3 : vs[j]? = some (.int y)) :
    Con l Z n0 (⟨"com/example/divided_duty/dividedduty/policy/Ranges", "first", "(I)I"⟩ : MethodName) prog_29_method_11_code 2 (some .int) R_rmFirst #[(.ref a1), (.int p2)] h0 (Q_rmFirst Z n0 a1 p2 b vs j y h0) := by
  refine con_of (plainFor_of_name pn_com_example_divided_duty_dividedduty_policy_Ranges) ?_
  intro p e s m below meth c T0 K X0 e0
  replace K : Ctx p s m meth c Z "com/example/divided_duty/dividedduty/policy/Ranges" "first" prog_29_method_11_code 2 (some .int) := K
  refine go_entry (ef_rmFirst m a1 p2) ?_
  refine go_aloadN K X0 d10_0 rfl rfl rfl ?_
  refine go_getF K X0 (host := "") (Or.inl (wd hw 37 rfl)) Via.refl e0 H0 d10_1 rfl ?_
  intro T570 X570 e570
  refine go_iconst K X570 (2 : Int32) d10_4 rfl rfl ?_
  refine go_iloadN K X570 d10_5 rfl rfl ?_
  refine go_imul K X570 d10_6 rfl ?_
  refine go_iaload K X570 e570 H1 (i := j) H2 H3 d10_7 rfl ?_
  refine go_retI K X570 d10_8 (by decide) (by decide) ?_
  rw [e570]
  exact ⟨rfl, rfl⟩
theorem d11_0 : decode prog_29_method_12_code 0 = .ok (.aload_n 0, 1) := by decide +kernel
theorem d11_1 : decode prog_29_method_12_code 1 = .ok (.getfield 7, 3) := by decide +kernel
theorem d11_4 : decode prog_29_method_12_code 4 = .ok (.iconst 2, 1) := by decide +kernel
theorem d11_5 : decode prog_29_method_12_code 5 = .ok (.iload_n 1, 1) := by decide +kernel
theorem d11_6 : decode prog_29_method_12_code 6 = .ok (.imul, 1) := by decide +kernel
theorem d11_7 : decode prog_29_method_12_code 7 = .ok (.iconst 1, 1) := by decide +kernel
theorem d11_8 : decode prog_29_method_12_code 8 = .ok (.iadd, 1) := by decide +kernel
theorem d11_9 : decode prog_29_method_12_code 9 = .ok (.iaload, 1) := by decide +kernel
theorem d11_10 : decode prog_29_method_12_code 10 = .ok (.ireturn, 1) := by decide +kernel
theorem ef_rmEnd (m : MethodId) (a1 : Addr) (p2 : Int32) : entryFrame m #[(.ref a1), (.int p2)] 2 = mkF m 0 #[.val (.ref a1), .val (.int p2)] [] := by first | (simp [entryFrame, mkF, argsToLocals, Value.category]; done) | rfl
def Q_rmEnd (Z : State) (n0 : Nat) (a1 : Addr) (p2 : Int32) (b : Addr) (vs : List Value) (j : Nat) (y : Int32) (h0 : Heap) (v : Option Value) (h : Heap) : Prop := v = some (.int y) ∧ h = h0
abbrev R_rmEnd : Room := { frames := 0, cells := 0, slots := 0, locals := 0 }
set_option maxRecDepth 65536 in
set_option maxHeartbeats 40000000 in
theorem rmEnd {l : Launch} {Z : State} {n0 : Nat} {a0 : Array Value} (hw : ∀ d ∈ tables_1, d.before a0 Z = true) (a1 : Addr) (p2 : Int32) (b : Addr) (vs : List Value) (j : Nat) (y : Int32) (h0 : Heap) (H0 : Fld Z h0 a1 "com/example/divided_duty/dividedduty/policy/Ranges" "bounds" "[I" (.ref b)) (H1 : AV Z h0 b .int vs) (H2 : (((2 : Int32) * p2) + (1 : Int32)).toInt = (j : Int)) (H3 : vs[j]? = some (.int y)) :
    Con l Z n0 (⟨"com/example/divided_duty/dividedduty/policy/Ranges", "end", "(I)I"⟩ : MethodName) prog_29_method_12_code 2 (some .int) R_rmEnd #[(.ref a1), (.int p2)] h0 (Q_rmEnd Z n0 a1 p2 b vs j y h0) := by
  refine con_of (plainFor_of_name pn_com_example_divided_duty_dividedduty_policy_Ranges) ?_
  intro p e s m below meth c T0 K X0 e0
  replace K : Ctx p s m meth c Z "com/example/divided_duty/dividedduty/policy/Ranges" "end" prog_29_method_12_code 2 (some .int) := K
  refine go_entry (ef_rmEnd m a1 p2) ?_
  refine go_aloadN K X0 d11_0 rfl rfl rfl ?_
  refine go_getF K X0 (host := "") (Or.inl (wd hw 37 rfl)) Via.refl e0 H0 d11_1 rfl ?_
  intro T571 X571 e571
  refine go_iconst K X571 (2 : Int32) d11_4 rfl rfl ?_
  refine go_iloadN K X571 d11_5 rfl rfl ?_
  refine go_imul K X571 d11_6 rfl ?_
  refine go_iconst K X571 (1 : Int32) d11_7 rfl rfl ?_
  refine go_iadd K X571 d11_8 rfl ?_
  refine go_iaload K X571 e571 H1 (i := j) H2 H3 d11_9 rfl ?_
  refine go_retI K X571 d11_10 (by decide) (by decide) ?_
  rw [e571]
  exact ⟨rfl, rfl⟩
theorem d9_0 : decode method_4_code 0 = .ok (.iload_n 1, 1) := by decide +kernel
theorem d9_1 : decode method_4_code 1 = .ok (.iload_n 2, 1) := by decide +kernel
theorem d9_2 : decode method_4_code 2 = .ok (.if_icmp .lt 5, 3) := by decide +kernel
theorem d9_7 : decode method_4_code 7 = .ok (.iconst 1, 1) := by decide +kernel
theorem d9_8 : decode method_4_code 8 = .ok (.istore 6, 2) := by decide +kernel
theorem d9_10 : decode method_4_code 10 = .ok (.iload_n 1, 1) := by decide +kernel
theorem d9_11 : decode method_4_code 11 = .ok (.ifCond .eq 10, 3) := by decide +kernel
theorem d9_21 : decode method_4_code 21 = .ok (.iload 6, 2) := by decide +kernel
theorem d9_23 : decode method_4_code 23 = .ok (.ifCond .eq 22, 3) := by decide +kernel
theorem d9_26 : decode method_4_code 26 = .ok (.aload_n 0, 1) := by decide +kernel
theorem d9_27 : decode method_4_code 27 = .ok (.aload 4, 2) := by decide +kernel
theorem d9_29 : decode method_4_code 29 = .ok (.iload_n 1, 1) := by decide +kernel
theorem d9_30 : decode method_4_code 30 = .ok (.iaload, 1) := by decide +kernel
theorem d9_31 : decode method_4_code 31 = .ok (.invokevirtual 10, 3) := by decide +kernel
theorem pd_3 : parseMethodDescriptor "(I)I" = some ⟨[.int], some .int⟩ := by decide +kernel
theorem d9_34 : decode method_4_code 34 = .ok (.aload_n 3, 1) := by decide +kernel
theorem d9_35 : decode method_4_code 35 = .ok (.iload_n 1, 1) := by decide +kernel
theorem d9_36 : decode method_4_code 36 = .ok (.laload, 1) := by decide +kernel
theorem d9_37 : decode method_4_code 37 = .ok (.l2i, 1) := by decide +kernel
theorem d9_38 : decode method_4_code 38 = .ok (.if_icmp .ne 7, 3) := by decide +kernel
theorem d9_41 : decode method_4_code 41 = .ok (.iconst 1, 1) := by decide +kernel
theorem d9_42 : decode method_4_code 42 = .ok (.goto 4, 3) := by decide +kernel
theorem d9_46 : decode method_4_code 46 = .ok (.istore 6, 2) := by decide +kernel
theorem d9_48 : decode method_4_code 48 = .ok (.iload_n 1, 1) := by decide +kernel
theorem d9_49 : decode method_4_code 49 = .ok (.iload_n 2, 1) := by decide +kernel
theorem d9_50 : decode method_4_code 50 = .ok (.iconst 1, 1) := by decide +kernel
theorem d9_51 : decode method_4_code 51 = .ok (.isub, 1) := by decide +kernel
theorem d9_52 : decode method_4_code 52 = .ok (.if_icmp .eq 12, 3) := by decide +kernel
theorem d9_64 : decode method_4_code 64 = .ok (.iload 6, 2) := by decide +kernel
theorem d9_66 : decode method_4_code 66 = .ok (.ifCond .eq 24, 3) := by decide +kernel
theorem d9_69 : decode method_4_code 69 = .ok (.aload_n 0, 1) := by decide +kernel
theorem d9_70 : decode method_4_code 70 = .ok (.aload 4, 2) := by decide +kernel
theorem d9_72 : decode method_4_code 72 = .ok (.iload_n 1, 1) := by decide +kernel
theorem d9_73 : decode method_4_code 73 = .ok (.iaload, 1) := by decide +kernel
theorem d9_74 : decode method_4_code 74 = .ok (.invokevirtual 16, 3) := by decide +kernel
theorem d9_77 : decode method_4_code 77 = .ok (.aload_n 3, 1) := by decide +kernel
theorem d9_78 : decode method_4_code 78 = .ok (.iload_n 1, 1) := by decide +kernel
theorem d9_79 : decode method_4_code 79 = .ok (.laload, 1) := by decide +kernel
theorem d9_80 : decode method_4_code 80 = .ok (.lconst 1, 1) := by decide +kernel
theorem d9_81 : decode method_4_code 81 = .ok (.ladd, 1) := by decide +kernel
theorem d9_82 : decode method_4_code 82 = .ok (.l2i, 1) := by decide +kernel
theorem d9_83 : decode method_4_code 83 = .ok (.if_icmp .ne 7, 3) := by decide +kernel
theorem d9_86 : decode method_4_code 86 = .ok (.iconst 1, 1) := by decide +kernel
theorem d9_87 : decode method_4_code 87 = .ok (.goto 4, 3) := by decide +kernel
theorem d9_91 : decode method_4_code 91 = .ok (.istore 6, 2) := by decide +kernel
theorem d9_93 : decode method_4_code 93 = .ok (.iload 6, 2) := by decide +kernel
theorem d9_95 : decode method_4_code 95 = .ok (.ireturn, 1) := by decide +kernel
theorem ef_rmChk1_0 (m : MethodId) (a1 : Addr) (a4 : Addr) (a5 : Addr) (a6 : Addr) : entryFrame m #[(.ref a1), (.int (0 : Int32)), (.int (1 : Int32)), (.ref a4), (.ref a5), (.ref a6)] 7 = mkF m 0 #[.val (.ref a1), .val (.int (0 : Int32)), .val (.int (1 : Int32)), .val (.ref a4), .val (.ref a5), .val (.ref a6), .unset] [] := by first | (simp [entryFrame, mkF, argsToLocals, Value.category]; done) | rfl
def Q_rmChk1_0 (Z : State) (n0 : Nat) (a1 : Addr) (a4 : Addr) (a5 : Addr) (a6 : Addr) (x0 : Int64) (x1 : Int64) (x2 : Int64) (x3 : Int64) (r1 : Int32) (r2 : Int32) (r3 : Int32) (t1 : Int32) (t2 : Int32) (t3 : Int32) (b : Addr) (vs : List Value) (h0 : Heap) (v : Option Value) (h : Heap) : Prop := v = some (.int (1 : Int32)) ∧ h = h0
abbrev R_rmChk1_0 : Room := { frames := 1, cells := 0, slots := 0, locals := 13 }
set_option maxRecDepth 65536 in
set_option maxHeartbeats 40000000 in
theorem rmChk1_0 {l : Launch} {Z : State} {n0 : Nat} {a0 : Array Value} (hw : ∀ d ∈ tables_1, d.before a0 Z = true) (a1 : Addr) (a4 : Addr) (a5 : Addr) (a6 : Addr) (x0 : Int64) (x1 : Int64) (x2 : Int64) (x3 : Int64) (r1 : Int32) (r2 : Int32) (r3 : Int32) (t1 : Int32) (t2 : Int32) (t3 : Int32) (b : Addr) (vs : List Value) (h0 : Heap) (H0 : Exa Z h0 a1 "com/example/divided_duty/dividedduty/policy/Ranges") (H1 : Fld Z h0 a1 "com/example/divided_duty/dividedduty/policy/Ranges" "bounds" "[I" (.ref b)) (H2 : AV Z h0 b .int vs) (H3 : AV Z h0 a4 .long [(.long x0), (.long x1), (.long x2), (.long x3)]) (H4 : AV Z h0 a5 .int [(.int (0 : Int32)), (.int r1), (.int r2), (.int r3)]) (H5 : AV Z h0 a6 .boolean [(.int (0 : Int32)), (.int t1), (.int t2), (.int t3)]) (H6 : ∃ j : Nat, ((2 : Int32) * (0 : Int32)).toInt = (j : Int) ∧ vs[j]? = some (.int (x0.toInt32))) (H7 : ∃ j : Nat, (((2 : Int32) * (0 : Int32)) + (1 : Int32)).toInt = (j : Int) ∧ vs[j]? = some (.int ((x0 + (1 : Int64)).toInt32))) :
    Con l Z n0 (⟨"com/example/divided_duty/dividedduty/policy/RangesOfSortedPinLaw", "check", "(Lcom/example/divided_duty/dividedduty/policy/Ranges;II[J[I[Z)Z"⟩ : MethodName) method_4_code 7 (some .boolean) R_rmChk1_0 #[(.ref a1), (.int (0 : Int32)), (.int (1 : Int32)), (.ref a4), (.ref a5), (.ref a6)] h0 (Q_rmChk1_0 Z n0 a1 a4 a5 a6 x0 x1 x2 x3 r1 r2 r3 t1 t2 t3 b vs h0) := by
  refine con_of (plainFor_of_name pn_com_example_divided_duty_dividedduty_policy_RangesOfSortedPinLaw) ?_
  intro p e s m below meth c T0 K X0 e0
  replace K : Ctx p s m meth c Z "com/example/divided_duty/dividedduty/policy/RangesOfSortedPinLaw" "check" method_4_code 7 (some .boolean) := K
  refine go_entry (ef_rmChk1_0 m a1 a4 a5 a6) ?_
  refine go_iloadN K X0 d9_0 rfl rfl ?_
  refine go_iloadN K X0 d9_1 rfl rfl ?_
  refine go_icmpT K X0 d9_2 (by decide) rfl (by decide : (0 : Int32) < (1 : Int32)) ?_
  refine go_iconst K X0 (1 : Int32) d9_7 rfl rfl ?_
  refine go_istore K X0 #[.val (.ref a1), .val (.int (0 : Int32)), .val (.int (1 : Int32)), .val (.ref a4), .val (.ref a5), .val (.ref a6), .val (.int (1 : Int32))] d9_8 rfl rfl ?_
  refine go_iloadN K X0 d9_10 rfl rfl ?_
  refine go_ifT K X0 d9_11 (by decide) rfl (by decide : (0 : Int32) = (0 : Int32)) ?_
  refine go_iload K X0 d9_21 rfl rfl ?_
  refine go_ifF K X0 d9_23 rfl (by decide : ¬ (1 : Int32) = (0 : Int32)) ?_
  refine go_aloadN K X0 d9_26 rfl rfl rfl ?_
  refine go_aload K X0 d9_27 rfl rfl rfl ?_
  refine go_iloadN K X0 d9_29 rfl rfl ?_
  refine go_iaload K X0 e0 H4 (i := 0) rfl rfl d9_30 rfl ?_
  obtain ⟨j1, k1, l1⟩ := H6
  refine go_virt K X0 (a := a1) (argsL := [(.int (0 : Int32))]) (stk := []) (wd hw 57 rfl) (wd hw 58 rfl) (wd hw 60 rfl) (wd hw 60 rfl) (wd hw 59 rfl) (wd hw 61 rfl) (wd hw 14 rfl) (by decide) (lenOf pd_3 rfl) e0 H0 (rmFirst hw a1 (0 : Int32) b vs j1 (x0.toInt32) h0 H1 H2 k1 l1) rfl rfl d9_31 rfl (by decide) (W := 0) (Nat.le_of_eq rfl) (by decide) (cells' := 0) (slots' := 0) rfl rfl (by decide) (by decide) ?_
  rintro T572 h572 _ X572 e572 ⟨rfl, qe572⟩
  show Go _ _ _ _ _ _ _ (T572.setTop (mkF m 34 #[.val (.ref a1), .val (.int (0 : Int32)), .val (.int (1 : Int32)), .val (.ref a4), .val (.ref a5), .val (.ref a6), .val (.int (1 : Int32))] [(.int (x0.toInt32))]))
  replace e572 := e572.trans qe572
  refine go_aloadN K X572 d9_34 rfl rfl rfl ?_
  refine go_iloadN K X572 d9_35 rfl rfl ?_
  refine go_laload K X572 e572 H3 (i := 0) rfl rfl d9_36 rfl ?_
  refine go_l2i K X572 d9_37 rfl ?_
  refine go_icmpF K X572 d9_38 rfl (rfl : (x0.toInt32) = (x0.toInt32)) ?_
  refine go_iconst K X572 (1 : Int32) d9_41 rfl rfl ?_
  refine go_goto K X572 d9_42 (by decide) rfl ?_
  refine go_istore K X572 #[.val (.ref a1), .val (.int (0 : Int32)), .val (.int (1 : Int32)), .val (.ref a4), .val (.ref a5), .val (.ref a6), .val (.int (1 : Int32))] d9_46 rfl rfl ?_
  refine go_iloadN K X572 d9_48 rfl rfl ?_
  refine go_iloadN K X572 d9_49 rfl rfl ?_
  refine go_iconst K X572 (1 : Int32) d9_50 rfl rfl ?_
  refine go_isub K X572 d9_51 rfl ?_
  rw [show ((1 : Int32) - (1 : Int32)) = (0 : Int32) from by decide]
  refine go_icmpT K X572 d9_52 (by decide) rfl (by decide : (0 : Int32) = (0 : Int32)) ?_
  refine go_iload K X572 d9_64 rfl rfl ?_
  refine go_ifF K X572 d9_66 rfl (by decide : ¬ (1 : Int32) = (0 : Int32)) ?_
  refine go_aloadN K X572 d9_69 rfl rfl rfl ?_
  refine go_aload K X572 d9_70 rfl rfl rfl ?_
  refine go_iloadN K X572 d9_72 rfl rfl ?_
  refine go_iaload K X572 e572 H4 (i := 0) rfl rfl d9_73 rfl ?_
  obtain ⟨j2, k2, l2⟩ := H7
  refine go_virt K X572 (a := a1) (argsL := [(.int (0 : Int32))]) (stk := []) (wd hw 62 rfl) (wd hw 63 rfl) (wd hw 65 rfl) (wd hw 65 rfl) (wd hw 64 rfl) (wd hw 66 rfl) (wd hw 14 rfl) (by decide) (lenOf pd_3 rfl) e572 H0 (rmEnd hw a1 (0 : Int32) b vs j2 ((x0 + (1 : Int64)).toInt32) h0 H1 H2 k2 l2) rfl rfl d9_74 rfl (by decide) (W := 0) (Nat.le_of_eq rfl) (by decide) (cells' := 0) (slots' := 0) rfl rfl (by decide) (by decide) ?_
  rintro T573 h573 _ X573 e573 ⟨rfl, qe573⟩
  show Go _ _ _ _ _ _ _ (T573.setTop (mkF m 77 #[.val (.ref a1), .val (.int (0 : Int32)), .val (.int (1 : Int32)), .val (.ref a4), .val (.ref a5), .val (.ref a6), .val (.int (1 : Int32))] [(.int ((x0 + (1 : Int64)).toInt32))]))
  replace e573 := e573.trans qe573
  refine go_aloadN K X573 d9_77 rfl rfl rfl ?_
  refine go_iloadN K X573 d9_78 rfl rfl ?_
  refine go_laload K X573 e573 H3 (i := 0) rfl rfl d9_79 rfl ?_
  refine go_lconst K X573 (1 : Int64) d9_80 rfl rfl ?_
  refine go_ladd K X573 d9_81 rfl ?_
  refine go_l2i K X573 d9_82 rfl ?_
  refine go_icmpF K X573 d9_83 rfl (rfl : ((x0 + (1 : Int64)).toInt32) = ((x0 + (1 : Int64)).toInt32)) ?_
  refine go_iconst K X573 (1 : Int32) d9_86 rfl rfl ?_
  refine go_goto K X573 d9_87 (by decide) rfl ?_
  refine go_istore K X573 #[.val (.ref a1), .val (.int (0 : Int32)), .val (.int (1 : Int32)), .val (.ref a4), .val (.ref a5), .val (.ref a6), .val (.int (1 : Int32))] d9_91 rfl rfl ?_
  refine go_iload K X573 d9_93 rfl rfl ?_
  refine go_retZ K X573 (Or.inr rfl) d9_95 (by decide) (by decide) ?_
  rw [e573]
  exact ⟨rfl, rfl⟩
theorem d9_5 : decode method_4_code 5 = .ok (.iconst 1, 1) := by decide +kernel
theorem d9_6 : decode method_4_code 6 = .ok (.ireturn, 1) := by decide +kernel
theorem ef_rmChk1_1 (m : MethodId) (a1 : Addr) (a4 : Addr) (a5 : Addr) (a6 : Addr) : entryFrame m #[(.ref a1), (.int (1 : Int32)), (.int (1 : Int32)), (.ref a4), (.ref a5), (.ref a6)] 7 = mkF m 0 #[.val (.ref a1), .val (.int (1 : Int32)), .val (.int (1 : Int32)), .val (.ref a4), .val (.ref a5), .val (.ref a6), .unset] [] := by first | (simp [entryFrame, mkF, argsToLocals, Value.category]; done) | rfl
def Q_rmChk1_1 (Z : State) (n0 : Nat) (a1 : Addr) (a4 : Addr) (a5 : Addr) (a6 : Addr) (x0 : Int64) (x1 : Int64) (x2 : Int64) (x3 : Int64) (r1 : Int32) (r2 : Int32) (r3 : Int32) (t1 : Int32) (t2 : Int32) (t3 : Int32) (b : Addr) (vs : List Value) (h0 : Heap) (v : Option Value) (h : Heap) : Prop := v = some (.int (1 : Int32)) ∧ h = h0
abbrev R_rmChk1_1 : Room := { frames := 0, cells := 0, slots := 0, locals := 0 }
set_option maxRecDepth 65536 in
set_option maxHeartbeats 40000000 in
theorem rmChk1_1 {l : Launch} {Z : State} {n0 : Nat} {a0 : Array Value} (hw : ∀ d ∈ tables_1, d.before a0 Z = true) (a1 : Addr) (a4 : Addr) (a5 : Addr) (a6 : Addr) (x0 : Int64) (x1 : Int64) (x2 : Int64) (x3 : Int64) (r1 : Int32) (r2 : Int32) (r3 : Int32) (t1 : Int32) (t2 : Int32) (t3 : Int32) (b : Addr) (vs : List Value) (h0 : Heap) (H0 : Exa Z h0 a1 "com/example/divided_duty/dividedduty/policy/Ranges") (H1 : Fld Z h0 a1 "com/example/divided_duty/dividedduty/policy/Ranges" "bounds" "[I" (.ref b)) (H2 : AV Z h0 b .int vs) (H3 : AV Z h0 a4 .long [(.long x0), (.long x1), (.long x2), (.long x3)]) (H4 : AV Z h0 a5 .int [(.int (0 : Int32)), (.int r1), (.int r2), (.int r3)]) (H5 : AV Z h0 a6 .boolean [(.int (0 : Int32)), (.int t1), (.int t2), (.int t3)]) :
    Con l Z n0 (⟨"com/example/divided_duty/dividedduty/policy/RangesOfSortedPinLaw", "check", "(Lcom/example/divided_duty/dividedduty/policy/Ranges;II[J[I[Z)Z"⟩ : MethodName) method_4_code 7 (some .boolean) R_rmChk1_1 #[(.ref a1), (.int (1 : Int32)), (.int (1 : Int32)), (.ref a4), (.ref a5), (.ref a6)] h0 (Q_rmChk1_1 Z n0 a1 a4 a5 a6 x0 x1 x2 x3 r1 r2 r3 t1 t2 t3 b vs h0) := by
  refine con_of (plainFor_of_name pn_com_example_divided_duty_dividedduty_policy_RangesOfSortedPinLaw) ?_
  intro p e s m below meth c T0 K X0 e0
  replace K : Ctx p s m meth c Z "com/example/divided_duty/dividedduty/policy/RangesOfSortedPinLaw" "check" method_4_code 7 (some .boolean) := K
  refine go_entry (ef_rmChk1_1 m a1 a4 a5 a6) ?_
  refine go_iloadN K X0 d9_0 rfl rfl ?_
  refine go_iloadN K X0 d9_1 rfl rfl ?_
  refine go_icmpF K X0 d9_2 rfl (by decide : ¬ (1 : Int32) < (1 : Int32)) ?_
  refine go_iconst K X0 (1 : Int32) d9_5 rfl rfl ?_
  refine go_retZ K X0 (Or.inr rfl) d9_6 (by decide) (by decide) ?_
  rw [e0]
  exact ⟨rfl, rfl⟩
theorem ef_rmChk1_2 (m : MethodId) (a1 : Addr) (a4 : Addr) (a5 : Addr) (a6 : Addr) : entryFrame m #[(.ref a1), (.int (2 : Int32)), (.int (1 : Int32)), (.ref a4), (.ref a5), (.ref a6)] 7 = mkF m 0 #[.val (.ref a1), .val (.int (2 : Int32)), .val (.int (1 : Int32)), .val (.ref a4), .val (.ref a5), .val (.ref a6), .unset] [] := by first | (simp [entryFrame, mkF, argsToLocals, Value.category]; done) | rfl
def Q_rmChk1_2 (Z : State) (n0 : Nat) (a1 : Addr) (a4 : Addr) (a5 : Addr) (a6 : Addr) (x0 : Int64) (x1 : Int64) (x2 : Int64) (x3 : Int64) (r1 : Int32) (r2 : Int32) (r3 : Int32) (t1 : Int32) (t2 : Int32) (t3 : Int32) (b : Addr) (vs : List Value) (h0 : Heap) (v : Option Value) (h : Heap) : Prop := v = some (.int (1 : Int32)) ∧ h = h0
abbrev R_rmChk1_2 : Room := { frames := 0, cells := 0, slots := 0, locals := 0 }
set_option maxRecDepth 65536 in
set_option maxHeartbeats 40000000 in
theorem rmChk1_2 {l : Launch} {Z : State} {n0 : Nat} {a0 : Array Value} (hw : ∀ d ∈ tables_1, d.before a0 Z = true) (a1 : Addr) (a4 : Addr) (a5 : Addr) (a6 : Addr) (x0 : Int64) (x1 : Int64) (x2 : Int64) (x3 : Int64) (r1 : Int32) (r2 : Int32) (r3 : Int32) (t1 : Int32) (t2 : Int32) (t3 : Int32) (b : Addr) (vs : List Value) (h0 : Heap) (H0 : Exa Z h0 a1 "com/example/divided_duty/dividedduty/policy/Ranges") (H1 : Fld Z h0 a1 "com/example/divided_duty/dividedduty/policy/Ranges" "bounds" "[I" (.ref b)) (H2 : AV Z h0 b .int vs) (H3 : AV Z h0 a4 .long [(.long x0), (.long x1), (.long x2), (.long x3)]) (H4 : AV Z h0 a5 .int [(.int (0 : Int32)), (.int r1), (.int r2), (.int r3)]) (H5 : AV Z h0 a6 .boolean [(.int (0 : Int32)), (.int t1), (.int t2), (.int t3)]) :
    Con l Z n0 (⟨"com/example/divided_duty/dividedduty/policy/RangesOfSortedPinLaw", "check", "(Lcom/example/divided_duty/dividedduty/policy/Ranges;II[J[I[Z)Z"⟩ : MethodName) method_4_code 7 (some .boolean) R_rmChk1_2 #[(.ref a1), (.int (2 : Int32)), (.int (1 : Int32)), (.ref a4), (.ref a5), (.ref a6)] h0 (Q_rmChk1_2 Z n0 a1 a4 a5 a6 x0 x1 x2 x3 r1 r2 r3 t1 t2 t3 b vs h0) := by
  refine con_of (plainFor_of_name pn_com_example_divided_duty_dividedduty_policy_RangesOfSortedPinLaw) ?_
  intro p e s m below meth c T0 K X0 e0
  replace K : Ctx p s m meth c Z "com/example/divided_duty/dividedduty/policy/RangesOfSortedPinLaw" "check" method_4_code 7 (some .boolean) := K
  refine go_entry (ef_rmChk1_2 m a1 a4 a5 a6) ?_
  refine go_iloadN K X0 d9_0 rfl rfl ?_
  refine go_iloadN K X0 d9_1 rfl rfl ?_
  refine go_icmpF K X0 d9_2 rfl (by decide : ¬ (2 : Int32) < (1 : Int32)) ?_
  refine go_iconst K X0 (1 : Int32) d9_5 rfl rfl ?_
  refine go_retZ K X0 (Or.inr rfl) d9_6 (by decide) (by decide) ?_
  rw [e0]
  exact ⟨rfl, rfl⟩
theorem ef_rmChk1_3 (m : MethodId) (a1 : Addr) (a4 : Addr) (a5 : Addr) (a6 : Addr) : entryFrame m #[(.ref a1), (.int (3 : Int32)), (.int (1 : Int32)), (.ref a4), (.ref a5), (.ref a6)] 7 = mkF m 0 #[.val (.ref a1), .val (.int (3 : Int32)), .val (.int (1 : Int32)), .val (.ref a4), .val (.ref a5), .val (.ref a6), .unset] [] := by first | (simp [entryFrame, mkF, argsToLocals, Value.category]; done) | rfl
def Q_rmChk1_3 (Z : State) (n0 : Nat) (a1 : Addr) (a4 : Addr) (a5 : Addr) (a6 : Addr) (x0 : Int64) (x1 : Int64) (x2 : Int64) (x3 : Int64) (r1 : Int32) (r2 : Int32) (r3 : Int32) (t1 : Int32) (t2 : Int32) (t3 : Int32) (b : Addr) (vs : List Value) (h0 : Heap) (v : Option Value) (h : Heap) : Prop := v = some (.int (1 : Int32)) ∧ h = h0
abbrev R_rmChk1_3 : Room := { frames := 0, cells := 0, slots := 0, locals := 0 }
set_option maxRecDepth 65536 in
set_option maxHeartbeats 40000000 in
theorem rmChk1_3 {l : Launch} {Z : State} {n0 : Nat} {a0 : Array Value} (hw : ∀ d ∈ tables_1, d.before a0 Z = true) (a1 : Addr) (a4 : Addr) (a5 : Addr) (a6 : Addr) (x0 : Int64) (x1 : Int64) (x2 : Int64) (x3 : Int64) (r1 : Int32) (r2 : Int32) (r3 : Int32) (t1 : Int32) (t2 : Int32) (t3 : Int32) (b : Addr) (vs : List Value) (h0 : Heap) (H0 : Exa Z h0 a1 "com/example/divided_duty/dividedduty/policy/Ranges") (H1 : Fld Z h0 a1 "com/example/divided_duty/dividedduty/policy/Ranges" "bounds" "[I" (.ref b)) (H2 : AV Z h0 b .int vs) (H3 : AV Z h0 a4 .long [(.long x0), (.long x1), (.long x2), (.long x3)]) (H4 : AV Z h0 a5 .int [(.int (0 : Int32)), (.int r1), (.int r2), (.int r3)]) (H5 : AV Z h0 a6 .boolean [(.int (0 : Int32)), (.int t1), (.int t2), (.int t3)]) :
    Con l Z n0 (⟨"com/example/divided_duty/dividedduty/policy/RangesOfSortedPinLaw", "check", "(Lcom/example/divided_duty/dividedduty/policy/Ranges;II[J[I[Z)Z"⟩ : MethodName) method_4_code 7 (some .boolean) R_rmChk1_3 #[(.ref a1), (.int (3 : Int32)), (.int (1 : Int32)), (.ref a4), (.ref a5), (.ref a6)] h0 (Q_rmChk1_3 Z n0 a1 a4 a5 a6 x0 x1 x2 x3 r1 r2 r3 t1 t2 t3 b vs h0) := by
  refine con_of (plainFor_of_name pn_com_example_divided_duty_dividedduty_policy_RangesOfSortedPinLaw) ?_
  intro p e s m below meth c T0 K X0 e0
  replace K : Ctx p s m meth c Z "com/example/divided_duty/dividedduty/policy/RangesOfSortedPinLaw" "check" method_4_code 7 (some .boolean) := K
  refine go_entry (ef_rmChk1_3 m a1 a4 a5 a6) ?_
  refine go_iloadN K X0 d9_0 rfl rfl ?_
  refine go_iloadN K X0 d9_1 rfl rfl ?_
  refine go_icmpF K X0 d9_2 rfl (by decide : ¬ (3 : Int32) < (1 : Int32)) ?_
  refine go_iconst K X0 (1 : Int32) d9_5 rfl rfl ?_
  refine go_retZ K X0 (Or.inr rfl) d9_6 (by decide) (by decide) ?_
  rw [e0]
  exact ⟨rfl, rfl⟩
theorem d9_55 : decode method_4_code 55 = .ok (.aload 5, 2) := by decide +kernel
theorem d9_57 : decode method_4_code 57 = .ok (.iload_n 1, 1) := by decide +kernel
theorem d9_58 : decode method_4_code 58 = .ok (.iconst 1, 1) := by decide +kernel
theorem d9_59 : decode method_4_code 59 = .ok (.iadd, 1) := by decide +kernel
theorem d9_60 : decode method_4_code 60 = .ok (.baload, 1) := by decide +kernel
theorem d9_61 : decode method_4_code 61 = .ok (.ifCond .ne 32, 3) := by decide +kernel
theorem ef_rmChk2_0 (m : MethodId) (a1 : Addr) (a4 : Addr) (a5 : Addr) (a6 : Addr) : entryFrame m #[(.ref a1), (.int (0 : Int32)), (.int (2 : Int32)), (.ref a4), (.ref a5), (.ref a6)] 7 = mkF m 0 #[.val (.ref a1), .val (.int (0 : Int32)), .val (.int (2 : Int32)), .val (.ref a4), .val (.ref a5), .val (.ref a6), .unset] [] := by first | (simp [entryFrame, mkF, argsToLocals, Value.category]; done) | rfl
def Q_rmChk2_0 (Z : State) (n0 : Nat) (a1 : Addr) (a4 : Addr) (a5 : Addr) (a6 : Addr) (x0 : Int64) (x1 : Int64) (x2 : Int64) (x3 : Int64) (r1 : Int32) (r2 : Int32) (r3 : Int32) (t1 : Int32) (t2 : Int32) (t3 : Int32) (b : Addr) (vs : List Value) (h0 : Heap) (v : Option Value) (h : Heap) : Prop := v = some (.int (1 : Int32)) ∧ h = h0
abbrev R_rmChk2_0 : Room := { frames := 1, cells := 0, slots := 0, locals := 13 }
set_option maxRecDepth 65536 in
set_option maxHeartbeats 40000000 in
theorem rmChk2_0 {l : Launch} {Z : State} {n0 : Nat} {a0 : Array Value} (hw : ∀ d ∈ tables_1, d.before a0 Z = true) (a1 : Addr) (a4 : Addr) (a5 : Addr) (a6 : Addr) (x0 : Int64) (x1 : Int64) (x2 : Int64) (x3 : Int64) (r1 : Int32) (r2 : Int32) (r3 : Int32) (t1 : Int32) (t2 : Int32) (t3 : Int32) (b : Addr) (vs : List Value) (h0 : Heap) (H0 : Exa Z h0 a1 "com/example/divided_duty/dividedduty/policy/Ranges") (H1 : Fld Z h0 a1 "com/example/divided_duty/dividedduty/policy/Ranges" "bounds" "[I" (.ref b)) (H2 : AV Z h0 b .int vs) (H3 : AV Z h0 a4 .long [(.long x0), (.long x1), (.long x2), (.long x3)]) (H4 : AV Z h0 a5 .int [(.int (0 : Int32)), (.int r1), (.int r2), (.int r3)]) (H5 : AV Z h0 a6 .boolean [(.int (0 : Int32)), (.int t1), (.int t2), (.int t3)]) (H6 : ∃ j : Nat, ((2 : Int32) * (0 : Int32)).toInt = (j : Int) ∧ vs[j]? = some (.int (x0.toInt32))) (H7 : t1 = 0 → ∃ j : Nat, (((2 : Int32) * (0 : Int32)) + (1 : Int32)).toInt = (j : Int) ∧ vs[j]? = some (.int ((x0 + (1 : Int64)).toInt32))) :
    Con l Z n0 (⟨"com/example/divided_duty/dividedduty/policy/RangesOfSortedPinLaw", "check", "(Lcom/example/divided_duty/dividedduty/policy/Ranges;II[J[I[Z)Z"⟩ : MethodName) method_4_code 7 (some .boolean) R_rmChk2_0 #[(.ref a1), (.int (0 : Int32)), (.int (2 : Int32)), (.ref a4), (.ref a5), (.ref a6)] h0 (Q_rmChk2_0 Z n0 a1 a4 a5 a6 x0 x1 x2 x3 r1 r2 r3 t1 t2 t3 b vs h0) := by
  refine con_of (plainFor_of_name pn_com_example_divided_duty_dividedduty_policy_RangesOfSortedPinLaw) ?_
  intro p e s m below meth c T0 K X0 e0
  replace K : Ctx p s m meth c Z "com/example/divided_duty/dividedduty/policy/RangesOfSortedPinLaw" "check" method_4_code 7 (some .boolean) := K
  refine go_entry (ef_rmChk2_0 m a1 a4 a5 a6) ?_
  refine go_iloadN K X0 d9_0 rfl rfl ?_
  refine go_iloadN K X0 d9_1 rfl rfl ?_
  refine go_icmpT K X0 d9_2 (by decide) rfl (by decide : (0 : Int32) < (2 : Int32)) ?_
  refine go_iconst K X0 (1 : Int32) d9_7 rfl rfl ?_
  refine go_istore K X0 #[.val (.ref a1), .val (.int (0 : Int32)), .val (.int (2 : Int32)), .val (.ref a4), .val (.ref a5), .val (.ref a6), .val (.int (1 : Int32))] d9_8 rfl rfl ?_
  refine go_iloadN K X0 d9_10 rfl rfl ?_
  refine go_ifT K X0 d9_11 (by decide) rfl (by decide : (0 : Int32) = (0 : Int32)) ?_
  refine go_iload K X0 d9_21 rfl rfl ?_
  refine go_ifF K X0 d9_23 rfl (by decide : ¬ (1 : Int32) = (0 : Int32)) ?_
  refine go_aloadN K X0 d9_26 rfl rfl rfl ?_
  refine go_aload K X0 d9_27 rfl rfl rfl ?_
  refine go_iloadN K X0 d9_29 rfl rfl ?_
  refine go_iaload K X0 e0 H4 (i := 0) rfl rfl d9_30 rfl ?_
  obtain ⟨j1, k1, l1⟩ := H6
  refine go_virt K X0 (a := a1) (argsL := [(.int (0 : Int32))]) (stk := []) (wd hw 57 rfl) (wd hw 58 rfl) (wd hw 60 rfl) (wd hw 60 rfl) (wd hw 59 rfl) (wd hw 61 rfl) (wd hw 14 rfl) (by decide) (lenOf pd_3 rfl) e0 H0 (rmFirst hw a1 (0 : Int32) b vs j1 (x0.toInt32) h0 H1 H2 k1 l1) rfl rfl d9_31 rfl (by decide) (W := 0) (Nat.le_of_eq rfl) (by decide) (cells' := 0) (slots' := 0) rfl rfl (by decide) (by decide) ?_
  rintro T574 h574 _ X574 e574 ⟨rfl, qe574⟩
  show Go _ _ _ _ _ _ _ (T574.setTop (mkF m 34 #[.val (.ref a1), .val (.int (0 : Int32)), .val (.int (2 : Int32)), .val (.ref a4), .val (.ref a5), .val (.ref a6), .val (.int (1 : Int32))] [(.int (x0.toInt32))]))
  replace e574 := e574.trans qe574
  refine go_aloadN K X574 d9_34 rfl rfl rfl ?_
  refine go_iloadN K X574 d9_35 rfl rfl ?_
  refine go_laload K X574 e574 H3 (i := 0) rfl rfl d9_36 rfl ?_
  refine go_l2i K X574 d9_37 rfl ?_
  refine go_icmpF K X574 d9_38 rfl (rfl : (x0.toInt32) = (x0.toInt32)) ?_
  refine go_iconst K X574 (1 : Int32) d9_41 rfl rfl ?_
  refine go_goto K X574 d9_42 (by decide) rfl ?_
  refine go_istore K X574 #[.val (.ref a1), .val (.int (0 : Int32)), .val (.int (2 : Int32)), .val (.ref a4), .val (.ref a5), .val (.ref a6), .val (.int (1 : Int32))] d9_46 rfl rfl ?_
  refine go_iloadN K X574 d9_48 rfl rfl ?_
  refine go_iloadN K X574 d9_49 rfl rfl ?_
  refine go_iconst K X574 (1 : Int32) d9_50 rfl rfl ?_
  refine go_isub K X574 d9_51 rfl ?_
  rw [show ((2 : Int32) - (1 : Int32)) = (1 : Int32) from by decide]
  refine go_icmpF K X574 d9_52 rfl (by decide : ¬ (0 : Int32) = (1 : Int32)) ?_
  refine go_aload K X574 d9_55 rfl rfl rfl ?_
  refine go_iloadN K X574 d9_57 rfl rfl ?_
  refine go_iconst K X574 (1 : Int32) d9_58 rfl rfl ?_
  refine go_iadd K X574 d9_59 rfl ?_
  rw [show ((0 : Int32) + (1 : Int32)) = (1 : Int32) from by decide]
  refine go_baloadZ K X574 e574 H5 (i := 1) rfl rfl d9_60 rfl ?_
  refine go_if K X574 d9_61 (by decide) rfl rfl ?_ ?_
  · intro (hc575 : ¬ t1 = (0 : Int32))
    refine go_iload K X574 d9_93 rfl rfl ?_
    refine go_retZ K X574 (Or.inr rfl) d9_95 (by decide) (by decide) ?_
    rw [e574]
    exact ⟨rfl, rfl⟩
  · intro (hc575 : t1 = (0 : Int32))
    refine go_iload K X574 d9_64 rfl rfl ?_
    refine go_ifF K X574 d9_66 rfl (by decide : ¬ (1 : Int32) = (0 : Int32)) ?_
    refine go_aloadN K X574 d9_69 rfl rfl rfl ?_
    refine go_aload K X574 d9_70 rfl rfl rfl ?_
    refine go_iloadN K X574 d9_72 rfl rfl ?_
    refine go_iaload K X574 e574 H4 (i := 0) rfl rfl d9_73 rfl ?_
    obtain ⟨j2, k2, l2⟩ := H7 (by simpa using hc575)
    refine go_virt K X574 (a := a1) (argsL := [(.int (0 : Int32))]) (stk := []) (wd hw 62 rfl) (wd hw 63 rfl) (wd hw 65 rfl) (wd hw 65 rfl) (wd hw 64 rfl) (wd hw 66 rfl) (wd hw 14 rfl) (by decide) (lenOf pd_3 rfl) e574 H0 (rmEnd hw a1 (0 : Int32) b vs j2 ((x0 + (1 : Int64)).toInt32) h0 H1 H2 k2 l2) rfl rfl d9_74 rfl (by decide) (W := 0) (Nat.le_of_eq rfl) (by decide) (cells' := 0) (slots' := 0) rfl rfl (by decide) (by decide) ?_
    rintro T576 h576 _ X576 e576 ⟨rfl, qe576⟩
    show Go _ _ _ _ _ _ _ (T576.setTop (mkF m 77 #[.val (.ref a1), .val (.int (0 : Int32)), .val (.int (2 : Int32)), .val (.ref a4), .val (.ref a5), .val (.ref a6), .val (.int (1 : Int32))] [(.int ((x0 + (1 : Int64)).toInt32))]))
    replace e576 := e576.trans qe576
    refine go_aloadN K X576 d9_77 rfl rfl rfl ?_
    refine go_iloadN K X576 d9_78 rfl rfl ?_
    refine go_laload K X576 e576 H3 (i := 0) rfl rfl d9_79 rfl ?_
    refine go_lconst K X576 (1 : Int64) d9_80 rfl rfl ?_
    refine go_ladd K X576 d9_81 rfl ?_
    refine go_l2i K X576 d9_82 rfl ?_
    refine go_icmpF K X576 d9_83 rfl (rfl : ((x0 + (1 : Int64)).toInt32) = ((x0 + (1 : Int64)).toInt32)) ?_
    refine go_iconst K X576 (1 : Int32) d9_86 rfl rfl ?_
    refine go_goto K X576 d9_87 (by decide) rfl ?_
    refine go_istore K X576 #[.val (.ref a1), .val (.int (0 : Int32)), .val (.int (2 : Int32)), .val (.ref a4), .val (.ref a5), .val (.ref a6), .val (.int (1 : Int32))] d9_91 rfl rfl ?_
    refine go_iload K X576 d9_93 rfl rfl ?_
    refine go_retZ K X576 (Or.inr rfl) d9_95 (by decide) (by decide) ?_
    rw [e576]
    exact ⟨rfl, rfl⟩
theorem d9_14 : decode method_4_code 14 = .ok (.aload 5, 2) := by decide +kernel
theorem d9_16 : decode method_4_code 16 = .ok (.iload_n 1, 1) := by decide +kernel
theorem d9_17 : decode method_4_code 17 = .ok (.baload, 1) := by decide +kernel
theorem d9_18 : decode method_4_code 18 = .ok (.ifCond .ne 30, 3) := by decide +kernel
theorem ef_rmChk2_1 (m : MethodId) (a1 : Addr) (a4 : Addr) (a5 : Addr) (a6 : Addr) : entryFrame m #[(.ref a1), (.int (1 : Int32)), (.int (2 : Int32)), (.ref a4), (.ref a5), (.ref a6)] 7 = mkF m 0 #[.val (.ref a1), .val (.int (1 : Int32)), .val (.int (2 : Int32)), .val (.ref a4), .val (.ref a5), .val (.ref a6), .unset] [] := by first | (simp [entryFrame, mkF, argsToLocals, Value.category]; done) | rfl
def Q_rmChk2_1 (Z : State) (n0 : Nat) (a1 : Addr) (a4 : Addr) (a5 : Addr) (a6 : Addr) (x0 : Int64) (x1 : Int64) (x2 : Int64) (x3 : Int64) (r1 : Int32) (r2 : Int32) (r3 : Int32) (t1 : Int32) (t2 : Int32) (t3 : Int32) (b : Addr) (vs : List Value) (h0 : Heap) (v : Option Value) (h : Heap) : Prop := v = some (.int (1 : Int32)) ∧ h = h0
abbrev R_rmChk2_1 : Room := { frames := 1, cells := 0, slots := 0, locals := 13 }
set_option maxRecDepth 65536 in
set_option maxHeartbeats 40000000 in
theorem rmChk2_1 {l : Launch} {Z : State} {n0 : Nat} {a0 : Array Value} (hw : ∀ d ∈ tables_1, d.before a0 Z = true) (a1 : Addr) (a4 : Addr) (a5 : Addr) (a6 : Addr) (x0 : Int64) (x1 : Int64) (x2 : Int64) (x3 : Int64) (r1 : Int32) (r2 : Int32) (r3 : Int32) (t1 : Int32) (t2 : Int32) (t3 : Int32) (b : Addr) (vs : List Value) (h0 : Heap) (H0 : Exa Z h0 a1 "com/example/divided_duty/dividedduty/policy/Ranges") (H1 : Fld Z h0 a1 "com/example/divided_duty/dividedduty/policy/Ranges" "bounds" "[I" (.ref b)) (H2 : AV Z h0 b .int vs) (H3 : AV Z h0 a4 .long [(.long x0), (.long x1), (.long x2), (.long x3)]) (H4 : AV Z h0 a5 .int [(.int (0 : Int32)), (.int r1), (.int r2), (.int r3)]) (H5 : AV Z h0 a6 .boolean [(.int (0 : Int32)), (.int t1), (.int t2), (.int t3)]) (H6 : t1 = 0 → ∃ j : Nat, ((2 : Int32) * r1).toInt = (j : Int) ∧ vs[j]? = some (.int (x1.toInt32))) (H7 : ∃ j : Nat, (((2 : Int32) * r1) + (1 : Int32)).toInt = (j : Int) ∧ vs[j]? = some (.int ((x1 + (1 : Int64)).toInt32))) :
    Con l Z n0 (⟨"com/example/divided_duty/dividedduty/policy/RangesOfSortedPinLaw", "check", "(Lcom/example/divided_duty/dividedduty/policy/Ranges;II[J[I[Z)Z"⟩ : MethodName) method_4_code 7 (some .boolean) R_rmChk2_1 #[(.ref a1), (.int (1 : Int32)), (.int (2 : Int32)), (.ref a4), (.ref a5), (.ref a6)] h0 (Q_rmChk2_1 Z n0 a1 a4 a5 a6 x0 x1 x2 x3 r1 r2 r3 t1 t2 t3 b vs h0) := by
  refine con_of (plainFor_of_name pn_com_example_divided_duty_dividedduty_policy_RangesOfSortedPinLaw) ?_
  intro p e s m below meth c T0 K X0 e0
  replace K : Ctx p s m meth c Z "com/example/divided_duty/dividedduty/policy/RangesOfSortedPinLaw" "check" method_4_code 7 (some .boolean) := K
  refine go_entry (ef_rmChk2_1 m a1 a4 a5 a6) ?_
  refine go_iloadN K X0 d9_0 rfl rfl ?_
  refine go_iloadN K X0 d9_1 rfl rfl ?_
  refine go_icmpT K X0 d9_2 (by decide) rfl (by decide : (1 : Int32) < (2 : Int32)) ?_
  refine go_iconst K X0 (1 : Int32) d9_7 rfl rfl ?_
  refine go_istore K X0 #[.val (.ref a1), .val (.int (1 : Int32)), .val (.int (2 : Int32)), .val (.ref a4), .val (.ref a5), .val (.ref a6), .val (.int (1 : Int32))] d9_8 rfl rfl ?_
  refine go_iloadN K X0 d9_10 rfl rfl ?_
  refine go_ifF K X0 d9_11 rfl (by decide : ¬ (1 : Int32) = (0 : Int32)) ?_
  refine go_aload K X0 d9_14 rfl rfl rfl ?_
  refine go_iloadN K X0 d9_16 rfl rfl ?_
  refine go_baloadZ K X0 e0 H5 (i := 1) rfl rfl d9_17 rfl ?_
  refine go_if K X0 d9_18 (by decide) rfl rfl ?_ ?_
  · intro (hc577 : ¬ t1 = (0 : Int32))
    refine go_iloadN K X0 d9_48 rfl rfl ?_
    refine go_iloadN K X0 d9_49 rfl rfl ?_
    refine go_iconst K X0 (1 : Int32) d9_50 rfl rfl ?_
    refine go_isub K X0 d9_51 rfl ?_
    rw [show ((2 : Int32) - (1 : Int32)) = (1 : Int32) from by decide]
    refine go_icmpT K X0 d9_52 (by decide) rfl (by decide : (1 : Int32) = (1 : Int32)) ?_
    refine go_iload K X0 d9_64 rfl rfl ?_
    refine go_ifF K X0 d9_66 rfl (by decide : ¬ (1 : Int32) = (0 : Int32)) ?_
    refine go_aloadN K X0 d9_69 rfl rfl rfl ?_
    refine go_aload K X0 d9_70 rfl rfl rfl ?_
    refine go_iloadN K X0 d9_72 rfl rfl ?_
    refine go_iaload K X0 e0 H4 (i := 1) rfl rfl d9_73 rfl ?_
    obtain ⟨j2, k2, l2⟩ := H7
    refine go_virt K X0 (a := a1) (argsL := [(.int r1)]) (stk := []) (wd hw 62 rfl) (wd hw 63 rfl) (wd hw 65 rfl) (wd hw 65 rfl) (wd hw 64 rfl) (wd hw 66 rfl) (wd hw 14 rfl) (by decide) (lenOf pd_3 rfl) e0 H0 (rmEnd hw a1 r1 b vs j2 ((x1 + (1 : Int64)).toInt32) h0 H1 H2 k2 l2) rfl rfl d9_74 rfl (by decide) (W := 0) (Nat.le_of_eq rfl) (by decide) (cells' := 0) (slots' := 0) rfl rfl (by decide) (by decide) ?_
    rintro T578 h578 _ X578 e578 ⟨rfl, qe578⟩
    show Go _ _ _ _ _ _ _ (T578.setTop (mkF m 77 #[.val (.ref a1), .val (.int (1 : Int32)), .val (.int (2 : Int32)), .val (.ref a4), .val (.ref a5), .val (.ref a6), .val (.int (1 : Int32))] [(.int ((x1 + (1 : Int64)).toInt32))]))
    replace e578 := e578.trans qe578
    refine go_aloadN K X578 d9_77 rfl rfl rfl ?_
    refine go_iloadN K X578 d9_78 rfl rfl ?_
    refine go_laload K X578 e578 H3 (i := 1) rfl rfl d9_79 rfl ?_
    refine go_lconst K X578 (1 : Int64) d9_80 rfl rfl ?_
    refine go_ladd K X578 d9_81 rfl ?_
    refine go_l2i K X578 d9_82 rfl ?_
    refine go_icmpF K X578 d9_83 rfl (rfl : ((x1 + (1 : Int64)).toInt32) = ((x1 + (1 : Int64)).toInt32)) ?_
    refine go_iconst K X578 (1 : Int32) d9_86 rfl rfl ?_
    refine go_goto K X578 d9_87 (by decide) rfl ?_
    refine go_istore K X578 #[.val (.ref a1), .val (.int (1 : Int32)), .val (.int (2 : Int32)), .val (.ref a4), .val (.ref a5), .val (.ref a6), .val (.int (1 : Int32))] d9_91 rfl rfl ?_
    refine go_iload K X578 d9_93 rfl rfl ?_
    refine go_retZ K X578 (Or.inr rfl) d9_95 (by decide) (by decide) ?_
    rw [e578]
    exact ⟨rfl, rfl⟩
  · intro (hc577 : t1 = (0 : Int32))
    refine go_iload K X0 d9_21 rfl rfl ?_
    refine go_ifF K X0 d9_23 rfl (by decide : ¬ (1 : Int32) = (0 : Int32)) ?_
    refine go_aloadN K X0 d9_26 rfl rfl rfl ?_
    refine go_aload K X0 d9_27 rfl rfl rfl ?_
    refine go_iloadN K X0 d9_29 rfl rfl ?_
    refine go_iaload K X0 e0 H4 (i := 1) rfl rfl d9_30 rfl ?_
    obtain ⟨j1, k1, l1⟩ := H6 (by simpa using hc577)
    refine go_virt K X0 (a := a1) (argsL := [(.int r1)]) (stk := []) (wd hw 57 rfl) (wd hw 58 rfl) (wd hw 60 rfl) (wd hw 60 rfl) (wd hw 59 rfl) (wd hw 61 rfl) (wd hw 14 rfl) (by decide) (lenOf pd_3 rfl) e0 H0 (rmFirst hw a1 r1 b vs j1 (x1.toInt32) h0 H1 H2 k1 l1) rfl rfl d9_31 rfl (by decide) (W := 0) (Nat.le_of_eq rfl) (by decide) (cells' := 0) (slots' := 0) rfl rfl (by decide) (by decide) ?_
    rintro T579 h579 _ X579 e579 ⟨rfl, qe579⟩
    show Go _ _ _ _ _ _ _ (T579.setTop (mkF m 34 #[.val (.ref a1), .val (.int (1 : Int32)), .val (.int (2 : Int32)), .val (.ref a4), .val (.ref a5), .val (.ref a6), .val (.int (1 : Int32))] [(.int (x1.toInt32))]))
    replace e579 := e579.trans qe579
    refine go_aloadN K X579 d9_34 rfl rfl rfl ?_
    refine go_iloadN K X579 d9_35 rfl rfl ?_
    refine go_laload K X579 e579 H3 (i := 1) rfl rfl d9_36 rfl ?_
    refine go_l2i K X579 d9_37 rfl ?_
    refine go_icmpF K X579 d9_38 rfl (rfl : (x1.toInt32) = (x1.toInt32)) ?_
    refine go_iconst K X579 (1 : Int32) d9_41 rfl rfl ?_
    refine go_goto K X579 d9_42 (by decide) rfl ?_
    refine go_istore K X579 #[.val (.ref a1), .val (.int (1 : Int32)), .val (.int (2 : Int32)), .val (.ref a4), .val (.ref a5), .val (.ref a6), .val (.int (1 : Int32))] d9_46 rfl rfl ?_
    refine go_iloadN K X579 d9_48 rfl rfl ?_
    refine go_iloadN K X579 d9_49 rfl rfl ?_
    refine go_iconst K X579 (1 : Int32) d9_50 rfl rfl ?_
    refine go_isub K X579 d9_51 rfl ?_
    rw [show ((2 : Int32) - (1 : Int32)) = (1 : Int32) from by decide]
    refine go_icmpT K X579 d9_52 (by decide) rfl (by decide : (1 : Int32) = (1 : Int32)) ?_
    refine go_iload K X579 d9_64 rfl rfl ?_
    refine go_ifF K X579 d9_66 rfl (by decide : ¬ (1 : Int32) = (0 : Int32)) ?_
    refine go_aloadN K X579 d9_69 rfl rfl rfl ?_
    refine go_aload K X579 d9_70 rfl rfl rfl ?_
    refine go_iloadN K X579 d9_72 rfl rfl ?_
    refine go_iaload K X579 e579 H4 (i := 1) rfl rfl d9_73 rfl ?_
    obtain ⟨j2, k2, l2⟩ := H7
    refine go_virt K X579 (a := a1) (argsL := [(.int r1)]) (stk := []) (wd hw 62 rfl) (wd hw 63 rfl) (wd hw 65 rfl) (wd hw 65 rfl) (wd hw 64 rfl) (wd hw 66 rfl) (wd hw 14 rfl) (by decide) (lenOf pd_3 rfl) e579 H0 (rmEnd hw a1 r1 b vs j2 ((x1 + (1 : Int64)).toInt32) h0 H1 H2 k2 l2) rfl rfl d9_74 rfl (by decide) (W := 0) (Nat.le_of_eq rfl) (by decide) (cells' := 0) (slots' := 0) rfl rfl (by decide) (by decide) ?_
    rintro T580 h580 _ X580 e580 ⟨rfl, qe580⟩
    show Go _ _ _ _ _ _ _ (T580.setTop (mkF m 77 #[.val (.ref a1), .val (.int (1 : Int32)), .val (.int (2 : Int32)), .val (.ref a4), .val (.ref a5), .val (.ref a6), .val (.int (1 : Int32))] [(.int ((x1 + (1 : Int64)).toInt32))]))
    replace e580 := e580.trans qe580
    refine go_aloadN K X580 d9_77 rfl rfl rfl ?_
    refine go_iloadN K X580 d9_78 rfl rfl ?_
    refine go_laload K X580 e580 H3 (i := 1) rfl rfl d9_79 rfl ?_
    refine go_lconst K X580 (1 : Int64) d9_80 rfl rfl ?_
    refine go_ladd K X580 d9_81 rfl ?_
    refine go_l2i K X580 d9_82 rfl ?_
    refine go_icmpF K X580 d9_83 rfl (rfl : ((x1 + (1 : Int64)).toInt32) = ((x1 + (1 : Int64)).toInt32)) ?_
    refine go_iconst K X580 (1 : Int32) d9_86 rfl rfl ?_
    refine go_goto K X580 d9_87 (by decide) rfl ?_
    refine go_istore K X580 #[.val (.ref a1), .val (.int (1 : Int32)), .val (.int (2 : Int32)), .val (.ref a4), .val (.ref a5), .val (.ref a6), .val (.int (1 : Int32))] d9_91 rfl rfl ?_
    refine go_iload K X580 d9_93 rfl rfl ?_
    refine go_retZ K X580 (Or.inr rfl) d9_95 (by decide) (by decide) ?_
    rw [e580]
    exact ⟨rfl, rfl⟩
theorem ef_rmChk2_2 (m : MethodId) (a1 : Addr) (a4 : Addr) (a5 : Addr) (a6 : Addr) : entryFrame m #[(.ref a1), (.int (2 : Int32)), (.int (2 : Int32)), (.ref a4), (.ref a5), (.ref a6)] 7 = mkF m 0 #[.val (.ref a1), .val (.int (2 : Int32)), .val (.int (2 : Int32)), .val (.ref a4), .val (.ref a5), .val (.ref a6), .unset] [] := by first | (simp [entryFrame, mkF, argsToLocals, Value.category]; done) | rfl
def Q_rmChk2_2 (Z : State) (n0 : Nat) (a1 : Addr) (a4 : Addr) (a5 : Addr) (a6 : Addr) (x0 : Int64) (x1 : Int64) (x2 : Int64) (x3 : Int64) (r1 : Int32) (r2 : Int32) (r3 : Int32) (t1 : Int32) (t2 : Int32) (t3 : Int32) (b : Addr) (vs : List Value) (h0 : Heap) (v : Option Value) (h : Heap) : Prop := v = some (.int (1 : Int32)) ∧ h = h0
abbrev R_rmChk2_2 : Room := { frames := 0, cells := 0, slots := 0, locals := 0 }
set_option maxRecDepth 65536 in
set_option maxHeartbeats 40000000 in
theorem rmChk2_2 {l : Launch} {Z : State} {n0 : Nat} {a0 : Array Value} (hw : ∀ d ∈ tables_1, d.before a0 Z = true) (a1 : Addr) (a4 : Addr) (a5 : Addr) (a6 : Addr) (x0 : Int64) (x1 : Int64) (x2 : Int64) (x3 : Int64) (r1 : Int32) (r2 : Int32) (r3 : Int32) (t1 : Int32) (t2 : Int32) (t3 : Int32) (b : Addr) (vs : List Value) (h0 : Heap) (H0 : Exa Z h0 a1 "com/example/divided_duty/dividedduty/policy/Ranges") (H1 : Fld Z h0 a1 "com/example/divided_duty/dividedduty/policy/Ranges" "bounds" "[I" (.ref b)) (H2 : AV Z h0 b .int vs) (H3 : AV Z h0 a4 .long [(.long x0), (.long x1), (.long x2), (.long x3)]) (H4 : AV Z h0 a5 .int [(.int (0 : Int32)), (.int r1), (.int r2), (.int r3)]) (H5 : AV Z h0 a6 .boolean [(.int (0 : Int32)), (.int t1), (.int t2), (.int t3)]) :
    Con l Z n0 (⟨"com/example/divided_duty/dividedduty/policy/RangesOfSortedPinLaw", "check", "(Lcom/example/divided_duty/dividedduty/policy/Ranges;II[J[I[Z)Z"⟩ : MethodName) method_4_code 7 (some .boolean) R_rmChk2_2 #[(.ref a1), (.int (2 : Int32)), (.int (2 : Int32)), (.ref a4), (.ref a5), (.ref a6)] h0 (Q_rmChk2_2 Z n0 a1 a4 a5 a6 x0 x1 x2 x3 r1 r2 r3 t1 t2 t3 b vs h0) := by
  refine con_of (plainFor_of_name pn_com_example_divided_duty_dividedduty_policy_RangesOfSortedPinLaw) ?_
  intro p e s m below meth c T0 K X0 e0
  replace K : Ctx p s m meth c Z "com/example/divided_duty/dividedduty/policy/RangesOfSortedPinLaw" "check" method_4_code 7 (some .boolean) := K
  refine go_entry (ef_rmChk2_2 m a1 a4 a5 a6) ?_
  refine go_iloadN K X0 d9_0 rfl rfl ?_
  refine go_iloadN K X0 d9_1 rfl rfl ?_
  refine go_icmpF K X0 d9_2 rfl (by decide : ¬ (2 : Int32) < (2 : Int32)) ?_
  refine go_iconst K X0 (1 : Int32) d9_5 rfl rfl ?_
  refine go_retZ K X0 (Or.inr rfl) d9_6 (by decide) (by decide) ?_
  rw [e0]
  exact ⟨rfl, rfl⟩
theorem ef_rmChk2_3 (m : MethodId) (a1 : Addr) (a4 : Addr) (a5 : Addr) (a6 : Addr) : entryFrame m #[(.ref a1), (.int (3 : Int32)), (.int (2 : Int32)), (.ref a4), (.ref a5), (.ref a6)] 7 = mkF m 0 #[.val (.ref a1), .val (.int (3 : Int32)), .val (.int (2 : Int32)), .val (.ref a4), .val (.ref a5), .val (.ref a6), .unset] [] := by first | (simp [entryFrame, mkF, argsToLocals, Value.category]; done) | rfl
def Q_rmChk2_3 (Z : State) (n0 : Nat) (a1 : Addr) (a4 : Addr) (a5 : Addr) (a6 : Addr) (x0 : Int64) (x1 : Int64) (x2 : Int64) (x3 : Int64) (r1 : Int32) (r2 : Int32) (r3 : Int32) (t1 : Int32) (t2 : Int32) (t3 : Int32) (b : Addr) (vs : List Value) (h0 : Heap) (v : Option Value) (h : Heap) : Prop := v = some (.int (1 : Int32)) ∧ h = h0
abbrev R_rmChk2_3 : Room := { frames := 0, cells := 0, slots := 0, locals := 0 }
set_option maxRecDepth 65536 in
set_option maxHeartbeats 40000000 in
theorem rmChk2_3 {l : Launch} {Z : State} {n0 : Nat} {a0 : Array Value} (hw : ∀ d ∈ tables_1, d.before a0 Z = true) (a1 : Addr) (a4 : Addr) (a5 : Addr) (a6 : Addr) (x0 : Int64) (x1 : Int64) (x2 : Int64) (x3 : Int64) (r1 : Int32) (r2 : Int32) (r3 : Int32) (t1 : Int32) (t2 : Int32) (t3 : Int32) (b : Addr) (vs : List Value) (h0 : Heap) (H0 : Exa Z h0 a1 "com/example/divided_duty/dividedduty/policy/Ranges") (H1 : Fld Z h0 a1 "com/example/divided_duty/dividedduty/policy/Ranges" "bounds" "[I" (.ref b)) (H2 : AV Z h0 b .int vs) (H3 : AV Z h0 a4 .long [(.long x0), (.long x1), (.long x2), (.long x3)]) (H4 : AV Z h0 a5 .int [(.int (0 : Int32)), (.int r1), (.int r2), (.int r3)]) (H5 : AV Z h0 a6 .boolean [(.int (0 : Int32)), (.int t1), (.int t2), (.int t3)]) :
    Con l Z n0 (⟨"com/example/divided_duty/dividedduty/policy/RangesOfSortedPinLaw", "check", "(Lcom/example/divided_duty/dividedduty/policy/Ranges;II[J[I[Z)Z"⟩ : MethodName) method_4_code 7 (some .boolean) R_rmChk2_3 #[(.ref a1), (.int (3 : Int32)), (.int (2 : Int32)), (.ref a4), (.ref a5), (.ref a6)] h0 (Q_rmChk2_3 Z n0 a1 a4 a5 a6 x0 x1 x2 x3 r1 r2 r3 t1 t2 t3 b vs h0) := by
  refine con_of (plainFor_of_name pn_com_example_divided_duty_dividedduty_policy_RangesOfSortedPinLaw) ?_
  intro p e s m below meth c T0 K X0 e0
  replace K : Ctx p s m meth c Z "com/example/divided_duty/dividedduty/policy/RangesOfSortedPinLaw" "check" method_4_code 7 (some .boolean) := K
  refine go_entry (ef_rmChk2_3 m a1 a4 a5 a6) ?_
  refine go_iloadN K X0 d9_0 rfl rfl ?_
  refine go_iloadN K X0 d9_1 rfl rfl ?_
  refine go_icmpF K X0 d9_2 rfl (by decide : ¬ (3 : Int32) < (2 : Int32)) ?_
  refine go_iconst K X0 (1 : Int32) d9_5 rfl rfl ?_
  refine go_retZ K X0 (Or.inr rfl) d9_6 (by decide) (by decide) ?_
  rw [e0]
  exact ⟨rfl, rfl⟩
theorem ef_rmChk3_0 (m : MethodId) (a1 : Addr) (a4 : Addr) (a5 : Addr) (a6 : Addr) : entryFrame m #[(.ref a1), (.int (0 : Int32)), (.int (3 : Int32)), (.ref a4), (.ref a5), (.ref a6)] 7 = mkF m 0 #[.val (.ref a1), .val (.int (0 : Int32)), .val (.int (3 : Int32)), .val (.ref a4), .val (.ref a5), .val (.ref a6), .unset] [] := by first | (simp [entryFrame, mkF, argsToLocals, Value.category]; done) | rfl
def Q_rmChk3_0 (Z : State) (n0 : Nat) (a1 : Addr) (a4 : Addr) (a5 : Addr) (a6 : Addr) (x0 : Int64) (x1 : Int64) (x2 : Int64) (x3 : Int64) (r1 : Int32) (r2 : Int32) (r3 : Int32) (t1 : Int32) (t2 : Int32) (t3 : Int32) (b : Addr) (vs : List Value) (h0 : Heap) (v : Option Value) (h : Heap) : Prop := v = some (.int (1 : Int32)) ∧ h = h0
abbrev R_rmChk3_0 : Room := { frames := 1, cells := 0, slots := 0, locals := 13 }
set_option maxRecDepth 65536 in
set_option maxHeartbeats 40000000 in
theorem rmChk3_0 {l : Launch} {Z : State} {n0 : Nat} {a0 : Array Value} (hw : ∀ d ∈ tables_1, d.before a0 Z = true) (a1 : Addr) (a4 : Addr) (a5 : Addr) (a6 : Addr) (x0 : Int64) (x1 : Int64) (x2 : Int64) (x3 : Int64) (r1 : Int32) (r2 : Int32) (r3 : Int32) (t1 : Int32) (t2 : Int32) (t3 : Int32) (b : Addr) (vs : List Value) (h0 : Heap) (H0 : Exa Z h0 a1 "com/example/divided_duty/dividedduty/policy/Ranges") (H1 : Fld Z h0 a1 "com/example/divided_duty/dividedduty/policy/Ranges" "bounds" "[I" (.ref b)) (H2 : AV Z h0 b .int vs) (H3 : AV Z h0 a4 .long [(.long x0), (.long x1), (.long x2), (.long x3)]) (H4 : AV Z h0 a5 .int [(.int (0 : Int32)), (.int r1), (.int r2), (.int r3)]) (H5 : AV Z h0 a6 .boolean [(.int (0 : Int32)), (.int t1), (.int t2), (.int t3)]) (H6 : ∃ j : Nat, ((2 : Int32) * (0 : Int32)).toInt = (j : Int) ∧ vs[j]? = some (.int (x0.toInt32))) (H7 : t1 = 0 → ∃ j : Nat, (((2 : Int32) * (0 : Int32)) + (1 : Int32)).toInt = (j : Int) ∧ vs[j]? = some (.int ((x0 + (1 : Int64)).toInt32))) :
    Con l Z n0 (⟨"com/example/divided_duty/dividedduty/policy/RangesOfSortedPinLaw", "check", "(Lcom/example/divided_duty/dividedduty/policy/Ranges;II[J[I[Z)Z"⟩ : MethodName) method_4_code 7 (some .boolean) R_rmChk3_0 #[(.ref a1), (.int (0 : Int32)), (.int (3 : Int32)), (.ref a4), (.ref a5), (.ref a6)] h0 (Q_rmChk3_0 Z n0 a1 a4 a5 a6 x0 x1 x2 x3 r1 r2 r3 t1 t2 t3 b vs h0) := by
  refine con_of (plainFor_of_name pn_com_example_divided_duty_dividedduty_policy_RangesOfSortedPinLaw) ?_
  intro p e s m below meth c T0 K X0 e0
  replace K : Ctx p s m meth c Z "com/example/divided_duty/dividedduty/policy/RangesOfSortedPinLaw" "check" method_4_code 7 (some .boolean) := K
  refine go_entry (ef_rmChk3_0 m a1 a4 a5 a6) ?_
  refine go_iloadN K X0 d9_0 rfl rfl ?_
  refine go_iloadN K X0 d9_1 rfl rfl ?_
  refine go_icmpT K X0 d9_2 (by decide) rfl (by decide : (0 : Int32) < (3 : Int32)) ?_
  refine go_iconst K X0 (1 : Int32) d9_7 rfl rfl ?_
  refine go_istore K X0 #[.val (.ref a1), .val (.int (0 : Int32)), .val (.int (3 : Int32)), .val (.ref a4), .val (.ref a5), .val (.ref a6), .val (.int (1 : Int32))] d9_8 rfl rfl ?_
  refine go_iloadN K X0 d9_10 rfl rfl ?_
  refine go_ifT K X0 d9_11 (by decide) rfl (by decide : (0 : Int32) = (0 : Int32)) ?_
  refine go_iload K X0 d9_21 rfl rfl ?_
  refine go_ifF K X0 d9_23 rfl (by decide : ¬ (1 : Int32) = (0 : Int32)) ?_
  refine go_aloadN K X0 d9_26 rfl rfl rfl ?_
  refine go_aload K X0 d9_27 rfl rfl rfl ?_
  refine go_iloadN K X0 d9_29 rfl rfl ?_
  refine go_iaload K X0 e0 H4 (i := 0) rfl rfl d9_30 rfl ?_
  obtain ⟨j1, k1, l1⟩ := H6
  refine go_virt K X0 (a := a1) (argsL := [(.int (0 : Int32))]) (stk := []) (wd hw 57 rfl) (wd hw 58 rfl) (wd hw 60 rfl) (wd hw 60 rfl) (wd hw 59 rfl) (wd hw 61 rfl) (wd hw 14 rfl) (by decide) (lenOf pd_3 rfl) e0 H0 (rmFirst hw a1 (0 : Int32) b vs j1 (x0.toInt32) h0 H1 H2 k1 l1) rfl rfl d9_31 rfl (by decide) (W := 0) (Nat.le_of_eq rfl) (by decide) (cells' := 0) (slots' := 0) rfl rfl (by decide) (by decide) ?_
  rintro T581 h581 _ X581 e581 ⟨rfl, qe581⟩
  show Go _ _ _ _ _ _ _ (T581.setTop (mkF m 34 #[.val (.ref a1), .val (.int (0 : Int32)), .val (.int (3 : Int32)), .val (.ref a4), .val (.ref a5), .val (.ref a6), .val (.int (1 : Int32))] [(.int (x0.toInt32))]))
  replace e581 := e581.trans qe581
  refine go_aloadN K X581 d9_34 rfl rfl rfl ?_
  refine go_iloadN K X581 d9_35 rfl rfl ?_
  refine go_laload K X581 e581 H3 (i := 0) rfl rfl d9_36 rfl ?_
  refine go_l2i K X581 d9_37 rfl ?_
  refine go_icmpF K X581 d9_38 rfl (rfl : (x0.toInt32) = (x0.toInt32)) ?_
  refine go_iconst K X581 (1 : Int32) d9_41 rfl rfl ?_
  refine go_goto K X581 d9_42 (by decide) rfl ?_
  refine go_istore K X581 #[.val (.ref a1), .val (.int (0 : Int32)), .val (.int (3 : Int32)), .val (.ref a4), .val (.ref a5), .val (.ref a6), .val (.int (1 : Int32))] d9_46 rfl rfl ?_
  refine go_iloadN K X581 d9_48 rfl rfl ?_
  refine go_iloadN K X581 d9_49 rfl rfl ?_
  refine go_iconst K X581 (1 : Int32) d9_50 rfl rfl ?_
  refine go_isub K X581 d9_51 rfl ?_
  rw [show ((3 : Int32) - (1 : Int32)) = (2 : Int32) from by decide]
  refine go_icmpF K X581 d9_52 rfl (by decide : ¬ (0 : Int32) = (2 : Int32)) ?_
  refine go_aload K X581 d9_55 rfl rfl rfl ?_
  refine go_iloadN K X581 d9_57 rfl rfl ?_
  refine go_iconst K X581 (1 : Int32) d9_58 rfl rfl ?_
  refine go_iadd K X581 d9_59 rfl ?_
  rw [show ((0 : Int32) + (1 : Int32)) = (1 : Int32) from by decide]
  refine go_baloadZ K X581 e581 H5 (i := 1) rfl rfl d9_60 rfl ?_
  refine go_if K X581 d9_61 (by decide) rfl rfl ?_ ?_
  · intro (hc582 : ¬ t1 = (0 : Int32))
    refine go_iload K X581 d9_93 rfl rfl ?_
    refine go_retZ K X581 (Or.inr rfl) d9_95 (by decide) (by decide) ?_
    rw [e581]
    exact ⟨rfl, rfl⟩
  · intro (hc582 : t1 = (0 : Int32))
    refine go_iload K X581 d9_64 rfl rfl ?_
    refine go_ifF K X581 d9_66 rfl (by decide : ¬ (1 : Int32) = (0 : Int32)) ?_
    refine go_aloadN K X581 d9_69 rfl rfl rfl ?_
    refine go_aload K X581 d9_70 rfl rfl rfl ?_
    refine go_iloadN K X581 d9_72 rfl rfl ?_
    refine go_iaload K X581 e581 H4 (i := 0) rfl rfl d9_73 rfl ?_
    obtain ⟨j2, k2, l2⟩ := H7 (by simpa using hc582)
    refine go_virt K X581 (a := a1) (argsL := [(.int (0 : Int32))]) (stk := []) (wd hw 62 rfl) (wd hw 63 rfl) (wd hw 65 rfl) (wd hw 65 rfl) (wd hw 64 rfl) (wd hw 66 rfl) (wd hw 14 rfl) (by decide) (lenOf pd_3 rfl) e581 H0 (rmEnd hw a1 (0 : Int32) b vs j2 ((x0 + (1 : Int64)).toInt32) h0 H1 H2 k2 l2) rfl rfl d9_74 rfl (by decide) (W := 0) (Nat.le_of_eq rfl) (by decide) (cells' := 0) (slots' := 0) rfl rfl (by decide) (by decide) ?_
    rintro T583 h583 _ X583 e583 ⟨rfl, qe583⟩
    show Go _ _ _ _ _ _ _ (T583.setTop (mkF m 77 #[.val (.ref a1), .val (.int (0 : Int32)), .val (.int (3 : Int32)), .val (.ref a4), .val (.ref a5), .val (.ref a6), .val (.int (1 : Int32))] [(.int ((x0 + (1 : Int64)).toInt32))]))
    replace e583 := e583.trans qe583
    refine go_aloadN K X583 d9_77 rfl rfl rfl ?_
    refine go_iloadN K X583 d9_78 rfl rfl ?_
    refine go_laload K X583 e583 H3 (i := 0) rfl rfl d9_79 rfl ?_
    refine go_lconst K X583 (1 : Int64) d9_80 rfl rfl ?_
    refine go_ladd K X583 d9_81 rfl ?_
    refine go_l2i K X583 d9_82 rfl ?_
    refine go_icmpF K X583 d9_83 rfl (rfl : ((x0 + (1 : Int64)).toInt32) = ((x0 + (1 : Int64)).toInt32)) ?_
    refine go_iconst K X583 (1 : Int32) d9_86 rfl rfl ?_
    refine go_goto K X583 d9_87 (by decide) rfl ?_
    refine go_istore K X583 #[.val (.ref a1), .val (.int (0 : Int32)), .val (.int (3 : Int32)), .val (.ref a4), .val (.ref a5), .val (.ref a6), .val (.int (1 : Int32))] d9_91 rfl rfl ?_
    refine go_iload K X583 d9_93 rfl rfl ?_
    refine go_retZ K X583 (Or.inr rfl) d9_95 (by decide) (by decide) ?_
    rw [e583]
    exact ⟨rfl, rfl⟩
theorem ef_rmChk3_1 (m : MethodId) (a1 : Addr) (a4 : Addr) (a5 : Addr) (a6 : Addr) : entryFrame m #[(.ref a1), (.int (1 : Int32)), (.int (3 : Int32)), (.ref a4), (.ref a5), (.ref a6)] 7 = mkF m 0 #[.val (.ref a1), .val (.int (1 : Int32)), .val (.int (3 : Int32)), .val (.ref a4), .val (.ref a5), .val (.ref a6), .unset] [] := by first | (simp [entryFrame, mkF, argsToLocals, Value.category]; done) | rfl
def Q_rmChk3_1 (Z : State) (n0 : Nat) (a1 : Addr) (a4 : Addr) (a5 : Addr) (a6 : Addr) (x0 : Int64) (x1 : Int64) (x2 : Int64) (x3 : Int64) (r1 : Int32) (r2 : Int32) (r3 : Int32) (t1 : Int32) (t2 : Int32) (t3 : Int32) (b : Addr) (vs : List Value) (h0 : Heap) (v : Option Value) (h : Heap) : Prop := v = some (.int (1 : Int32)) ∧ h = h0
abbrev R_rmChk3_1 : Room := { frames := 1, cells := 0, slots := 0, locals := 13 }
set_option maxRecDepth 65536 in
set_option maxHeartbeats 40000000 in
theorem rmChk3_1 {l : Launch} {Z : State} {n0 : Nat} {a0 : Array Value} (hw : ∀ d ∈ tables_1, d.before a0 Z = true) (a1 : Addr) (a4 : Addr) (a5 : Addr) (a6 : Addr) (x0 : Int64) (x1 : Int64) (x2 : Int64) (x3 : Int64) (r1 : Int32) (r2 : Int32) (r3 : Int32) (t1 : Int32) (t2 : Int32) (t3 : Int32) (b : Addr) (vs : List Value) (h0 : Heap) (H0 : Exa Z h0 a1 "com/example/divided_duty/dividedduty/policy/Ranges") (H1 : Fld Z h0 a1 "com/example/divided_duty/dividedduty/policy/Ranges" "bounds" "[I" (.ref b)) (H2 : AV Z h0 b .int vs) (H3 : AV Z h0 a4 .long [(.long x0), (.long x1), (.long x2), (.long x3)]) (H4 : AV Z h0 a5 .int [(.int (0 : Int32)), (.int r1), (.int r2), (.int r3)]) (H5 : AV Z h0 a6 .boolean [(.int (0 : Int32)), (.int t1), (.int t2), (.int t3)]) (H6 : t1 = 0 → ∃ j : Nat, ((2 : Int32) * r1).toInt = (j : Int) ∧ vs[j]? = some (.int (x1.toInt32))) (H7 : t2 = 0 → ∃ j : Nat, (((2 : Int32) * r1) + (1 : Int32)).toInt = (j : Int) ∧ vs[j]? = some (.int ((x1 + (1 : Int64)).toInt32))) :
    Con l Z n0 (⟨"com/example/divided_duty/dividedduty/policy/RangesOfSortedPinLaw", "check", "(Lcom/example/divided_duty/dividedduty/policy/Ranges;II[J[I[Z)Z"⟩ : MethodName) method_4_code 7 (some .boolean) R_rmChk3_1 #[(.ref a1), (.int (1 : Int32)), (.int (3 : Int32)), (.ref a4), (.ref a5), (.ref a6)] h0 (Q_rmChk3_1 Z n0 a1 a4 a5 a6 x0 x1 x2 x3 r1 r2 r3 t1 t2 t3 b vs h0) := by
  refine con_of (plainFor_of_name pn_com_example_divided_duty_dividedduty_policy_RangesOfSortedPinLaw) ?_
  intro p e s m below meth c T0 K X0 e0
  replace K : Ctx p s m meth c Z "com/example/divided_duty/dividedduty/policy/RangesOfSortedPinLaw" "check" method_4_code 7 (some .boolean) := K
  refine go_entry (ef_rmChk3_1 m a1 a4 a5 a6) ?_
  refine go_iloadN K X0 d9_0 rfl rfl ?_
  refine go_iloadN K X0 d9_1 rfl rfl ?_
  refine go_icmpT K X0 d9_2 (by decide) rfl (by decide : (1 : Int32) < (3 : Int32)) ?_
  refine go_iconst K X0 (1 : Int32) d9_7 rfl rfl ?_
  refine go_istore K X0 #[.val (.ref a1), .val (.int (1 : Int32)), .val (.int (3 : Int32)), .val (.ref a4), .val (.ref a5), .val (.ref a6), .val (.int (1 : Int32))] d9_8 rfl rfl ?_
  refine go_iloadN K X0 d9_10 rfl rfl ?_
  refine go_ifF K X0 d9_11 rfl (by decide : ¬ (1 : Int32) = (0 : Int32)) ?_
  refine go_aload K X0 d9_14 rfl rfl rfl ?_
  refine go_iloadN K X0 d9_16 rfl rfl ?_
  refine go_baloadZ K X0 e0 H5 (i := 1) rfl rfl d9_17 rfl ?_
  refine go_if K X0 d9_18 (by decide) rfl rfl ?_ ?_
  · intro (hc584 : ¬ t1 = (0 : Int32))
    refine go_iloadN K X0 d9_48 rfl rfl ?_
    refine go_iloadN K X0 d9_49 rfl rfl ?_
    refine go_iconst K X0 (1 : Int32) d9_50 rfl rfl ?_
    refine go_isub K X0 d9_51 rfl ?_
    rw [show ((3 : Int32) - (1 : Int32)) = (2 : Int32) from by decide]
    refine go_icmpF K X0 d9_52 rfl (by decide : ¬ (1 : Int32) = (2 : Int32)) ?_
    refine go_aload K X0 d9_55 rfl rfl rfl ?_
    refine go_iloadN K X0 d9_57 rfl rfl ?_
    refine go_iconst K X0 (1 : Int32) d9_58 rfl rfl ?_
    refine go_iadd K X0 d9_59 rfl ?_
    rw [show ((1 : Int32) + (1 : Int32)) = (2 : Int32) from by decide]
    refine go_baloadZ K X0 e0 H5 (i := 2) rfl rfl d9_60 rfl ?_
    refine go_if K X0 d9_61 (by decide) rfl rfl ?_ ?_
    · intro (hc585 : ¬ t2 = (0 : Int32))
      refine go_iload K X0 d9_93 rfl rfl ?_
      refine go_retZ K X0 (Or.inr rfl) d9_95 (by decide) (by decide) ?_
      rw [e0]
      exact ⟨rfl, rfl⟩
    · intro (hc585 : t2 = (0 : Int32))
      refine go_iload K X0 d9_64 rfl rfl ?_
      refine go_ifF K X0 d9_66 rfl (by decide : ¬ (1 : Int32) = (0 : Int32)) ?_
      refine go_aloadN K X0 d9_69 rfl rfl rfl ?_
      refine go_aload K X0 d9_70 rfl rfl rfl ?_
      refine go_iloadN K X0 d9_72 rfl rfl ?_
      refine go_iaload K X0 e0 H4 (i := 1) rfl rfl d9_73 rfl ?_
      obtain ⟨j2, k2, l2⟩ := H7 (by simpa using hc585)
      refine go_virt K X0 (a := a1) (argsL := [(.int r1)]) (stk := []) (wd hw 62 rfl) (wd hw 63 rfl) (wd hw 65 rfl) (wd hw 65 rfl) (wd hw 64 rfl) (wd hw 66 rfl) (wd hw 14 rfl) (by decide) (lenOf pd_3 rfl) e0 H0 (rmEnd hw a1 r1 b vs j2 ((x1 + (1 : Int64)).toInt32) h0 H1 H2 k2 l2) rfl rfl d9_74 rfl (by decide) (W := 0) (Nat.le_of_eq rfl) (by decide) (cells' := 0) (slots' := 0) rfl rfl (by decide) (by decide) ?_
      rintro T586 h586 _ X586 e586 ⟨rfl, qe586⟩
      show Go _ _ _ _ _ _ _ (T586.setTop (mkF m 77 #[.val (.ref a1), .val (.int (1 : Int32)), .val (.int (3 : Int32)), .val (.ref a4), .val (.ref a5), .val (.ref a6), .val (.int (1 : Int32))] [(.int ((x1 + (1 : Int64)).toInt32))]))
      replace e586 := e586.trans qe586
      refine go_aloadN K X586 d9_77 rfl rfl rfl ?_
      refine go_iloadN K X586 d9_78 rfl rfl ?_
      refine go_laload K X586 e586 H3 (i := 1) rfl rfl d9_79 rfl ?_
      refine go_lconst K X586 (1 : Int64) d9_80 rfl rfl ?_
      refine go_ladd K X586 d9_81 rfl ?_
      refine go_l2i K X586 d9_82 rfl ?_
      refine go_icmpF K X586 d9_83 rfl (rfl : ((x1 + (1 : Int64)).toInt32) = ((x1 + (1 : Int64)).toInt32)) ?_
      refine go_iconst K X586 (1 : Int32) d9_86 rfl rfl ?_
      refine go_goto K X586 d9_87 (by decide) rfl ?_
      refine go_istore K X586 #[.val (.ref a1), .val (.int (1 : Int32)), .val (.int (3 : Int32)), .val (.ref a4), .val (.ref a5), .val (.ref a6), .val (.int (1 : Int32))] d9_91 rfl rfl ?_
      refine go_iload K X586 d9_93 rfl rfl ?_
      refine go_retZ K X586 (Or.inr rfl) d9_95 (by decide) (by decide) ?_
      rw [e586]
      exact ⟨rfl, rfl⟩
  · intro (hc584 : t1 = (0 : Int32))
    refine go_iload K X0 d9_21 rfl rfl ?_
    refine go_ifF K X0 d9_23 rfl (by decide : ¬ (1 : Int32) = (0 : Int32)) ?_
    refine go_aloadN K X0 d9_26 rfl rfl rfl ?_
    refine go_aload K X0 d9_27 rfl rfl rfl ?_
    refine go_iloadN K X0 d9_29 rfl rfl ?_
    refine go_iaload K X0 e0 H4 (i := 1) rfl rfl d9_30 rfl ?_
    obtain ⟨j1, k1, l1⟩ := H6 (by simpa using hc584)
    refine go_virt K X0 (a := a1) (argsL := [(.int r1)]) (stk := []) (wd hw 57 rfl) (wd hw 58 rfl) (wd hw 60 rfl) (wd hw 60 rfl) (wd hw 59 rfl) (wd hw 61 rfl) (wd hw 14 rfl) (by decide) (lenOf pd_3 rfl) e0 H0 (rmFirst hw a1 r1 b vs j1 (x1.toInt32) h0 H1 H2 k1 l1) rfl rfl d9_31 rfl (by decide) (W := 0) (Nat.le_of_eq rfl) (by decide) (cells' := 0) (slots' := 0) rfl rfl (by decide) (by decide) ?_
    rintro T587 h587 _ X587 e587 ⟨rfl, qe587⟩
    show Go _ _ _ _ _ _ _ (T587.setTop (mkF m 34 #[.val (.ref a1), .val (.int (1 : Int32)), .val (.int (3 : Int32)), .val (.ref a4), .val (.ref a5), .val (.ref a6), .val (.int (1 : Int32))] [(.int (x1.toInt32))]))
    replace e587 := e587.trans qe587
    refine go_aloadN K X587 d9_34 rfl rfl rfl ?_
    refine go_iloadN K X587 d9_35 rfl rfl ?_
    refine go_laload K X587 e587 H3 (i := 1) rfl rfl d9_36 rfl ?_
    refine go_l2i K X587 d9_37 rfl ?_
    refine go_icmpF K X587 d9_38 rfl (rfl : (x1.toInt32) = (x1.toInt32)) ?_
    refine go_iconst K X587 (1 : Int32) d9_41 rfl rfl ?_
    refine go_goto K X587 d9_42 (by decide) rfl ?_
    refine go_istore K X587 #[.val (.ref a1), .val (.int (1 : Int32)), .val (.int (3 : Int32)), .val (.ref a4), .val (.ref a5), .val (.ref a6), .val (.int (1 : Int32))] d9_46 rfl rfl ?_
    refine go_iloadN K X587 d9_48 rfl rfl ?_
    refine go_iloadN K X587 d9_49 rfl rfl ?_
    refine go_iconst K X587 (1 : Int32) d9_50 rfl rfl ?_
    refine go_isub K X587 d9_51 rfl ?_
    rw [show ((3 : Int32) - (1 : Int32)) = (2 : Int32) from by decide]
    refine go_icmpF K X587 d9_52 rfl (by decide : ¬ (1 : Int32) = (2 : Int32)) ?_
    refine go_aload K X587 d9_55 rfl rfl rfl ?_
    refine go_iloadN K X587 d9_57 rfl rfl ?_
    refine go_iconst K X587 (1 : Int32) d9_58 rfl rfl ?_
    refine go_iadd K X587 d9_59 rfl ?_
    rw [show ((1 : Int32) + (1 : Int32)) = (2 : Int32) from by decide]
    refine go_baloadZ K X587 e587 H5 (i := 2) rfl rfl d9_60 rfl ?_
    refine go_if K X587 d9_61 (by decide) rfl rfl ?_ ?_
    · intro (hc588 : ¬ t2 = (0 : Int32))
      refine go_iload K X587 d9_93 rfl rfl ?_
      refine go_retZ K X587 (Or.inr rfl) d9_95 (by decide) (by decide) ?_
      rw [e587]
      exact ⟨rfl, rfl⟩
    · intro (hc588 : t2 = (0 : Int32))
      refine go_iload K X587 d9_64 rfl rfl ?_
      refine go_ifF K X587 d9_66 rfl (by decide : ¬ (1 : Int32) = (0 : Int32)) ?_
      refine go_aloadN K X587 d9_69 rfl rfl rfl ?_
      refine go_aload K X587 d9_70 rfl rfl rfl ?_
      refine go_iloadN K X587 d9_72 rfl rfl ?_
      refine go_iaload K X587 e587 H4 (i := 1) rfl rfl d9_73 rfl ?_
      obtain ⟨j2, k2, l2⟩ := H7 (by simpa using hc588)
      refine go_virt K X587 (a := a1) (argsL := [(.int r1)]) (stk := []) (wd hw 62 rfl) (wd hw 63 rfl) (wd hw 65 rfl) (wd hw 65 rfl) (wd hw 64 rfl) (wd hw 66 rfl) (wd hw 14 rfl) (by decide) (lenOf pd_3 rfl) e587 H0 (rmEnd hw a1 r1 b vs j2 ((x1 + (1 : Int64)).toInt32) h0 H1 H2 k2 l2) rfl rfl d9_74 rfl (by decide) (W := 0) (Nat.le_of_eq rfl) (by decide) (cells' := 0) (slots' := 0) rfl rfl (by decide) (by decide) ?_
      rintro T589 h589 _ X589 e589 ⟨rfl, qe589⟩
      show Go _ _ _ _ _ _ _ (T589.setTop (mkF m 77 #[.val (.ref a1), .val (.int (1 : Int32)), .val (.int (3 : Int32)), .val (.ref a4), .val (.ref a5), .val (.ref a6), .val (.int (1 : Int32))] [(.int ((x1 + (1 : Int64)).toInt32))]))
      replace e589 := e589.trans qe589
      refine go_aloadN K X589 d9_77 rfl rfl rfl ?_
      refine go_iloadN K X589 d9_78 rfl rfl ?_
      refine go_laload K X589 e589 H3 (i := 1) rfl rfl d9_79 rfl ?_
      refine go_lconst K X589 (1 : Int64) d9_80 rfl rfl ?_
      refine go_ladd K X589 d9_81 rfl ?_
      refine go_l2i K X589 d9_82 rfl ?_
      refine go_icmpF K X589 d9_83 rfl (rfl : ((x1 + (1 : Int64)).toInt32) = ((x1 + (1 : Int64)).toInt32)) ?_
      refine go_iconst K X589 (1 : Int32) d9_86 rfl rfl ?_
      refine go_goto K X589 d9_87 (by decide) rfl ?_
      refine go_istore K X589 #[.val (.ref a1), .val (.int (1 : Int32)), .val (.int (3 : Int32)), .val (.ref a4), .val (.ref a5), .val (.ref a6), .val (.int (1 : Int32))] d9_91 rfl rfl ?_
      refine go_iload K X589 d9_93 rfl rfl ?_
      refine go_retZ K X589 (Or.inr rfl) d9_95 (by decide) (by decide) ?_
      rw [e589]
      exact ⟨rfl, rfl⟩
theorem ef_rmChk3_2 (m : MethodId) (a1 : Addr) (a4 : Addr) (a5 : Addr) (a6 : Addr) : entryFrame m #[(.ref a1), (.int (2 : Int32)), (.int (3 : Int32)), (.ref a4), (.ref a5), (.ref a6)] 7 = mkF m 0 #[.val (.ref a1), .val (.int (2 : Int32)), .val (.int (3 : Int32)), .val (.ref a4), .val (.ref a5), .val (.ref a6), .unset] [] := by first | (simp [entryFrame, mkF, argsToLocals, Value.category]; done) | rfl
def Q_rmChk3_2 (Z : State) (n0 : Nat) (a1 : Addr) (a4 : Addr) (a5 : Addr) (a6 : Addr) (x0 : Int64) (x1 : Int64) (x2 : Int64) (x3 : Int64) (r1 : Int32) (r2 : Int32) (r3 : Int32) (t1 : Int32) (t2 : Int32) (t3 : Int32) (b : Addr) (vs : List Value) (h0 : Heap) (v : Option Value) (h : Heap) : Prop := v = some (.int (1 : Int32)) ∧ h = h0
abbrev R_rmChk3_2 : Room := { frames := 1, cells := 0, slots := 0, locals := 13 }
set_option maxRecDepth 65536 in
set_option maxHeartbeats 40000000 in
theorem rmChk3_2 {l : Launch} {Z : State} {n0 : Nat} {a0 : Array Value} (hw : ∀ d ∈ tables_1, d.before a0 Z = true) (a1 : Addr) (a4 : Addr) (a5 : Addr) (a6 : Addr) (x0 : Int64) (x1 : Int64) (x2 : Int64) (x3 : Int64) (r1 : Int32) (r2 : Int32) (r3 : Int32) (t1 : Int32) (t2 : Int32) (t3 : Int32) (b : Addr) (vs : List Value) (h0 : Heap) (H0 : Exa Z h0 a1 "com/example/divided_duty/dividedduty/policy/Ranges") (H1 : Fld Z h0 a1 "com/example/divided_duty/dividedduty/policy/Ranges" "bounds" "[I" (.ref b)) (H2 : AV Z h0 b .int vs) (H3 : AV Z h0 a4 .long [(.long x0), (.long x1), (.long x2), (.long x3)]) (H4 : AV Z h0 a5 .int [(.int (0 : Int32)), (.int r1), (.int r2), (.int r3)]) (H5 : AV Z h0 a6 .boolean [(.int (0 : Int32)), (.int t1), (.int t2), (.int t3)]) (H6 : t2 = 0 → ∃ j : Nat, ((2 : Int32) * r2).toInt = (j : Int) ∧ vs[j]? = some (.int (x2.toInt32))) (H7 : ∃ j : Nat, (((2 : Int32) * r2) + (1 : Int32)).toInt = (j : Int) ∧ vs[j]? = some (.int ((x2 + (1 : Int64)).toInt32))) :
    Con l Z n0 (⟨"com/example/divided_duty/dividedduty/policy/RangesOfSortedPinLaw", "check", "(Lcom/example/divided_duty/dividedduty/policy/Ranges;II[J[I[Z)Z"⟩ : MethodName) method_4_code 7 (some .boolean) R_rmChk3_2 #[(.ref a1), (.int (2 : Int32)), (.int (3 : Int32)), (.ref a4), (.ref a5), (.ref a6)] h0 (Q_rmChk3_2 Z n0 a1 a4 a5 a6 x0 x1 x2 x3 r1 r2 r3 t1 t2 t3 b vs h0) := by
  refine con_of (plainFor_of_name pn_com_example_divided_duty_dividedduty_policy_RangesOfSortedPinLaw) ?_
  intro p e s m below meth c T0 K X0 e0
  replace K : Ctx p s m meth c Z "com/example/divided_duty/dividedduty/policy/RangesOfSortedPinLaw" "check" method_4_code 7 (some .boolean) := K
  refine go_entry (ef_rmChk3_2 m a1 a4 a5 a6) ?_
  refine go_iloadN K X0 d9_0 rfl rfl ?_
  refine go_iloadN K X0 d9_1 rfl rfl ?_
  refine go_icmpT K X0 d9_2 (by decide) rfl (by decide : (2 : Int32) < (3 : Int32)) ?_
  refine go_iconst K X0 (1 : Int32) d9_7 rfl rfl ?_
  refine go_istore K X0 #[.val (.ref a1), .val (.int (2 : Int32)), .val (.int (3 : Int32)), .val (.ref a4), .val (.ref a5), .val (.ref a6), .val (.int (1 : Int32))] d9_8 rfl rfl ?_
  refine go_iloadN K X0 d9_10 rfl rfl ?_
  refine go_ifF K X0 d9_11 rfl (by decide : ¬ (2 : Int32) = (0 : Int32)) ?_
  refine go_aload K X0 d9_14 rfl rfl rfl ?_
  refine go_iloadN K X0 d9_16 rfl rfl ?_
  refine go_baloadZ K X0 e0 H5 (i := 2) rfl rfl d9_17 rfl ?_
  refine go_if K X0 d9_18 (by decide) rfl rfl ?_ ?_
  · intro (hc590 : ¬ t2 = (0 : Int32))
    refine go_iloadN K X0 d9_48 rfl rfl ?_
    refine go_iloadN K X0 d9_49 rfl rfl ?_
    refine go_iconst K X0 (1 : Int32) d9_50 rfl rfl ?_
    refine go_isub K X0 d9_51 rfl ?_
    rw [show ((3 : Int32) - (1 : Int32)) = (2 : Int32) from by decide]
    refine go_icmpT K X0 d9_52 (by decide) rfl (by decide : (2 : Int32) = (2 : Int32)) ?_
    refine go_iload K X0 d9_64 rfl rfl ?_
    refine go_ifF K X0 d9_66 rfl (by decide : ¬ (1 : Int32) = (0 : Int32)) ?_
    refine go_aloadN K X0 d9_69 rfl rfl rfl ?_
    refine go_aload K X0 d9_70 rfl rfl rfl ?_
    refine go_iloadN K X0 d9_72 rfl rfl ?_
    refine go_iaload K X0 e0 H4 (i := 2) rfl rfl d9_73 rfl ?_
    obtain ⟨j2, k2, l2⟩ := H7
    refine go_virt K X0 (a := a1) (argsL := [(.int r2)]) (stk := []) (wd hw 62 rfl) (wd hw 63 rfl) (wd hw 65 rfl) (wd hw 65 rfl) (wd hw 64 rfl) (wd hw 66 rfl) (wd hw 14 rfl) (by decide) (lenOf pd_3 rfl) e0 H0 (rmEnd hw a1 r2 b vs j2 ((x2 + (1 : Int64)).toInt32) h0 H1 H2 k2 l2) rfl rfl d9_74 rfl (by decide) (W := 0) (Nat.le_of_eq rfl) (by decide) (cells' := 0) (slots' := 0) rfl rfl (by decide) (by decide) ?_
    rintro T591 h591 _ X591 e591 ⟨rfl, qe591⟩
    show Go _ _ _ _ _ _ _ (T591.setTop (mkF m 77 #[.val (.ref a1), .val (.int (2 : Int32)), .val (.int (3 : Int32)), .val (.ref a4), .val (.ref a5), .val (.ref a6), .val (.int (1 : Int32))] [(.int ((x2 + (1 : Int64)).toInt32))]))
    replace e591 := e591.trans qe591
    refine go_aloadN K X591 d9_77 rfl rfl rfl ?_
    refine go_iloadN K X591 d9_78 rfl rfl ?_
    refine go_laload K X591 e591 H3 (i := 2) rfl rfl d9_79 rfl ?_
    refine go_lconst K X591 (1 : Int64) d9_80 rfl rfl ?_
    refine go_ladd K X591 d9_81 rfl ?_
    refine go_l2i K X591 d9_82 rfl ?_
    refine go_icmpF K X591 d9_83 rfl (rfl : ((x2 + (1 : Int64)).toInt32) = ((x2 + (1 : Int64)).toInt32)) ?_
    refine go_iconst K X591 (1 : Int32) d9_86 rfl rfl ?_
    refine go_goto K X591 d9_87 (by decide) rfl ?_
    refine go_istore K X591 #[.val (.ref a1), .val (.int (2 : Int32)), .val (.int (3 : Int32)), .val (.ref a4), .val (.ref a5), .val (.ref a6), .val (.int (1 : Int32))] d9_91 rfl rfl ?_
    refine go_iload K X591 d9_93 rfl rfl ?_
    refine go_retZ K X591 (Or.inr rfl) d9_95 (by decide) (by decide) ?_
    rw [e591]
    exact ⟨rfl, rfl⟩
  · intro (hc590 : t2 = (0 : Int32))
    refine go_iload K X0 d9_21 rfl rfl ?_
    refine go_ifF K X0 d9_23 rfl (by decide : ¬ (1 : Int32) = (0 : Int32)) ?_
    refine go_aloadN K X0 d9_26 rfl rfl rfl ?_
    refine go_aload K X0 d9_27 rfl rfl rfl ?_
    refine go_iloadN K X0 d9_29 rfl rfl ?_
    refine go_iaload K X0 e0 H4 (i := 2) rfl rfl d9_30 rfl ?_
    obtain ⟨j1, k1, l1⟩ := H6 (by simpa using hc590)
    refine go_virt K X0 (a := a1) (argsL := [(.int r2)]) (stk := []) (wd hw 57 rfl) (wd hw 58 rfl) (wd hw 60 rfl) (wd hw 60 rfl) (wd hw 59 rfl) (wd hw 61 rfl) (wd hw 14 rfl) (by decide) (lenOf pd_3 rfl) e0 H0 (rmFirst hw a1 r2 b vs j1 (x2.toInt32) h0 H1 H2 k1 l1) rfl rfl d9_31 rfl (by decide) (W := 0) (Nat.le_of_eq rfl) (by decide) (cells' := 0) (slots' := 0) rfl rfl (by decide) (by decide) ?_
    rintro T592 h592 _ X592 e592 ⟨rfl, qe592⟩
    show Go _ _ _ _ _ _ _ (T592.setTop (mkF m 34 #[.val (.ref a1), .val (.int (2 : Int32)), .val (.int (3 : Int32)), .val (.ref a4), .val (.ref a5), .val (.ref a6), .val (.int (1 : Int32))] [(.int (x2.toInt32))]))
    replace e592 := e592.trans qe592
    refine go_aloadN K X592 d9_34 rfl rfl rfl ?_
    refine go_iloadN K X592 d9_35 rfl rfl ?_
    refine go_laload K X592 e592 H3 (i := 2) rfl rfl d9_36 rfl ?_
    refine go_l2i K X592 d9_37 rfl ?_
    refine go_icmpF K X592 d9_38 rfl (rfl : (x2.toInt32) = (x2.toInt32)) ?_
    refine go_iconst K X592 (1 : Int32) d9_41 rfl rfl ?_
    refine go_goto K X592 d9_42 (by decide) rfl ?_
    refine go_istore K X592 #[.val (.ref a1), .val (.int (2 : Int32)), .val (.int (3 : Int32)), .val (.ref a4), .val (.ref a5), .val (.ref a6), .val (.int (1 : Int32))] d9_46 rfl rfl ?_
    refine go_iloadN K X592 d9_48 rfl rfl ?_
    refine go_iloadN K X592 d9_49 rfl rfl ?_
    refine go_iconst K X592 (1 : Int32) d9_50 rfl rfl ?_
    refine go_isub K X592 d9_51 rfl ?_
    rw [show ((3 : Int32) - (1 : Int32)) = (2 : Int32) from by decide]
    refine go_icmpT K X592 d9_52 (by decide) rfl (by decide : (2 : Int32) = (2 : Int32)) ?_
    refine go_iload K X592 d9_64 rfl rfl ?_
    refine go_ifF K X592 d9_66 rfl (by decide : ¬ (1 : Int32) = (0 : Int32)) ?_
    refine go_aloadN K X592 d9_69 rfl rfl rfl ?_
    refine go_aload K X592 d9_70 rfl rfl rfl ?_
    refine go_iloadN K X592 d9_72 rfl rfl ?_
    refine go_iaload K X592 e592 H4 (i := 2) rfl rfl d9_73 rfl ?_
    obtain ⟨j2, k2, l2⟩ := H7
    refine go_virt K X592 (a := a1) (argsL := [(.int r2)]) (stk := []) (wd hw 62 rfl) (wd hw 63 rfl) (wd hw 65 rfl) (wd hw 65 rfl) (wd hw 64 rfl) (wd hw 66 rfl) (wd hw 14 rfl) (by decide) (lenOf pd_3 rfl) e592 H0 (rmEnd hw a1 r2 b vs j2 ((x2 + (1 : Int64)).toInt32) h0 H1 H2 k2 l2) rfl rfl d9_74 rfl (by decide) (W := 0) (Nat.le_of_eq rfl) (by decide) (cells' := 0) (slots' := 0) rfl rfl (by decide) (by decide) ?_
    rintro T593 h593 _ X593 e593 ⟨rfl, qe593⟩
    show Go _ _ _ _ _ _ _ (T593.setTop (mkF m 77 #[.val (.ref a1), .val (.int (2 : Int32)), .val (.int (3 : Int32)), .val (.ref a4), .val (.ref a5), .val (.ref a6), .val (.int (1 : Int32))] [(.int ((x2 + (1 : Int64)).toInt32))]))
    replace e593 := e593.trans qe593
    refine go_aloadN K X593 d9_77 rfl rfl rfl ?_
    refine go_iloadN K X593 d9_78 rfl rfl ?_
    refine go_laload K X593 e593 H3 (i := 2) rfl rfl d9_79 rfl ?_
    refine go_lconst K X593 (1 : Int64) d9_80 rfl rfl ?_
    refine go_ladd K X593 d9_81 rfl ?_
    refine go_l2i K X593 d9_82 rfl ?_
    refine go_icmpF K X593 d9_83 rfl (rfl : ((x2 + (1 : Int64)).toInt32) = ((x2 + (1 : Int64)).toInt32)) ?_
    refine go_iconst K X593 (1 : Int32) d9_86 rfl rfl ?_
    refine go_goto K X593 d9_87 (by decide) rfl ?_
    refine go_istore K X593 #[.val (.ref a1), .val (.int (2 : Int32)), .val (.int (3 : Int32)), .val (.ref a4), .val (.ref a5), .val (.ref a6), .val (.int (1 : Int32))] d9_91 rfl rfl ?_
    refine go_iload K X593 d9_93 rfl rfl ?_
    refine go_retZ K X593 (Or.inr rfl) d9_95 (by decide) (by decide) ?_
    rw [e593]
    exact ⟨rfl, rfl⟩
theorem ef_rmChk3_3 (m : MethodId) (a1 : Addr) (a4 : Addr) (a5 : Addr) (a6 : Addr) : entryFrame m #[(.ref a1), (.int (3 : Int32)), (.int (3 : Int32)), (.ref a4), (.ref a5), (.ref a6)] 7 = mkF m 0 #[.val (.ref a1), .val (.int (3 : Int32)), .val (.int (3 : Int32)), .val (.ref a4), .val (.ref a5), .val (.ref a6), .unset] [] := by first | (simp [entryFrame, mkF, argsToLocals, Value.category]; done) | rfl
def Q_rmChk3_3 (Z : State) (n0 : Nat) (a1 : Addr) (a4 : Addr) (a5 : Addr) (a6 : Addr) (x0 : Int64) (x1 : Int64) (x2 : Int64) (x3 : Int64) (r1 : Int32) (r2 : Int32) (r3 : Int32) (t1 : Int32) (t2 : Int32) (t3 : Int32) (b : Addr) (vs : List Value) (h0 : Heap) (v : Option Value) (h : Heap) : Prop := v = some (.int (1 : Int32)) ∧ h = h0
abbrev R_rmChk3_3 : Room := { frames := 0, cells := 0, slots := 0, locals := 0 }
set_option maxRecDepth 65536 in
set_option maxHeartbeats 40000000 in
theorem rmChk3_3 {l : Launch} {Z : State} {n0 : Nat} {a0 : Array Value} (hw : ∀ d ∈ tables_1, d.before a0 Z = true) (a1 : Addr) (a4 : Addr) (a5 : Addr) (a6 : Addr) (x0 : Int64) (x1 : Int64) (x2 : Int64) (x3 : Int64) (r1 : Int32) (r2 : Int32) (r3 : Int32) (t1 : Int32) (t2 : Int32) (t3 : Int32) (b : Addr) (vs : List Value) (h0 : Heap) (H0 : Exa Z h0 a1 "com/example/divided_duty/dividedduty/policy/Ranges") (H1 : Fld Z h0 a1 "com/example/divided_duty/dividedduty/policy/Ranges" "bounds" "[I" (.ref b)) (H2 : AV Z h0 b .int vs) (H3 : AV Z h0 a4 .long [(.long x0), (.long x1), (.long x2), (.long x3)]) (H4 : AV Z h0 a5 .int [(.int (0 : Int32)), (.int r1), (.int r2), (.int r3)]) (H5 : AV Z h0 a6 .boolean [(.int (0 : Int32)), (.int t1), (.int t2), (.int t3)]) :
    Con l Z n0 (⟨"com/example/divided_duty/dividedduty/policy/RangesOfSortedPinLaw", "check", "(Lcom/example/divided_duty/dividedduty/policy/Ranges;II[J[I[Z)Z"⟩ : MethodName) method_4_code 7 (some .boolean) R_rmChk3_3 #[(.ref a1), (.int (3 : Int32)), (.int (3 : Int32)), (.ref a4), (.ref a5), (.ref a6)] h0 (Q_rmChk3_3 Z n0 a1 a4 a5 a6 x0 x1 x2 x3 r1 r2 r3 t1 t2 t3 b vs h0) := by
  refine con_of (plainFor_of_name pn_com_example_divided_duty_dividedduty_policy_RangesOfSortedPinLaw) ?_
  intro p e s m below meth c T0 K X0 e0
  replace K : Ctx p s m meth c Z "com/example/divided_duty/dividedduty/policy/RangesOfSortedPinLaw" "check" method_4_code 7 (some .boolean) := K
  refine go_entry (ef_rmChk3_3 m a1 a4 a5 a6) ?_
  refine go_iloadN K X0 d9_0 rfl rfl ?_
  refine go_iloadN K X0 d9_1 rfl rfl ?_
  refine go_icmpF K X0 d9_2 rfl (by decide : ¬ (3 : Int32) < (3 : Int32)) ?_
  refine go_iconst K X0 (1 : Int32) d9_5 rfl rfl ?_
  refine go_retZ K X0 (Or.inr rfl) d9_6 (by decide) (by decide) ?_
  rw [e0]
  exact ⟨rfl, rfl⟩
theorem ef_rmChk4_0 (m : MethodId) (a1 : Addr) (a4 : Addr) (a5 : Addr) (a6 : Addr) : entryFrame m #[(.ref a1), (.int (0 : Int32)), (.int (4 : Int32)), (.ref a4), (.ref a5), (.ref a6)] 7 = mkF m 0 #[.val (.ref a1), .val (.int (0 : Int32)), .val (.int (4 : Int32)), .val (.ref a4), .val (.ref a5), .val (.ref a6), .unset] [] := by first | (simp [entryFrame, mkF, argsToLocals, Value.category]; done) | rfl
def Q_rmChk4_0 (Z : State) (n0 : Nat) (a1 : Addr) (a4 : Addr) (a5 : Addr) (a6 : Addr) (x0 : Int64) (x1 : Int64) (x2 : Int64) (x3 : Int64) (r1 : Int32) (r2 : Int32) (r3 : Int32) (t1 : Int32) (t2 : Int32) (t3 : Int32) (b : Addr) (vs : List Value) (h0 : Heap) (v : Option Value) (h : Heap) : Prop := v = some (.int (1 : Int32)) ∧ h = h0
abbrev R_rmChk4_0 : Room := { frames := 1, cells := 0, slots := 0, locals := 13 }
set_option maxRecDepth 65536 in
set_option maxHeartbeats 40000000 in
theorem rmChk4_0 {l : Launch} {Z : State} {n0 : Nat} {a0 : Array Value} (hw : ∀ d ∈ tables_1, d.before a0 Z = true) (a1 : Addr) (a4 : Addr) (a5 : Addr) (a6 : Addr) (x0 : Int64) (x1 : Int64) (x2 : Int64) (x3 : Int64) (r1 : Int32) (r2 : Int32) (r3 : Int32) (t1 : Int32) (t2 : Int32) (t3 : Int32) (b : Addr) (vs : List Value) (h0 : Heap) (H0 : Exa Z h0 a1 "com/example/divided_duty/dividedduty/policy/Ranges") (H1 : Fld Z h0 a1 "com/example/divided_duty/dividedduty/policy/Ranges" "bounds" "[I" (.ref b)) (H2 : AV Z h0 b .int vs) (H3 : AV Z h0 a4 .long [(.long x0), (.long x1), (.long x2), (.long x3)]) (H4 : AV Z h0 a5 .int [(.int (0 : Int32)), (.int r1), (.int r2), (.int r3)]) (H5 : AV Z h0 a6 .boolean [(.int (0 : Int32)), (.int t1), (.int t2), (.int t3)]) (H6 : ∃ j : Nat, ((2 : Int32) * (0 : Int32)).toInt = (j : Int) ∧ vs[j]? = some (.int (x0.toInt32))) (H7 : t1 = 0 → ∃ j : Nat, (((2 : Int32) * (0 : Int32)) + (1 : Int32)).toInt = (j : Int) ∧ vs[j]? = some (.int ((x0 + (1 : Int64)).toInt32))) :
    Con l Z n0 (⟨"com/example/divided_duty/dividedduty/policy/RangesOfSortedPinLaw", "check", "(Lcom/example/divided_duty/dividedduty/policy/Ranges;II[J[I[Z)Z"⟩ : MethodName) method_4_code 7 (some .boolean) R_rmChk4_0 #[(.ref a1), (.int (0 : Int32)), (.int (4 : Int32)), (.ref a4), (.ref a5), (.ref a6)] h0 (Q_rmChk4_0 Z n0 a1 a4 a5 a6 x0 x1 x2 x3 r1 r2 r3 t1 t2 t3 b vs h0) := by
  refine con_of (plainFor_of_name pn_com_example_divided_duty_dividedduty_policy_RangesOfSortedPinLaw) ?_
  intro p e s m below meth c T0 K X0 e0
  replace K : Ctx p s m meth c Z "com/example/divided_duty/dividedduty/policy/RangesOfSortedPinLaw" "check" method_4_code 7 (some .boolean) := K
  refine go_entry (ef_rmChk4_0 m a1 a4 a5 a6) ?_
  refine go_iloadN K X0 d9_0 rfl rfl ?_
  refine go_iloadN K X0 d9_1 rfl rfl ?_
  refine go_icmpT K X0 d9_2 (by decide) rfl (by decide : (0 : Int32) < (4 : Int32)) ?_
  refine go_iconst K X0 (1 : Int32) d9_7 rfl rfl ?_
  refine go_istore K X0 #[.val (.ref a1), .val (.int (0 : Int32)), .val (.int (4 : Int32)), .val (.ref a4), .val (.ref a5), .val (.ref a6), .val (.int (1 : Int32))] d9_8 rfl rfl ?_
  refine go_iloadN K X0 d9_10 rfl rfl ?_
  refine go_ifT K X0 d9_11 (by decide) rfl (by decide : (0 : Int32) = (0 : Int32)) ?_
  refine go_iload K X0 d9_21 rfl rfl ?_
  refine go_ifF K X0 d9_23 rfl (by decide : ¬ (1 : Int32) = (0 : Int32)) ?_
  refine go_aloadN K X0 d9_26 rfl rfl rfl ?_
  refine go_aload K X0 d9_27 rfl rfl rfl ?_
  refine go_iloadN K X0 d9_29 rfl rfl ?_
  refine go_iaload K X0 e0 H4 (i := 0) rfl rfl d9_30 rfl ?_
  obtain ⟨j1, k1, l1⟩ := H6
  refine go_virt K X0 (a := a1) (argsL := [(.int (0 : Int32))]) (stk := []) (wd hw 57 rfl) (wd hw 58 rfl) (wd hw 60 rfl) (wd hw 60 rfl) (wd hw 59 rfl) (wd hw 61 rfl) (wd hw 14 rfl) (by decide) (lenOf pd_3 rfl) e0 H0 (rmFirst hw a1 (0 : Int32) b vs j1 (x0.toInt32) h0 H1 H2 k1 l1) rfl rfl d9_31 rfl (by decide) (W := 0) (Nat.le_of_eq rfl) (by decide) (cells' := 0) (slots' := 0) rfl rfl (by decide) (by decide) ?_
  rintro T594 h594 _ X594 e594 ⟨rfl, qe594⟩
  show Go _ _ _ _ _ _ _ (T594.setTop (mkF m 34 #[.val (.ref a1), .val (.int (0 : Int32)), .val (.int (4 : Int32)), .val (.ref a4), .val (.ref a5), .val (.ref a6), .val (.int (1 : Int32))] [(.int (x0.toInt32))]))
  replace e594 := e594.trans qe594
  refine go_aloadN K X594 d9_34 rfl rfl rfl ?_
  refine go_iloadN K X594 d9_35 rfl rfl ?_
  refine go_laload K X594 e594 H3 (i := 0) rfl rfl d9_36 rfl ?_
  refine go_l2i K X594 d9_37 rfl ?_
  refine go_icmpF K X594 d9_38 rfl (rfl : (x0.toInt32) = (x0.toInt32)) ?_
  refine go_iconst K X594 (1 : Int32) d9_41 rfl rfl ?_
  refine go_goto K X594 d9_42 (by decide) rfl ?_
  refine go_istore K X594 #[.val (.ref a1), .val (.int (0 : Int32)), .val (.int (4 : Int32)), .val (.ref a4), .val (.ref a5), .val (.ref a6), .val (.int (1 : Int32))] d9_46 rfl rfl ?_
  refine go_iloadN K X594 d9_48 rfl rfl ?_
  refine go_iloadN K X594 d9_49 rfl rfl ?_
  refine go_iconst K X594 (1 : Int32) d9_50 rfl rfl ?_
  refine go_isub K X594 d9_51 rfl ?_
  rw [show ((4 : Int32) - (1 : Int32)) = (3 : Int32) from by decide]
  refine go_icmpF K X594 d9_52 rfl (by decide : ¬ (0 : Int32) = (3 : Int32)) ?_
  refine go_aload K X594 d9_55 rfl rfl rfl ?_
  refine go_iloadN K X594 d9_57 rfl rfl ?_
  refine go_iconst K X594 (1 : Int32) d9_58 rfl rfl ?_
  refine go_iadd K X594 d9_59 rfl ?_
  rw [show ((0 : Int32) + (1 : Int32)) = (1 : Int32) from by decide]
  refine go_baloadZ K X594 e594 H5 (i := 1) rfl rfl d9_60 rfl ?_
  refine go_if K X594 d9_61 (by decide) rfl rfl ?_ ?_
  · intro (hc595 : ¬ t1 = (0 : Int32))
    refine go_iload K X594 d9_93 rfl rfl ?_
    refine go_retZ K X594 (Or.inr rfl) d9_95 (by decide) (by decide) ?_
    rw [e594]
    exact ⟨rfl, rfl⟩
  · intro (hc595 : t1 = (0 : Int32))
    refine go_iload K X594 d9_64 rfl rfl ?_
    refine go_ifF K X594 d9_66 rfl (by decide : ¬ (1 : Int32) = (0 : Int32)) ?_
    refine go_aloadN K X594 d9_69 rfl rfl rfl ?_
    refine go_aload K X594 d9_70 rfl rfl rfl ?_
    refine go_iloadN K X594 d9_72 rfl rfl ?_
    refine go_iaload K X594 e594 H4 (i := 0) rfl rfl d9_73 rfl ?_
    obtain ⟨j2, k2, l2⟩ := H7 (by simpa using hc595)
    refine go_virt K X594 (a := a1) (argsL := [(.int (0 : Int32))]) (stk := []) (wd hw 62 rfl) (wd hw 63 rfl) (wd hw 65 rfl) (wd hw 65 rfl) (wd hw 64 rfl) (wd hw 66 rfl) (wd hw 14 rfl) (by decide) (lenOf pd_3 rfl) e594 H0 (rmEnd hw a1 (0 : Int32) b vs j2 ((x0 + (1 : Int64)).toInt32) h0 H1 H2 k2 l2) rfl rfl d9_74 rfl (by decide) (W := 0) (Nat.le_of_eq rfl) (by decide) (cells' := 0) (slots' := 0) rfl rfl (by decide) (by decide) ?_
    rintro T596 h596 _ X596 e596 ⟨rfl, qe596⟩
    show Go _ _ _ _ _ _ _ (T596.setTop (mkF m 77 #[.val (.ref a1), .val (.int (0 : Int32)), .val (.int (4 : Int32)), .val (.ref a4), .val (.ref a5), .val (.ref a6), .val (.int (1 : Int32))] [(.int ((x0 + (1 : Int64)).toInt32))]))
    replace e596 := e596.trans qe596
    refine go_aloadN K X596 d9_77 rfl rfl rfl ?_
    refine go_iloadN K X596 d9_78 rfl rfl ?_
    refine go_laload K X596 e596 H3 (i := 0) rfl rfl d9_79 rfl ?_
    refine go_lconst K X596 (1 : Int64) d9_80 rfl rfl ?_
    refine go_ladd K X596 d9_81 rfl ?_
    refine go_l2i K X596 d9_82 rfl ?_
    refine go_icmpF K X596 d9_83 rfl (rfl : ((x0 + (1 : Int64)).toInt32) = ((x0 + (1 : Int64)).toInt32)) ?_
    refine go_iconst K X596 (1 : Int32) d9_86 rfl rfl ?_
    refine go_goto K X596 d9_87 (by decide) rfl ?_
    refine go_istore K X596 #[.val (.ref a1), .val (.int (0 : Int32)), .val (.int (4 : Int32)), .val (.ref a4), .val (.ref a5), .val (.ref a6), .val (.int (1 : Int32))] d9_91 rfl rfl ?_
    refine go_iload K X596 d9_93 rfl rfl ?_
    refine go_retZ K X596 (Or.inr rfl) d9_95 (by decide) (by decide) ?_
    rw [e596]
    exact ⟨rfl, rfl⟩
theorem ef_rmChk4_1 (m : MethodId) (a1 : Addr) (a4 : Addr) (a5 : Addr) (a6 : Addr) : entryFrame m #[(.ref a1), (.int (1 : Int32)), (.int (4 : Int32)), (.ref a4), (.ref a5), (.ref a6)] 7 = mkF m 0 #[.val (.ref a1), .val (.int (1 : Int32)), .val (.int (4 : Int32)), .val (.ref a4), .val (.ref a5), .val (.ref a6), .unset] [] := by first | (simp [entryFrame, mkF, argsToLocals, Value.category]; done) | rfl
def Q_rmChk4_1 (Z : State) (n0 : Nat) (a1 : Addr) (a4 : Addr) (a5 : Addr) (a6 : Addr) (x0 : Int64) (x1 : Int64) (x2 : Int64) (x3 : Int64) (r1 : Int32) (r2 : Int32) (r3 : Int32) (t1 : Int32) (t2 : Int32) (t3 : Int32) (b : Addr) (vs : List Value) (h0 : Heap) (v : Option Value) (h : Heap) : Prop := v = some (.int (1 : Int32)) ∧ h = h0
abbrev R_rmChk4_1 : Room := { frames := 1, cells := 0, slots := 0, locals := 13 }
set_option maxRecDepth 65536 in
set_option maxHeartbeats 40000000 in
theorem rmChk4_1 {l : Launch} {Z : State} {n0 : Nat} {a0 : Array Value} (hw : ∀ d ∈ tables_1, d.before a0 Z = true) (a1 : Addr) (a4 : Addr) (a5 : Addr) (a6 : Addr) (x0 : Int64) (x1 : Int64) (x2 : Int64) (x3 : Int64) (r1 : Int32) (r2 : Int32) (r3 : Int32) (t1 : Int32) (t2 : Int32) (t3 : Int32) (b : Addr) (vs : List Value) (h0 : Heap) (H0 : Exa Z h0 a1 "com/example/divided_duty/dividedduty/policy/Ranges") (H1 : Fld Z h0 a1 "com/example/divided_duty/dividedduty/policy/Ranges" "bounds" "[I" (.ref b)) (H2 : AV Z h0 b .int vs) (H3 : AV Z h0 a4 .long [(.long x0), (.long x1), (.long x2), (.long x3)]) (H4 : AV Z h0 a5 .int [(.int (0 : Int32)), (.int r1), (.int r2), (.int r3)]) (H5 : AV Z h0 a6 .boolean [(.int (0 : Int32)), (.int t1), (.int t2), (.int t3)]) (H6 : t1 = 0 → ∃ j : Nat, ((2 : Int32) * r1).toInt = (j : Int) ∧ vs[j]? = some (.int (x1.toInt32))) (H7 : t2 = 0 → ∃ j : Nat, (((2 : Int32) * r1) + (1 : Int32)).toInt = (j : Int) ∧ vs[j]? = some (.int ((x1 + (1 : Int64)).toInt32))) :
    Con l Z n0 (⟨"com/example/divided_duty/dividedduty/policy/RangesOfSortedPinLaw", "check", "(Lcom/example/divided_duty/dividedduty/policy/Ranges;II[J[I[Z)Z"⟩ : MethodName) method_4_code 7 (some .boolean) R_rmChk4_1 #[(.ref a1), (.int (1 : Int32)), (.int (4 : Int32)), (.ref a4), (.ref a5), (.ref a6)] h0 (Q_rmChk4_1 Z n0 a1 a4 a5 a6 x0 x1 x2 x3 r1 r2 r3 t1 t2 t3 b vs h0) := by
  refine con_of (plainFor_of_name pn_com_example_divided_duty_dividedduty_policy_RangesOfSortedPinLaw) ?_
  intro p e s m below meth c T0 K X0 e0
  replace K : Ctx p s m meth c Z "com/example/divided_duty/dividedduty/policy/RangesOfSortedPinLaw" "check" method_4_code 7 (some .boolean) := K
  refine go_entry (ef_rmChk4_1 m a1 a4 a5 a6) ?_
  refine go_iloadN K X0 d9_0 rfl rfl ?_
  refine go_iloadN K X0 d9_1 rfl rfl ?_
  refine go_icmpT K X0 d9_2 (by decide) rfl (by decide : (1 : Int32) < (4 : Int32)) ?_
  refine go_iconst K X0 (1 : Int32) d9_7 rfl rfl ?_
  refine go_istore K X0 #[.val (.ref a1), .val (.int (1 : Int32)), .val (.int (4 : Int32)), .val (.ref a4), .val (.ref a5), .val (.ref a6), .val (.int (1 : Int32))] d9_8 rfl rfl ?_
  refine go_iloadN K X0 d9_10 rfl rfl ?_
  refine go_ifF K X0 d9_11 rfl (by decide : ¬ (1 : Int32) = (0 : Int32)) ?_
  refine go_aload K X0 d9_14 rfl rfl rfl ?_
  refine go_iloadN K X0 d9_16 rfl rfl ?_
  refine go_baloadZ K X0 e0 H5 (i := 1) rfl rfl d9_17 rfl ?_
  refine go_if K X0 d9_18 (by decide) rfl rfl ?_ ?_
  · intro (hc597 : ¬ t1 = (0 : Int32))
    refine go_iloadN K X0 d9_48 rfl rfl ?_
    refine go_iloadN K X0 d9_49 rfl rfl ?_
    refine go_iconst K X0 (1 : Int32) d9_50 rfl rfl ?_
    refine go_isub K X0 d9_51 rfl ?_
    rw [show ((4 : Int32) - (1 : Int32)) = (3 : Int32) from by decide]
    refine go_icmpF K X0 d9_52 rfl (by decide : ¬ (1 : Int32) = (3 : Int32)) ?_
    refine go_aload K X0 d9_55 rfl rfl rfl ?_
    refine go_iloadN K X0 d9_57 rfl rfl ?_
    refine go_iconst K X0 (1 : Int32) d9_58 rfl rfl ?_
    refine go_iadd K X0 d9_59 rfl ?_
    rw [show ((1 : Int32) + (1 : Int32)) = (2 : Int32) from by decide]
    refine go_baloadZ K X0 e0 H5 (i := 2) rfl rfl d9_60 rfl ?_
    refine go_if K X0 d9_61 (by decide) rfl rfl ?_ ?_
    · intro (hc598 : ¬ t2 = (0 : Int32))
      refine go_iload K X0 d9_93 rfl rfl ?_
      refine go_retZ K X0 (Or.inr rfl) d9_95 (by decide) (by decide) ?_
      rw [e0]
      exact ⟨rfl, rfl⟩
    · intro (hc598 : t2 = (0 : Int32))
      refine go_iload K X0 d9_64 rfl rfl ?_
      refine go_ifF K X0 d9_66 rfl (by decide : ¬ (1 : Int32) = (0 : Int32)) ?_
      refine go_aloadN K X0 d9_69 rfl rfl rfl ?_
      refine go_aload K X0 d9_70 rfl rfl rfl ?_
      refine go_iloadN K X0 d9_72 rfl rfl ?_
      refine go_iaload K X0 e0 H4 (i := 1) rfl rfl d9_73 rfl ?_
      obtain ⟨j2, k2, l2⟩ := H7 (by simpa using hc598)
      refine go_virt K X0 (a := a1) (argsL := [(.int r1)]) (stk := []) (wd hw 62 rfl) (wd hw 63 rfl) (wd hw 65 rfl) (wd hw 65 rfl) (wd hw 64 rfl) (wd hw 66 rfl) (wd hw 14 rfl) (by decide) (lenOf pd_3 rfl) e0 H0 (rmEnd hw a1 r1 b vs j2 ((x1 + (1 : Int64)).toInt32) h0 H1 H2 k2 l2) rfl rfl d9_74 rfl (by decide) (W := 0) (Nat.le_of_eq rfl) (by decide) (cells' := 0) (slots' := 0) rfl rfl (by decide) (by decide) ?_
      rintro T599 h599 _ X599 e599 ⟨rfl, qe599⟩
      show Go _ _ _ _ _ _ _ (T599.setTop (mkF m 77 #[.val (.ref a1), .val (.int (1 : Int32)), .val (.int (4 : Int32)), .val (.ref a4), .val (.ref a5), .val (.ref a6), .val (.int (1 : Int32))] [(.int ((x1 + (1 : Int64)).toInt32))]))
      replace e599 := e599.trans qe599
      refine go_aloadN K X599 d9_77 rfl rfl rfl ?_
      refine go_iloadN K X599 d9_78 rfl rfl ?_
      refine go_laload K X599 e599 H3 (i := 1) rfl rfl d9_79 rfl ?_
      refine go_lconst K X599 (1 : Int64) d9_80 rfl rfl ?_
      refine go_ladd K X599 d9_81 rfl ?_
      refine go_l2i K X599 d9_82 rfl ?_
      refine go_icmpF K X599 d9_83 rfl (rfl : ((x1 + (1 : Int64)).toInt32) = ((x1 + (1 : Int64)).toInt32)) ?_
      refine go_iconst K X599 (1 : Int32) d9_86 rfl rfl ?_
      refine go_goto K X599 d9_87 (by decide) rfl ?_
      refine go_istore K X599 #[.val (.ref a1), .val (.int (1 : Int32)), .val (.int (4 : Int32)), .val (.ref a4), .val (.ref a5), .val (.ref a6), .val (.int (1 : Int32))] d9_91 rfl rfl ?_
      refine go_iload K X599 d9_93 rfl rfl ?_
      refine go_retZ K X599 (Or.inr rfl) d9_95 (by decide) (by decide) ?_
      rw [e599]
      exact ⟨rfl, rfl⟩
  · intro (hc597 : t1 = (0 : Int32))
    refine go_iload K X0 d9_21 rfl rfl ?_
    refine go_ifF K X0 d9_23 rfl (by decide : ¬ (1 : Int32) = (0 : Int32)) ?_
    refine go_aloadN K X0 d9_26 rfl rfl rfl ?_
    refine go_aload K X0 d9_27 rfl rfl rfl ?_
    refine go_iloadN K X0 d9_29 rfl rfl ?_
    refine go_iaload K X0 e0 H4 (i := 1) rfl rfl d9_30 rfl ?_
    obtain ⟨j1, k1, l1⟩ := H6 (by simpa using hc597)
    refine go_virt K X0 (a := a1) (argsL := [(.int r1)]) (stk := []) (wd hw 57 rfl) (wd hw 58 rfl) (wd hw 60 rfl) (wd hw 60 rfl) (wd hw 59 rfl) (wd hw 61 rfl) (wd hw 14 rfl) (by decide) (lenOf pd_3 rfl) e0 H0 (rmFirst hw a1 r1 b vs j1 (x1.toInt32) h0 H1 H2 k1 l1) rfl rfl d9_31 rfl (by decide) (W := 0) (Nat.le_of_eq rfl) (by decide) (cells' := 0) (slots' := 0) rfl rfl (by decide) (by decide) ?_
    rintro T600 h600 _ X600 e600 ⟨rfl, qe600⟩
    show Go _ _ _ _ _ _ _ (T600.setTop (mkF m 34 #[.val (.ref a1), .val (.int (1 : Int32)), .val (.int (4 : Int32)), .val (.ref a4), .val (.ref a5), .val (.ref a6), .val (.int (1 : Int32))] [(.int (x1.toInt32))]))
    replace e600 := e600.trans qe600
    refine go_aloadN K X600 d9_34 rfl rfl rfl ?_
    refine go_iloadN K X600 d9_35 rfl rfl ?_
    refine go_laload K X600 e600 H3 (i := 1) rfl rfl d9_36 rfl ?_
    refine go_l2i K X600 d9_37 rfl ?_
    refine go_icmpF K X600 d9_38 rfl (rfl : (x1.toInt32) = (x1.toInt32)) ?_
    refine go_iconst K X600 (1 : Int32) d9_41 rfl rfl ?_
    refine go_goto K X600 d9_42 (by decide) rfl ?_
    refine go_istore K X600 #[.val (.ref a1), .val (.int (1 : Int32)), .val (.int (4 : Int32)), .val (.ref a4), .val (.ref a5), .val (.ref a6), .val (.int (1 : Int32))] d9_46 rfl rfl ?_
    refine go_iloadN K X600 d9_48 rfl rfl ?_
    refine go_iloadN K X600 d9_49 rfl rfl ?_
    refine go_iconst K X600 (1 : Int32) d9_50 rfl rfl ?_
    refine go_isub K X600 d9_51 rfl ?_
    rw [show ((4 : Int32) - (1 : Int32)) = (3 : Int32) from by decide]
    refine go_icmpF K X600 d9_52 rfl (by decide : ¬ (1 : Int32) = (3 : Int32)) ?_
    refine go_aload K X600 d9_55 rfl rfl rfl ?_
    refine go_iloadN K X600 d9_57 rfl rfl ?_
    refine go_iconst K X600 (1 : Int32) d9_58 rfl rfl ?_
    refine go_iadd K X600 d9_59 rfl ?_
    rw [show ((1 : Int32) + (1 : Int32)) = (2 : Int32) from by decide]
    refine go_baloadZ K X600 e600 H5 (i := 2) rfl rfl d9_60 rfl ?_
    refine go_if K X600 d9_61 (by decide) rfl rfl ?_ ?_
    · intro (hc601 : ¬ t2 = (0 : Int32))
      refine go_iload K X600 d9_93 rfl rfl ?_
      refine go_retZ K X600 (Or.inr rfl) d9_95 (by decide) (by decide) ?_
      rw [e600]
      exact ⟨rfl, rfl⟩
    · intro (hc601 : t2 = (0 : Int32))
      refine go_iload K X600 d9_64 rfl rfl ?_
      refine go_ifF K X600 d9_66 rfl (by decide : ¬ (1 : Int32) = (0 : Int32)) ?_
      refine go_aloadN K X600 d9_69 rfl rfl rfl ?_
      refine go_aload K X600 d9_70 rfl rfl rfl ?_
      refine go_iloadN K X600 d9_72 rfl rfl ?_
      refine go_iaload K X600 e600 H4 (i := 1) rfl rfl d9_73 rfl ?_
      obtain ⟨j2, k2, l2⟩ := H7 (by simpa using hc601)
      refine go_virt K X600 (a := a1) (argsL := [(.int r1)]) (stk := []) (wd hw 62 rfl) (wd hw 63 rfl) (wd hw 65 rfl) (wd hw 65 rfl) (wd hw 64 rfl) (wd hw 66 rfl) (wd hw 14 rfl) (by decide) (lenOf pd_3 rfl) e600 H0 (rmEnd hw a1 r1 b vs j2 ((x1 + (1 : Int64)).toInt32) h0 H1 H2 k2 l2) rfl rfl d9_74 rfl (by decide) (W := 0) (Nat.le_of_eq rfl) (by decide) (cells' := 0) (slots' := 0) rfl rfl (by decide) (by decide) ?_
      rintro T602 h602 _ X602 e602 ⟨rfl, qe602⟩
      show Go _ _ _ _ _ _ _ (T602.setTop (mkF m 77 #[.val (.ref a1), .val (.int (1 : Int32)), .val (.int (4 : Int32)), .val (.ref a4), .val (.ref a5), .val (.ref a6), .val (.int (1 : Int32))] [(.int ((x1 + (1 : Int64)).toInt32))]))
      replace e602 := e602.trans qe602
      refine go_aloadN K X602 d9_77 rfl rfl rfl ?_
      refine go_iloadN K X602 d9_78 rfl rfl ?_
      refine go_laload K X602 e602 H3 (i := 1) rfl rfl d9_79 rfl ?_
      refine go_lconst K X602 (1 : Int64) d9_80 rfl rfl ?_
      refine go_ladd K X602 d9_81 rfl ?_
      refine go_l2i K X602 d9_82 rfl ?_
      refine go_icmpF K X602 d9_83 rfl (rfl : ((x1 + (1 : Int64)).toInt32) = ((x1 + (1 : Int64)).toInt32)) ?_
      refine go_iconst K X602 (1 : Int32) d9_86 rfl rfl ?_
      refine go_goto K X602 d9_87 (by decide) rfl ?_
      refine go_istore K X602 #[.val (.ref a1), .val (.int (1 : Int32)), .val (.int (4 : Int32)), .val (.ref a4), .val (.ref a5), .val (.ref a6), .val (.int (1 : Int32))] d9_91 rfl rfl ?_
      refine go_iload K X602 d9_93 rfl rfl ?_
      refine go_retZ K X602 (Or.inr rfl) d9_95 (by decide) (by decide) ?_
      rw [e602]
      exact ⟨rfl, rfl⟩
theorem ef_rmChk4_2 (m : MethodId) (a1 : Addr) (a4 : Addr) (a5 : Addr) (a6 : Addr) : entryFrame m #[(.ref a1), (.int (2 : Int32)), (.int (4 : Int32)), (.ref a4), (.ref a5), (.ref a6)] 7 = mkF m 0 #[.val (.ref a1), .val (.int (2 : Int32)), .val (.int (4 : Int32)), .val (.ref a4), .val (.ref a5), .val (.ref a6), .unset] [] := by first | (simp [entryFrame, mkF, argsToLocals, Value.category]; done) | rfl
def Q_rmChk4_2 (Z : State) (n0 : Nat) (a1 : Addr) (a4 : Addr) (a5 : Addr) (a6 : Addr) (x0 : Int64) (x1 : Int64) (x2 : Int64) (x3 : Int64) (r1 : Int32) (r2 : Int32) (r3 : Int32) (t1 : Int32) (t2 : Int32) (t3 : Int32) (b : Addr) (vs : List Value) (h0 : Heap) (v : Option Value) (h : Heap) : Prop := v = some (.int (1 : Int32)) ∧ h = h0
abbrev R_rmChk4_2 : Room := { frames := 1, cells := 0, slots := 0, locals := 13 }
set_option maxRecDepth 65536 in
set_option maxHeartbeats 40000000 in
theorem rmChk4_2 {l : Launch} {Z : State} {n0 : Nat} {a0 : Array Value} (hw : ∀ d ∈ tables_1, d.before a0 Z = true) (a1 : Addr) (a4 : Addr) (a5 : Addr) (a6 : Addr) (x0 : Int64) (x1 : Int64) (x2 : Int64) (x3 : Int64) (r1 : Int32) (r2 : Int32) (r3 : Int32) (t1 : Int32) (t2 : Int32) (t3 : Int32) (b : Addr) (vs : List Value) (h0 : Heap) (H0 : Exa Z h0 a1 "com/example/divided_duty/dividedduty/policy/Ranges") (H1 : Fld Z h0 a1 "com/example/divided_duty/dividedduty/policy/Ranges" "bounds" "[I" (.ref b)) (H2 : AV Z h0 b .int vs) (H3 : AV Z h0 a4 .long [(.long x0), (.long x1), (.long x2), (.long x3)]) (H4 : AV Z h0 a5 .int [(.int (0 : Int32)), (.int r1), (.int r2), (.int r3)]) (H5 : AV Z h0 a6 .boolean [(.int (0 : Int32)), (.int t1), (.int t2), (.int t3)]) (H6 : t2 = 0 → ∃ j : Nat, ((2 : Int32) * r2).toInt = (j : Int) ∧ vs[j]? = some (.int (x2.toInt32))) (H7 : t3 = 0 → ∃ j : Nat, (((2 : Int32) * r2) + (1 : Int32)).toInt = (j : Int) ∧ vs[j]? = some (.int ((x2 + (1 : Int64)).toInt32))) :
    Con l Z n0 (⟨"com/example/divided_duty/dividedduty/policy/RangesOfSortedPinLaw", "check", "(Lcom/example/divided_duty/dividedduty/policy/Ranges;II[J[I[Z)Z"⟩ : MethodName) method_4_code 7 (some .boolean) R_rmChk4_2 #[(.ref a1), (.int (2 : Int32)), (.int (4 : Int32)), (.ref a4), (.ref a5), (.ref a6)] h0 (Q_rmChk4_2 Z n0 a1 a4 a5 a6 x0 x1 x2 x3 r1 r2 r3 t1 t2 t3 b vs h0) := by
  refine con_of (plainFor_of_name pn_com_example_divided_duty_dividedduty_policy_RangesOfSortedPinLaw) ?_
  intro p e s m below meth c T0 K X0 e0
  replace K : Ctx p s m meth c Z "com/example/divided_duty/dividedduty/policy/RangesOfSortedPinLaw" "check" method_4_code 7 (some .boolean) := K
  refine go_entry (ef_rmChk4_2 m a1 a4 a5 a6) ?_
  refine go_iloadN K X0 d9_0 rfl rfl ?_
  refine go_iloadN K X0 d9_1 rfl rfl ?_
  refine go_icmpT K X0 d9_2 (by decide) rfl (by decide : (2 : Int32) < (4 : Int32)) ?_
  refine go_iconst K X0 (1 : Int32) d9_7 rfl rfl ?_
  refine go_istore K X0 #[.val (.ref a1), .val (.int (2 : Int32)), .val (.int (4 : Int32)), .val (.ref a4), .val (.ref a5), .val (.ref a6), .val (.int (1 : Int32))] d9_8 rfl rfl ?_
  refine go_iloadN K X0 d9_10 rfl rfl ?_
  refine go_ifF K X0 d9_11 rfl (by decide : ¬ (2 : Int32) = (0 : Int32)) ?_
  refine go_aload K X0 d9_14 rfl rfl rfl ?_
  refine go_iloadN K X0 d9_16 rfl rfl ?_
  refine go_baloadZ K X0 e0 H5 (i := 2) rfl rfl d9_17 rfl ?_
  refine go_if K X0 d9_18 (by decide) rfl rfl ?_ ?_
  · intro (hc603 : ¬ t2 = (0 : Int32))
    refine go_iloadN K X0 d9_48 rfl rfl ?_
    refine go_iloadN K X0 d9_49 rfl rfl ?_
    refine go_iconst K X0 (1 : Int32) d9_50 rfl rfl ?_
    refine go_isub K X0 d9_51 rfl ?_
    rw [show ((4 : Int32) - (1 : Int32)) = (3 : Int32) from by decide]
    refine go_icmpF K X0 d9_52 rfl (by decide : ¬ (2 : Int32) = (3 : Int32)) ?_
    refine go_aload K X0 d9_55 rfl rfl rfl ?_
    refine go_iloadN K X0 d9_57 rfl rfl ?_
    refine go_iconst K X0 (1 : Int32) d9_58 rfl rfl ?_
    refine go_iadd K X0 d9_59 rfl ?_
    rw [show ((2 : Int32) + (1 : Int32)) = (3 : Int32) from by decide]
    refine go_baloadZ K X0 e0 H5 (i := 3) rfl rfl d9_60 rfl ?_
    refine go_if K X0 d9_61 (by decide) rfl rfl ?_ ?_
    · intro (hc604 : ¬ t3 = (0 : Int32))
      refine go_iload K X0 d9_93 rfl rfl ?_
      refine go_retZ K X0 (Or.inr rfl) d9_95 (by decide) (by decide) ?_
      rw [e0]
      exact ⟨rfl, rfl⟩
    · intro (hc604 : t3 = (0 : Int32))
      refine go_iload K X0 d9_64 rfl rfl ?_
      refine go_ifF K X0 d9_66 rfl (by decide : ¬ (1 : Int32) = (0 : Int32)) ?_
      refine go_aloadN K X0 d9_69 rfl rfl rfl ?_
      refine go_aload K X0 d9_70 rfl rfl rfl ?_
      refine go_iloadN K X0 d9_72 rfl rfl ?_
      refine go_iaload K X0 e0 H4 (i := 2) rfl rfl d9_73 rfl ?_
      obtain ⟨j2, k2, l2⟩ := H7 (by simpa using hc604)
      refine go_virt K X0 (a := a1) (argsL := [(.int r2)]) (stk := []) (wd hw 62 rfl) (wd hw 63 rfl) (wd hw 65 rfl) (wd hw 65 rfl) (wd hw 64 rfl) (wd hw 66 rfl) (wd hw 14 rfl) (by decide) (lenOf pd_3 rfl) e0 H0 (rmEnd hw a1 r2 b vs j2 ((x2 + (1 : Int64)).toInt32) h0 H1 H2 k2 l2) rfl rfl d9_74 rfl (by decide) (W := 0) (Nat.le_of_eq rfl) (by decide) (cells' := 0) (slots' := 0) rfl rfl (by decide) (by decide) ?_
      rintro T605 h605 _ X605 e605 ⟨rfl, qe605⟩
      show Go _ _ _ _ _ _ _ (T605.setTop (mkF m 77 #[.val (.ref a1), .val (.int (2 : Int32)), .val (.int (4 : Int32)), .val (.ref a4), .val (.ref a5), .val (.ref a6), .val (.int (1 : Int32))] [(.int ((x2 + (1 : Int64)).toInt32))]))
      replace e605 := e605.trans qe605
      refine go_aloadN K X605 d9_77 rfl rfl rfl ?_
      refine go_iloadN K X605 d9_78 rfl rfl ?_
      refine go_laload K X605 e605 H3 (i := 2) rfl rfl d9_79 rfl ?_
      refine go_lconst K X605 (1 : Int64) d9_80 rfl rfl ?_
      refine go_ladd K X605 d9_81 rfl ?_
      refine go_l2i K X605 d9_82 rfl ?_
      refine go_icmpF K X605 d9_83 rfl (rfl : ((x2 + (1 : Int64)).toInt32) = ((x2 + (1 : Int64)).toInt32)) ?_
      refine go_iconst K X605 (1 : Int32) d9_86 rfl rfl ?_
      refine go_goto K X605 d9_87 (by decide) rfl ?_
      refine go_istore K X605 #[.val (.ref a1), .val (.int (2 : Int32)), .val (.int (4 : Int32)), .val (.ref a4), .val (.ref a5), .val (.ref a6), .val (.int (1 : Int32))] d9_91 rfl rfl ?_
      refine go_iload K X605 d9_93 rfl rfl ?_
      refine go_retZ K X605 (Or.inr rfl) d9_95 (by decide) (by decide) ?_
      rw [e605]
      exact ⟨rfl, rfl⟩
  · intro (hc603 : t2 = (0 : Int32))
    refine go_iload K X0 d9_21 rfl rfl ?_
    refine go_ifF K X0 d9_23 rfl (by decide : ¬ (1 : Int32) = (0 : Int32)) ?_
    refine go_aloadN K X0 d9_26 rfl rfl rfl ?_
    refine go_aload K X0 d9_27 rfl rfl rfl ?_
    refine go_iloadN K X0 d9_29 rfl rfl ?_
    refine go_iaload K X0 e0 H4 (i := 2) rfl rfl d9_30 rfl ?_
    obtain ⟨j1, k1, l1⟩ := H6 (by simpa using hc603)
    refine go_virt K X0 (a := a1) (argsL := [(.int r2)]) (stk := []) (wd hw 57 rfl) (wd hw 58 rfl) (wd hw 60 rfl) (wd hw 60 rfl) (wd hw 59 rfl) (wd hw 61 rfl) (wd hw 14 rfl) (by decide) (lenOf pd_3 rfl) e0 H0 (rmFirst hw a1 r2 b vs j1 (x2.toInt32) h0 H1 H2 k1 l1) rfl rfl d9_31 rfl (by decide) (W := 0) (Nat.le_of_eq rfl) (by decide) (cells' := 0) (slots' := 0) rfl rfl (by decide) (by decide) ?_
    rintro T606 h606 _ X606 e606 ⟨rfl, qe606⟩
    show Go _ _ _ _ _ _ _ (T606.setTop (mkF m 34 #[.val (.ref a1), .val (.int (2 : Int32)), .val (.int (4 : Int32)), .val (.ref a4), .val (.ref a5), .val (.ref a6), .val (.int (1 : Int32))] [(.int (x2.toInt32))]))
    replace e606 := e606.trans qe606
    refine go_aloadN K X606 d9_34 rfl rfl rfl ?_
    refine go_iloadN K X606 d9_35 rfl rfl ?_
    refine go_laload K X606 e606 H3 (i := 2) rfl rfl d9_36 rfl ?_
    refine go_l2i K X606 d9_37 rfl ?_
    refine go_icmpF K X606 d9_38 rfl (rfl : (x2.toInt32) = (x2.toInt32)) ?_
    refine go_iconst K X606 (1 : Int32) d9_41 rfl rfl ?_
    refine go_goto K X606 d9_42 (by decide) rfl ?_
    refine go_istore K X606 #[.val (.ref a1), .val (.int (2 : Int32)), .val (.int (4 : Int32)), .val (.ref a4), .val (.ref a5), .val (.ref a6), .val (.int (1 : Int32))] d9_46 rfl rfl ?_
    refine go_iloadN K X606 d9_48 rfl rfl ?_
    refine go_iloadN K X606 d9_49 rfl rfl ?_
    refine go_iconst K X606 (1 : Int32) d9_50 rfl rfl ?_
    refine go_isub K X606 d9_51 rfl ?_
    rw [show ((4 : Int32) - (1 : Int32)) = (3 : Int32) from by decide]
    refine go_icmpF K X606 d9_52 rfl (by decide : ¬ (2 : Int32) = (3 : Int32)) ?_
    refine go_aload K X606 d9_55 rfl rfl rfl ?_
    refine go_iloadN K X606 d9_57 rfl rfl ?_
    refine go_iconst K X606 (1 : Int32) d9_58 rfl rfl ?_
    refine go_iadd K X606 d9_59 rfl ?_
    rw [show ((2 : Int32) + (1 : Int32)) = (3 : Int32) from by decide]
    refine go_baloadZ K X606 e606 H5 (i := 3) rfl rfl d9_60 rfl ?_
    refine go_if K X606 d9_61 (by decide) rfl rfl ?_ ?_
    · intro (hc607 : ¬ t3 = (0 : Int32))
      refine go_iload K X606 d9_93 rfl rfl ?_
      refine go_retZ K X606 (Or.inr rfl) d9_95 (by decide) (by decide) ?_
      rw [e606]
      exact ⟨rfl, rfl⟩
    · intro (hc607 : t3 = (0 : Int32))
      refine go_iload K X606 d9_64 rfl rfl ?_
      refine go_ifF K X606 d9_66 rfl (by decide : ¬ (1 : Int32) = (0 : Int32)) ?_
      refine go_aloadN K X606 d9_69 rfl rfl rfl ?_
      refine go_aload K X606 d9_70 rfl rfl rfl ?_
      refine go_iloadN K X606 d9_72 rfl rfl ?_
      refine go_iaload K X606 e606 H4 (i := 2) rfl rfl d9_73 rfl ?_
      obtain ⟨j2, k2, l2⟩ := H7 (by simpa using hc607)
      refine go_virt K X606 (a := a1) (argsL := [(.int r2)]) (stk := []) (wd hw 62 rfl) (wd hw 63 rfl) (wd hw 65 rfl) (wd hw 65 rfl) (wd hw 64 rfl) (wd hw 66 rfl) (wd hw 14 rfl) (by decide) (lenOf pd_3 rfl) e606 H0 (rmEnd hw a1 r2 b vs j2 ((x2 + (1 : Int64)).toInt32) h0 H1 H2 k2 l2) rfl rfl d9_74 rfl (by decide) (W := 0) (Nat.le_of_eq rfl) (by decide) (cells' := 0) (slots' := 0) rfl rfl (by decide) (by decide) ?_
      rintro T608 h608 _ X608 e608 ⟨rfl, qe608⟩
      show Go _ _ _ _ _ _ _ (T608.setTop (mkF m 77 #[.val (.ref a1), .val (.int (2 : Int32)), .val (.int (4 : Int32)), .val (.ref a4), .val (.ref a5), .val (.ref a6), .val (.int (1 : Int32))] [(.int ((x2 + (1 : Int64)).toInt32))]))
      replace e608 := e608.trans qe608
      refine go_aloadN K X608 d9_77 rfl rfl rfl ?_
      refine go_iloadN K X608 d9_78 rfl rfl ?_
      refine go_laload K X608 e608 H3 (i := 2) rfl rfl d9_79 rfl ?_
      refine go_lconst K X608 (1 : Int64) d9_80 rfl rfl ?_
      refine go_ladd K X608 d9_81 rfl ?_
      refine go_l2i K X608 d9_82 rfl ?_
      refine go_icmpF K X608 d9_83 rfl (rfl : ((x2 + (1 : Int64)).toInt32) = ((x2 + (1 : Int64)).toInt32)) ?_
      refine go_iconst K X608 (1 : Int32) d9_86 rfl rfl ?_
      refine go_goto K X608 d9_87 (by decide) rfl ?_
      refine go_istore K X608 #[.val (.ref a1), .val (.int (2 : Int32)), .val (.int (4 : Int32)), .val (.ref a4), .val (.ref a5), .val (.ref a6), .val (.int (1 : Int32))] d9_91 rfl rfl ?_
      refine go_iload K X608 d9_93 rfl rfl ?_
      refine go_retZ K X608 (Or.inr rfl) d9_95 (by decide) (by decide) ?_
      rw [e608]
      exact ⟨rfl, rfl⟩
theorem ef_rmChk4_3 (m : MethodId) (a1 : Addr) (a4 : Addr) (a5 : Addr) (a6 : Addr) : entryFrame m #[(.ref a1), (.int (3 : Int32)), (.int (4 : Int32)), (.ref a4), (.ref a5), (.ref a6)] 7 = mkF m 0 #[.val (.ref a1), .val (.int (3 : Int32)), .val (.int (4 : Int32)), .val (.ref a4), .val (.ref a5), .val (.ref a6), .unset] [] := by first | (simp [entryFrame, mkF, argsToLocals, Value.category]; done) | rfl
def Q_rmChk4_3 (Z : State) (n0 : Nat) (a1 : Addr) (a4 : Addr) (a5 : Addr) (a6 : Addr) (x0 : Int64) (x1 : Int64) (x2 : Int64) (x3 : Int64) (r1 : Int32) (r2 : Int32) (r3 : Int32) (t1 : Int32) (t2 : Int32) (t3 : Int32) (b : Addr) (vs : List Value) (h0 : Heap) (v : Option Value) (h : Heap) : Prop := v = some (.int (1 : Int32)) ∧ h = h0
abbrev R_rmChk4_3 : Room := { frames := 1, cells := 0, slots := 0, locals := 13 }
set_option maxRecDepth 65536 in
set_option maxHeartbeats 40000000 in
theorem rmChk4_3 {l : Launch} {Z : State} {n0 : Nat} {a0 : Array Value} (hw : ∀ d ∈ tables_1, d.before a0 Z = true) (a1 : Addr) (a4 : Addr) (a5 : Addr) (a6 : Addr) (x0 : Int64) (x1 : Int64) (x2 : Int64) (x3 : Int64) (r1 : Int32) (r2 : Int32) (r3 : Int32) (t1 : Int32) (t2 : Int32) (t3 : Int32) (b : Addr) (vs : List Value) (h0 : Heap) (H0 : Exa Z h0 a1 "com/example/divided_duty/dividedduty/policy/Ranges") (H1 : Fld Z h0 a1 "com/example/divided_duty/dividedduty/policy/Ranges" "bounds" "[I" (.ref b)) (H2 : AV Z h0 b .int vs) (H3 : AV Z h0 a4 .long [(.long x0), (.long x1), (.long x2), (.long x3)]) (H4 : AV Z h0 a5 .int [(.int (0 : Int32)), (.int r1), (.int r2), (.int r3)]) (H5 : AV Z h0 a6 .boolean [(.int (0 : Int32)), (.int t1), (.int t2), (.int t3)]) (H6 : t3 = 0 → ∃ j : Nat, ((2 : Int32) * r3).toInt = (j : Int) ∧ vs[j]? = some (.int (x3.toInt32))) (H7 : ∃ j : Nat, (((2 : Int32) * r3) + (1 : Int32)).toInt = (j : Int) ∧ vs[j]? = some (.int ((x3 + (1 : Int64)).toInt32))) :
    Con l Z n0 (⟨"com/example/divided_duty/dividedduty/policy/RangesOfSortedPinLaw", "check", "(Lcom/example/divided_duty/dividedduty/policy/Ranges;II[J[I[Z)Z"⟩ : MethodName) method_4_code 7 (some .boolean) R_rmChk4_3 #[(.ref a1), (.int (3 : Int32)), (.int (4 : Int32)), (.ref a4), (.ref a5), (.ref a6)] h0 (Q_rmChk4_3 Z n0 a1 a4 a5 a6 x0 x1 x2 x3 r1 r2 r3 t1 t2 t3 b vs h0) := by
  refine con_of (plainFor_of_name pn_com_example_divided_duty_dividedduty_policy_RangesOfSortedPinLaw) ?_
  intro p e s m below meth c T0 K X0 e0
  replace K : Ctx p s m meth c Z "com/example/divided_duty/dividedduty/policy/RangesOfSortedPinLaw" "check" method_4_code 7 (some .boolean) := K
  refine go_entry (ef_rmChk4_3 m a1 a4 a5 a6) ?_
  refine go_iloadN K X0 d9_0 rfl rfl ?_
  refine go_iloadN K X0 d9_1 rfl rfl ?_
  refine go_icmpT K X0 d9_2 (by decide) rfl (by decide : (3 : Int32) < (4 : Int32)) ?_
  refine go_iconst K X0 (1 : Int32) d9_7 rfl rfl ?_
  refine go_istore K X0 #[.val (.ref a1), .val (.int (3 : Int32)), .val (.int (4 : Int32)), .val (.ref a4), .val (.ref a5), .val (.ref a6), .val (.int (1 : Int32))] d9_8 rfl rfl ?_
  refine go_iloadN K X0 d9_10 rfl rfl ?_
  refine go_ifF K X0 d9_11 rfl (by decide : ¬ (3 : Int32) = (0 : Int32)) ?_
  refine go_aload K X0 d9_14 rfl rfl rfl ?_
  refine go_iloadN K X0 d9_16 rfl rfl ?_
  refine go_baloadZ K X0 e0 H5 (i := 3) rfl rfl d9_17 rfl ?_
  refine go_if K X0 d9_18 (by decide) rfl rfl ?_ ?_
  · intro (hc609 : ¬ t3 = (0 : Int32))
    refine go_iloadN K X0 d9_48 rfl rfl ?_
    refine go_iloadN K X0 d9_49 rfl rfl ?_
    refine go_iconst K X0 (1 : Int32) d9_50 rfl rfl ?_
    refine go_isub K X0 d9_51 rfl ?_
    rw [show ((4 : Int32) - (1 : Int32)) = (3 : Int32) from by decide]
    refine go_icmpT K X0 d9_52 (by decide) rfl (by decide : (3 : Int32) = (3 : Int32)) ?_
    refine go_iload K X0 d9_64 rfl rfl ?_
    refine go_ifF K X0 d9_66 rfl (by decide : ¬ (1 : Int32) = (0 : Int32)) ?_
    refine go_aloadN K X0 d9_69 rfl rfl rfl ?_
    refine go_aload K X0 d9_70 rfl rfl rfl ?_
    refine go_iloadN K X0 d9_72 rfl rfl ?_
    refine go_iaload K X0 e0 H4 (i := 3) rfl rfl d9_73 rfl ?_
    obtain ⟨j2, k2, l2⟩ := H7
    refine go_virt K X0 (a := a1) (argsL := [(.int r3)]) (stk := []) (wd hw 62 rfl) (wd hw 63 rfl) (wd hw 65 rfl) (wd hw 65 rfl) (wd hw 64 rfl) (wd hw 66 rfl) (wd hw 14 rfl) (by decide) (lenOf pd_3 rfl) e0 H0 (rmEnd hw a1 r3 b vs j2 ((x3 + (1 : Int64)).toInt32) h0 H1 H2 k2 l2) rfl rfl d9_74 rfl (by decide) (W := 0) (Nat.le_of_eq rfl) (by decide) (cells' := 0) (slots' := 0) rfl rfl (by decide) (by decide) ?_
    rintro T610 h610 _ X610 e610 ⟨rfl, qe610⟩
    show Go _ _ _ _ _ _ _ (T610.setTop (mkF m 77 #[.val (.ref a1), .val (.int (3 : Int32)), .val (.int (4 : Int32)), .val (.ref a4), .val (.ref a5), .val (.ref a6), .val (.int (1 : Int32))] [(.int ((x3 + (1 : Int64)).toInt32))]))
    replace e610 := e610.trans qe610
    refine go_aloadN K X610 d9_77 rfl rfl rfl ?_
    refine go_iloadN K X610 d9_78 rfl rfl ?_
    refine go_laload K X610 e610 H3 (i := 3) rfl rfl d9_79 rfl ?_
    refine go_lconst K X610 (1 : Int64) d9_80 rfl rfl ?_
    refine go_ladd K X610 d9_81 rfl ?_
    refine go_l2i K X610 d9_82 rfl ?_
    refine go_icmpF K X610 d9_83 rfl (rfl : ((x3 + (1 : Int64)).toInt32) = ((x3 + (1 : Int64)).toInt32)) ?_
    refine go_iconst K X610 (1 : Int32) d9_86 rfl rfl ?_
    refine go_goto K X610 d9_87 (by decide) rfl ?_
    refine go_istore K X610 #[.val (.ref a1), .val (.int (3 : Int32)), .val (.int (4 : Int32)), .val (.ref a4), .val (.ref a5), .val (.ref a6), .val (.int (1 : Int32))] d9_91 rfl rfl ?_
    refine go_iload K X610 d9_93 rfl rfl ?_
    refine go_retZ K X610 (Or.inr rfl) d9_95 (by decide) (by decide) ?_
    rw [e610]
    exact ⟨rfl, rfl⟩
  · intro (hc609 : t3 = (0 : Int32))
    refine go_iload K X0 d9_21 rfl rfl ?_
    refine go_ifF K X0 d9_23 rfl (by decide : ¬ (1 : Int32) = (0 : Int32)) ?_
    refine go_aloadN K X0 d9_26 rfl rfl rfl ?_
    refine go_aload K X0 d9_27 rfl rfl rfl ?_
    refine go_iloadN K X0 d9_29 rfl rfl ?_
    refine go_iaload K X0 e0 H4 (i := 3) rfl rfl d9_30 rfl ?_
    obtain ⟨j1, k1, l1⟩ := H6 (by simpa using hc609)
    refine go_virt K X0 (a := a1) (argsL := [(.int r3)]) (stk := []) (wd hw 57 rfl) (wd hw 58 rfl) (wd hw 60 rfl) (wd hw 60 rfl) (wd hw 59 rfl) (wd hw 61 rfl) (wd hw 14 rfl) (by decide) (lenOf pd_3 rfl) e0 H0 (rmFirst hw a1 r3 b vs j1 (x3.toInt32) h0 H1 H2 k1 l1) rfl rfl d9_31 rfl (by decide) (W := 0) (Nat.le_of_eq rfl) (by decide) (cells' := 0) (slots' := 0) rfl rfl (by decide) (by decide) ?_
    rintro T611 h611 _ X611 e611 ⟨rfl, qe611⟩
    show Go _ _ _ _ _ _ _ (T611.setTop (mkF m 34 #[.val (.ref a1), .val (.int (3 : Int32)), .val (.int (4 : Int32)), .val (.ref a4), .val (.ref a5), .val (.ref a6), .val (.int (1 : Int32))] [(.int (x3.toInt32))]))
    replace e611 := e611.trans qe611
    refine go_aloadN K X611 d9_34 rfl rfl rfl ?_
    refine go_iloadN K X611 d9_35 rfl rfl ?_
    refine go_laload K X611 e611 H3 (i := 3) rfl rfl d9_36 rfl ?_
    refine go_l2i K X611 d9_37 rfl ?_
    refine go_icmpF K X611 d9_38 rfl (rfl : (x3.toInt32) = (x3.toInt32)) ?_
    refine go_iconst K X611 (1 : Int32) d9_41 rfl rfl ?_
    refine go_goto K X611 d9_42 (by decide) rfl ?_
    refine go_istore K X611 #[.val (.ref a1), .val (.int (3 : Int32)), .val (.int (4 : Int32)), .val (.ref a4), .val (.ref a5), .val (.ref a6), .val (.int (1 : Int32))] d9_46 rfl rfl ?_
    refine go_iloadN K X611 d9_48 rfl rfl ?_
    refine go_iloadN K X611 d9_49 rfl rfl ?_
    refine go_iconst K X611 (1 : Int32) d9_50 rfl rfl ?_
    refine go_isub K X611 d9_51 rfl ?_
    rw [show ((4 : Int32) - (1 : Int32)) = (3 : Int32) from by decide]
    refine go_icmpT K X611 d9_52 (by decide) rfl (by decide : (3 : Int32) = (3 : Int32)) ?_
    refine go_iload K X611 d9_64 rfl rfl ?_
    refine go_ifF K X611 d9_66 rfl (by decide : ¬ (1 : Int32) = (0 : Int32)) ?_
    refine go_aloadN K X611 d9_69 rfl rfl rfl ?_
    refine go_aload K X611 d9_70 rfl rfl rfl ?_
    refine go_iloadN K X611 d9_72 rfl rfl ?_
    refine go_iaload K X611 e611 H4 (i := 3) rfl rfl d9_73 rfl ?_
    obtain ⟨j2, k2, l2⟩ := H7
    refine go_virt K X611 (a := a1) (argsL := [(.int r3)]) (stk := []) (wd hw 62 rfl) (wd hw 63 rfl) (wd hw 65 rfl) (wd hw 65 rfl) (wd hw 64 rfl) (wd hw 66 rfl) (wd hw 14 rfl) (by decide) (lenOf pd_3 rfl) e611 H0 (rmEnd hw a1 r3 b vs j2 ((x3 + (1 : Int64)).toInt32) h0 H1 H2 k2 l2) rfl rfl d9_74 rfl (by decide) (W := 0) (Nat.le_of_eq rfl) (by decide) (cells' := 0) (slots' := 0) rfl rfl (by decide) (by decide) ?_
    rintro T612 h612 _ X612 e612 ⟨rfl, qe612⟩
    show Go _ _ _ _ _ _ _ (T612.setTop (mkF m 77 #[.val (.ref a1), .val (.int (3 : Int32)), .val (.int (4 : Int32)), .val (.ref a4), .val (.ref a5), .val (.ref a6), .val (.int (1 : Int32))] [(.int ((x3 + (1 : Int64)).toInt32))]))
    replace e612 := e612.trans qe612
    refine go_aloadN K X612 d9_77 rfl rfl rfl ?_
    refine go_iloadN K X612 d9_78 rfl rfl ?_
    refine go_laload K X612 e612 H3 (i := 3) rfl rfl d9_79 rfl ?_
    refine go_lconst K X612 (1 : Int64) d9_80 rfl rfl ?_
    refine go_ladd K X612 d9_81 rfl ?_
    refine go_l2i K X612 d9_82 rfl ?_
    refine go_icmpF K X612 d9_83 rfl (rfl : ((x3 + (1 : Int64)).toInt32) = ((x3 + (1 : Int64)).toInt32)) ?_
    refine go_iconst K X612 (1 : Int32) d9_86 rfl rfl ?_
    refine go_goto K X612 d9_87 (by decide) rfl ?_
    refine go_istore K X612 #[.val (.ref a1), .val (.int (3 : Int32)), .val (.int (4 : Int32)), .val (.ref a4), .val (.ref a5), .val (.ref a6), .val (.int (1 : Int32))] d9_91 rfl rfl ?_
    refine go_iload K X612 d9_93 rfl rfl ?_
    refine go_retZ K X612 (Or.inr rfl) d9_95 (by decide) (by decide) ?_
    rw [e612]
    exact ⟨rfl, rfl⟩
theorem pd_4 : parseMethodDescriptor "(I)J" = some ⟨[.int], some .long⟩ := by decide +kernel
theorem pd_5 : parseMethodDescriptor "(I[J)[I" = some ⟨[.int, (.array .long)], some (.array .int)⟩ := by decide +kernel
theorem pd_6 : parseMethodDescriptor "([I)Lcom/example/divided_duty/dividedduty/policy/Ranges;" = some ⟨[(.array .int)], some (.object "com/example/divided_duty/dividedduty/policy/Ranges")⟩ := by decide +kernel
theorem pd_7 : parseMethodDescriptor "()I" = some ⟨[], some .int⟩ := by decide +kernel
theorem pd_8 : parseMethodDescriptor "(Lcom/example/divided_duty/dividedduty/policy/Ranges;II[J[I[Z)Z" = some ⟨[(.object "com/example/divided_duty/dividedduty/policy/Ranges"), .int, .int, (.array .long), (.array .int), (.array .boolean)], some .boolean⟩ := by decide +kernel
theorem ef_rmLaw (m : MethodId) (p1 : Int32) (p2 : Int32) (p3 : Int32) (p4 : Int32) (p5 : Int32) : entryFrame m #[(.int p1), (.int p2), (.int p3), (.int p4), (.int p5)] maxLocals = mkF m 0 #[.val (.int p1), .val (.int p2), .val (.int p3), .val (.int p4), .val (.int p5), .unset, .unset, .unset, .unset, .unset, .unset, .unset, .unset, .unset, .unset, .unset, .unset, .unset, .unset, .unset, .unset, .unset, .unset, .unset, .unset] [] := by first | (simp [entryFrame, mkF, argsToLocals, Value.category, maxLocals]; done) | rfl
def Q_rmLaw (Z : State) (n0 : Nat) (p1 : Int32) (p2 : Int32) (p3 : Int32) (p4 : Int32) (p5 : Int32) (h0 : Heap) (v : Option Value) (h : Heap) : Prop := v = some (.int (1 : Int32)) ∧ Keep h0 h []
set_option maxRecDepth 65536 in
set_option maxHeartbeats 40000000 in
theorem rmLaw {l : Launch} {Z : State} {n0 : Nat} {a0 : Array Value} (hw : ∀ d ∈ tables_1, d.before a0 Z = true) (p1 : Int32) (p2 : Int32) (p3 : Int32) (p4 : Int32) (p5 : Int32) (h0 : Heap) (H0 : n0 ≤ h0.size) :
    Con l Z n0 x code maxLocals ret room_1 #[(.int p1), (.int p2), (.int p3), (.int p4), (.int p5)] h0 (Q_rmLaw Z n0 p1 p2 p3 p4 p5 h0) := by
  refine con_of (plainFor_of_name pn_com_example_divided_duty_dividedduty_policy_RangesOfSortedPinLaw) ?_
  intro p e s m below meth c T0 K X0 e0
  replace K : Ctx p s m meth c Z "com/example/divided_duty/dividedduty/policy/RangesOfSortedPinLaw" "law" code maxLocals (some .boolean) := K
  refine go_entry (ef_rmLaw m p1 p2 p3 p4 p5) ?_
  refine go_iload K X0 at_0 rfl rfl ?_
  refine go_ldcI K X0 (wd hw 0 rfl) at_2 rfl ?_
  refine go_iand K X0 at_4 rfl ?_
  refine go_iconst K X0 (5 : Int32) at_5 rfl rfl ?_
  refine go_irem K X0 at_6 (by decide) rfl ?_
  generalize h_n : ((p5 &&& (2147483647 : Int32)) % (5 : Int32)) = n
  refine go_istore K X0 #[.val (.int p1), .val (.int p2), .val (.int p3), .val (.int p4), .val (.int p5), .val (.int n), .unset, .unset, .unset, .unset, .unset, .unset, .unset, .unset, .unset, .unset, .unset, .unset, .unset, .unset, .unset, .unset, .unset, .unset, .unset] at_7 rfl rfl ?_
  refine go_iloadN K X0 at_9 rfl rfl ?_
  refine go_i2l K X0 at_10 rfl ?_
  generalize h_x0 : (p1.toInt64) = x0
  refine go_lstore K X0 #[.val (.int p1), .val (.int p2), .val (.int p3), .val (.int p4), .val (.int p5), .val (.int n), .val (.long x0), .second, .unset, .unset, .unset, .unset, .unset, .unset, .unset, .unset, .unset, .unset, .unset, .unset, .unset, .unset, .unset, .unset, .unset] at_11 rfl rfl ?_
  refine go_lload K X0 at_13 rfl rfl ?_
  refine go_iloadN K X0 at_15 rfl rfl ?_
  refine go_static K X0 (argsL := [(.int p2)]) (stk := [(.long x0)]) (wd hw 1 rfl) (wd hw 2 rfl) (wd hw 3 rfl) (wd hw 4 rfl) (by decide) (lenOf pd_4 rfl) e0 (rmGap hw p2 h0 ) rfl rfl at_16 rfl (by decide) (W := 2) (Nat.le_of_eq rfl) (by decide) (cells' := 0) (slots' := 0) rfl rfl (by decide) (by decide) ?_
  rintro T613 h613 _ X613 e613 ⟨rfl, qe613⟩
  show Go _ _ _ _ _ _ _ (T613.setTop (mkF m 19 #[.val (.int p1), .val (.int p2), .val (.int p3), .val (.int p4), .val (.int p5), .val (.int n), .val (.long x0), .second, .unset, .unset, .unset, .unset, .unset, .unset, .unset, .unset, .unset, .unset, .unset, .unset, .unset, .unset, .unset, .unset, .unset] [(.long (own_gap p2)), (.long x0)]))
  replace e613 := e613.trans qe613
  refine go_ladd K X613 at_19 rfl ?_
  generalize h_x1 : (x0 + (own_gap p2)) = x1
  refine go_lstore K X613 #[.val (.int p1), .val (.int p2), .val (.int p3), .val (.int p4), .val (.int p5), .val (.int n), .val (.long x0), .second, .val (.long x1), .second, .unset, .unset, .unset, .unset, .unset, .unset, .unset, .unset, .unset, .unset, .unset, .unset, .unset, .unset, .unset] at_20 rfl rfl ?_
  refine go_lload K X613 at_22 rfl rfl ?_
  refine go_iloadN K X613 at_24 rfl rfl ?_
  refine go_static K X613 (argsL := [(.int p3)]) (stk := [(.long x1)]) (wd hw 1 rfl) (wd hw 2 rfl) (wd hw 3 rfl) (wd hw 4 rfl) (by decide) (lenOf pd_4 rfl) e613 (rmGap hw p3 h0 ) rfl rfl at_25 rfl (by decide) (W := 2) (Nat.le_of_eq rfl) (by decide) (cells' := 0) (slots' := 0) rfl rfl (by decide) (by decide) ?_
  rintro T614 h614 _ X614 e614 ⟨rfl, qe614⟩
  show Go _ _ _ _ _ _ _ (T614.setTop (mkF m 28 #[.val (.int p1), .val (.int p2), .val (.int p3), .val (.int p4), .val (.int p5), .val (.int n), .val (.long x0), .second, .val (.long x1), .second, .unset, .unset, .unset, .unset, .unset, .unset, .unset, .unset, .unset, .unset, .unset, .unset, .unset, .unset, .unset] [(.long (own_gap p3)), (.long x1)]))
  replace e614 := e614.trans qe614
  refine go_ladd K X614 at_28 rfl ?_
  generalize h_x2 : (x1 + (own_gap p3)) = x2
  refine go_lstore K X614 #[.val (.int p1), .val (.int p2), .val (.int p3), .val (.int p4), .val (.int p5), .val (.int n), .val (.long x0), .second, .val (.long x1), .second, .val (.long x2), .second, .unset, .unset, .unset, .unset, .unset, .unset, .unset, .unset, .unset, .unset, .unset, .unset, .unset] at_29 rfl rfl ?_
  refine go_lload K X614 at_31 rfl rfl ?_
  refine go_iloadN K X614 at_33 rfl rfl ?_
  refine go_static K X614 (argsL := [(.int p4)]) (stk := [(.long x2)]) (wd hw 1 rfl) (wd hw 2 rfl) (wd hw 3 rfl) (wd hw 4 rfl) (by decide) (lenOf pd_4 rfl) e614 (rmGap hw p4 h0 ) rfl rfl at_34 rfl (by decide) (W := 2) (Nat.le_of_eq rfl) (by decide) (cells' := 0) (slots' := 0) rfl rfl (by decide) (by decide) ?_
  rintro T615 h615 _ X615 e615 ⟨rfl, qe615⟩
  show Go _ _ _ _ _ _ _ (T615.setTop (mkF m 37 #[.val (.int p1), .val (.int p2), .val (.int p3), .val (.int p4), .val (.int p5), .val (.int n), .val (.long x0), .second, .val (.long x1), .second, .val (.long x2), .second, .unset, .unset, .unset, .unset, .unset, .unset, .unset, .unset, .unset, .unset, .unset, .unset, .unset] [(.long (own_gap p4)), (.long x2)]))
  replace e615 := e615.trans qe615
  refine go_ladd K X615 at_37 rfl ?_
  generalize h_x3 : (x2 + (own_gap p4)) = x3
  refine go_lstore K X615 #[.val (.int p1), .val (.int p2), .val (.int p3), .val (.int p4), .val (.int p5), .val (.int n), .val (.long x0), .second, .val (.long x1), .second, .val (.long x2), .second, .val (.long x3), .second, .unset, .unset, .unset, .unset, .unset, .unset, .unset, .unset, .unset, .unset, .unset] at_38 rfl rfl ?_
  refine go_iconst K X615 (4 : Int32) at_40 rfl rfl ?_
  refine go_newarray K X615 (wd hw 7 rfl) e615 at_41 (i := 4) (cap := 4) rfl (by decide) (by decide) rfl (cells' := 1) (slots' := 4) rfl rfl (by decide) (by decide) ?_
  intro T616 h616 b616 g616 X616 e616 E616 A616
  have ga617 : n0 ≤ b616 := Nat.le_trans H0 (Nat.le_of_eq g616.symm)
  have gb618 : h0.size ≤ b616 := Nat.le_trans (Keep.refl h0 []).1 (Nat.le_of_eq g616.symm)
  have kp619 : Keep h0 h616 [] := (Keep.refl h0 []).trans (Keep.ext (Keep.refl _ []) E616) all0
  have f620 : AV Z h616 b616 .long [(.long (0 : Int64)), (.long (0 : Int64)), (.long (0 : Int64)), (.long (0 : Int64))] := A616
  refine go_dup K X616 at_43 rfl rfl ?_
  refine go_iconst K X616 (0 : Int32) at_44 rfl rfl ?_
  refine go_lload K X616 at_45 rfl rfl ?_
  refine go_lastore K X616 e616 f620 (i := 0) rfl (Nat.le_of_ble_eq_true rfl) ga617 at_47 rfl ?_
  intro T621 h621 X621 e621 W621 A621
  have kp622 : Keep h0 h621 [] := kp619.trans (Keep.of_wr W621) (allS (Or.inr gb618) all0)
  have f623 : AV Z h621 b616 .long [(.long x0), (.long (0 : Int64)), (.long (0 : Int64)), (.long (0 : Int64))] := A621
  refine go_dup K X621 at_48 rfl rfl ?_
  refine go_iconst K X621 (1 : Int32) at_49 rfl rfl ?_
  refine go_lload K X621 at_50 rfl rfl ?_
  refine go_lastore K X621 e621 f623 (i := 1) rfl (Nat.le_of_ble_eq_true rfl) ga617 at_52 rfl ?_
  intro T624 h624 X624 e624 W624 A624
  have kp625 : Keep h0 h624 [] := kp622.trans (Keep.of_wr W624) (allS (Or.inr gb618) all0)
  have f626 : AV Z h624 b616 .long [(.long x0), (.long x1), (.long (0 : Int64)), (.long (0 : Int64))] := A624
  refine go_dup K X624 at_53 rfl rfl ?_
  refine go_iconst K X624 (2 : Int32) at_54 rfl rfl ?_
  refine go_lload K X624 at_55 rfl rfl ?_
  refine go_lastore K X624 e624 f626 (i := 2) rfl (Nat.le_of_ble_eq_true rfl) ga617 at_57 rfl ?_
  intro T627 h627 X627 e627 W627 A627
  have kp628 : Keep h0 h627 [] := kp625.trans (Keep.of_wr W627) (allS (Or.inr gb618) all0)
  have f629 : AV Z h627 b616 .long [(.long x0), (.long x1), (.long x2), (.long (0 : Int64))] := A627
  refine go_dup K X627 at_58 rfl rfl ?_
  refine go_iconst K X627 (3 : Int32) at_59 rfl rfl ?_
  refine go_lload K X627 at_60 rfl rfl ?_
  refine go_lastore K X627 e627 f629 (i := 3) rfl (Nat.le_of_ble_eq_true rfl) ga617 at_62 rfl ?_
  intro T630 h630 X630 e630 W630 A630
  have kp631 : Keep h0 h630 [] := kp628.trans (Keep.of_wr W630) (allS (Or.inr gb618) all0)
  have f632 : AV Z h630 b616 .long [(.long x0), (.long x1), (.long x2), (.long x3)] := A630
  refine go_astore K X630 #[.val (.int p1), .val (.int p2), .val (.int p3), .val (.int p4), .val (.int p5), .val (.int n), .val (.long x0), .second, .val (.long x1), .second, .val (.long x2), .second, .val (.long x3), .second, .val (.ref b616), .unset, .unset, .unset, .unset, .unset, .unset, .unset, .unset, .unset, .unset] at_63 rfl rfl rfl ?_
  refine go_iload K X630 at_65 rfl rfl ?_
  rcases own_n5 h_n with rfl | rfl | rfl | rfl | rfl
  · skip
    refine go_ifT K X630 at_67 (by decide) rfl (by decide : ¬ (0 : Int32) < (0 : Int32)) ?_
    refine go_iload K X630 at_86 rfl rfl ?_
    refine go_aload K X630 at_88 rfl rfl rfl ?_
    refine go_static K X630 (argsL := [(.int (0 : Int32)), (.ref b616)]) (stk := []) (wd hw 8 rfl) (wd hw 9 rfl) (wd hw 3 rfl) (wd hw 10 rfl) (by decide) (lenOf pd_5 rfl) e630 (rmMake0 hw b616 x0 x1 x2 x3 h630 (Nat.le_trans (Nat.le_trans (Nat.le_trans (Nat.le_trans (Nat.le_trans H0 (Keep.ext (Keep.refl _ []) E616).1) (Keep.of_wr W621).1) (Keep.of_wr W624).1) (Keep.of_wr W627).1) (Keep.of_wr W630).1) f632) rfl rfl at_90 rfl (by decide) (W := 0) (Nat.le_of_eq rfl) (by decide) (cells' := 2) (slots' := 4) rfl rfl (by decide) (by decide) ?_
    rintro T633 h633 _ X633 e633 ⟨r634, rfl, K633, f635, f636⟩
    show Go _ _ _ _ _ _ _ (T633.setTop (mkF m 93 #[.val (.int p1), .val (.int p2), .val (.int p3), .val (.int p4), .val (.int p5), .val (.int (0 : Int32)), .val (.long x0), .second, .val (.long x1), .second, .val (.long x2), .second, .val (.long x3), .second, .val (.ref b616), .unset, .unset, .unset, .unset, .unset, .unset, .unset, .unset, .unset, .unset] [(.ref r634)]))
    have ga637 : n0 ≤ r634 := Nat.le_trans (Nat.le_trans (Nat.le_trans (Nat.le_trans (Nat.le_trans (Nat.le_trans H0 (Keep.ext (Keep.refl _ []) E616).1) (Keep.of_wr W621).1) (Keep.of_wr W624).1) (Keep.of_wr W627).1) (Keep.of_wr W630).1) f635
    have gb638 : h0.size ≤ r634 := Nat.le_trans kp631.1 f635
    have kp639 : Keep h0 h633 [] := kp631.trans K633 all0
    refine go_astore K X633 #[.val (.int p1), .val (.int p2), .val (.int p3), .val (.int p4), .val (.int p5), .val (.int (0 : Int32)), .val (.long x0), .second, .val (.long x1), .second, .val (.long x2), .second, .val (.long x3), .second, .val (.ref b616), .val (.ref r634), .unset, .unset, .unset, .unset, .unset, .unset, .unset, .unset, .unset] at_93 rfl rfl rfl ?_
    refine go_aload K X633 at_95 rfl rfl rfl ?_
    refine go_static K X633 (argsL := [(.ref r634)]) (stk := []) (wd hw 12 rfl) (wd hw 13 rfl) (wd hw 14 rfl) (wd hw 15 rfl) (by decide) (lenOf pd_6 rfl) e633 (rmOfS0 hw r634 h633 (Nat.le_trans (Nat.le_trans (Nat.le_trans (Nat.le_trans (Nat.le_trans (Nat.le_trans H0 (Keep.ext (Keep.refl _ []) E616).1) (Keep.of_wr W621).1) (Keep.of_wr W624).1) (Keep.of_wr W627).1) (Keep.of_wr W630).1) K633.1) f636) rfl rfl at_97 rfl (by decide) (W := 0) (Nat.le_of_eq rfl) (by decide) (cells' := 5) (slots' := 13) rfl rfl (by decide) (by decide) ?_
    rintro T640 h640 _ X640 e640 ⟨r641, b642, rfl, K640, f643, f644, f645, f646, f647⟩
    show Go _ _ _ _ _ _ _ (T640.setTop (mkF m 100 #[.val (.int p1), .val (.int p2), .val (.int p3), .val (.int p4), .val (.int p5), .val (.int (0 : Int32)), .val (.long x0), .second, .val (.long x1), .second, .val (.long x2), .second, .val (.long x3), .second, .val (.ref b616), .val (.ref r634), .unset, .unset, .unset, .unset, .unset, .unset, .unset, .unset, .unset] [(.ref r641)]))
    have ga648 : n0 ≤ r641 := Nat.le_trans (Nat.le_trans (Nat.le_trans (Nat.le_trans (Nat.le_trans (Nat.le_trans (Nat.le_trans H0 (Keep.ext (Keep.refl _ []) E616).1) (Keep.of_wr W621).1) (Keep.of_wr W624).1) (Keep.of_wr W627).1) (Keep.of_wr W630).1) K633.1) f643
    have gb649 : h0.size ≤ r641 := Nat.le_trans kp639.1 f643
    have ga650 : n0 ≤ b642 := Nat.le_trans (Nat.le_trans (Nat.le_trans (Nat.le_trans (Nat.le_trans (Nat.le_trans (Nat.le_trans H0 (Keep.ext (Keep.refl _ []) E616).1) (Keep.of_wr W621).1) (Keep.of_wr W624).1) (Keep.of_wr W627).1) (Keep.of_wr W630).1) K633.1) f644
    have gb651 : h0.size ≤ b642 := Nat.le_trans kp639.1 f644
    have kp652 : Keep h0 h640 [] := kp639.trans K640 all0
    refine go_astore K X640 #[.val (.int p1), .val (.int p2), .val (.int p3), .val (.int p4), .val (.int p5), .val (.int (0 : Int32)), .val (.long x0), .second, .val (.long x1), .second, .val (.long x2), .second, .val (.long x3), .second, .val (.ref b616), .val (.ref r634), .val (.ref r641), .unset, .unset, .unset, .unset, .unset, .unset, .unset, .unset] at_100 rfl rfl rfl ?_
    refine go_iload K X640 at_102 rfl rfl ?_
    refine go_ifF K X640 at_104 rfl (by decide : (0 : Int32) = (0 : Int32)) ?_
    refine go_aload K X640 at_107 rfl rfl rfl ?_
    refine go_virt K X640 (a := r641) (argsL := []) (stk := []) (wd hw 39 rfl) (wd hw 40 rfl) (wd hw 42 rfl) (wd hw 42 rfl) (wd hw 41 rfl) (wd hw 43 rfl) (wd hw 14 rfl) (by decide) (lenOf pd_7 rfl) e640 f645 (rmSize hw r641 b642 (own_runs []) h640 f646 f647) rfl rfl at_109 rfl (by decide) (W := 0) (Nat.le_of_eq rfl) (by decide) (cells' := 5) (slots' := 13) rfl rfl (by decide) (by decide) ?_
    rintro T653 h653 _ X653 e653 ⟨rfl, qe653⟩
    show Go _ _ _ _ _ _ _ (T653.setTop (mkF m 112 #[.val (.int p1), .val (.int p2), .val (.int p3), .val (.int p4), .val (.int p5), .val (.int (0 : Int32)), .val (.long x0), .second, .val (.long x1), .second, .val (.long x2), .second, .val (.long x3), .second, .val (.ref b616), .val (.ref r634), .val (.ref r641), .unset, .unset, .unset, .unset, .unset, .unset, .unset, .unset] [(.int ((own_runs []).length.toInt32 / (2 : Int32)))]))
    replace e653 := e653.trans qe653
    refine go_ifF K X653 at_112 rfl (by decide : ((own_runs []).length.toInt32 / (2 : Int32)) = (0 : Int32)) ?_
    refine go_iconst K X653 (1 : Int32) at_115 rfl rfl ?_
    refine go_goto K X653 at_116 (by decide) rfl ?_
    refine go_retZ K X653 (Or.inr rfl) at_120 (by decide) (by decide) ?_
    rw [e653]
    exact ⟨rfl, kp652⟩
  · skip
    refine go_ifF K X630 at_67 rfl (by decide : (0 : Int32) < (1 : Int32)) ?_
    refine go_aload K X630 at_70 rfl rfl rfl ?_
    refine go_iload K X630 at_72 rfl rfl ?_
    refine go_iconst K X630 (1 : Int32) at_74 rfl rfl ?_
    refine go_isub K X630 at_75 rfl ?_
    rw [show ((1 : Int32) - (1 : Int32)) = (0 : Int32) from by decide]
    refine go_laload K X630 e630 f632 (i := 0) rfl rfl at_76 rfl ?_
    refine go_ldc2J K X630 (wd hw 44 rfl) at_77 rfl ?_
    refine go_lif K X630 at_80 rfl at_81 (by decide) rfl rfl ?_ ?_
    · intro (hc654 : x0 < (2147483647 : Int64))
      refine go_iload K X630 at_86 rfl rfl ?_
      refine go_aload K X630 at_88 rfl rfl rfl ?_
      refine go_static K X630 (argsL := [(.int (1 : Int32)), (.ref b616)]) (stk := []) (wd hw 8 rfl) (wd hw 9 rfl) (wd hw 3 rfl) (wd hw 10 rfl) (by decide) (lenOf pd_5 rfl) e630 (rmMake1 hw b616 x0 x1 x2 x3 h630 (Nat.le_trans (Nat.le_trans (Nat.le_trans (Nat.le_trans (Nat.le_trans H0 (Keep.ext (Keep.refl _ []) E616).1) (Keep.of_wr W621).1) (Keep.of_wr W624).1) (Keep.of_wr W627).1) (Keep.of_wr W630).1) f632) rfl rfl at_90 rfl (by decide) (W := 0) (Nat.le_of_eq rfl) (by decide) (cells' := 2) (slots' := 5) rfl rfl (by decide) (by decide) ?_
      rintro T655 h655 _ X655 e655 ⟨r656, rfl, K655, f657, f658⟩
      show Go _ _ _ _ _ _ _ (T655.setTop (mkF m 93 #[.val (.int p1), .val (.int p2), .val (.int p3), .val (.int p4), .val (.int p5), .val (.int (1 : Int32)), .val (.long x0), .second, .val (.long x1), .second, .val (.long x2), .second, .val (.long x3), .second, .val (.ref b616), .unset, .unset, .unset, .unset, .unset, .unset, .unset, .unset, .unset, .unset] [(.ref r656)]))
      have ga659 : n0 ≤ r656 := Nat.le_trans (Nat.le_trans (Nat.le_trans (Nat.le_trans (Nat.le_trans (Nat.le_trans H0 (Keep.ext (Keep.refl _ []) E616).1) (Keep.of_wr W621).1) (Keep.of_wr W624).1) (Keep.of_wr W627).1) (Keep.of_wr W630).1) f657
      have gb660 : h0.size ≤ r656 := Nat.le_trans kp631.1 f657
      have kp661 : Keep h0 h655 [] := kp631.trans K655 all0
      refine go_astore K X655 #[.val (.int p1), .val (.int p2), .val (.int p3), .val (.int p4), .val (.int p5), .val (.int (1 : Int32)), .val (.long x0), .second, .val (.long x1), .second, .val (.long x2), .second, .val (.long x3), .second, .val (.ref b616), .val (.ref r656), .unset, .unset, .unset, .unset, .unset, .unset, .unset, .unset, .unset] at_93 rfl rfl rfl ?_
      refine go_aload K X655 at_95 rfl rfl rfl ?_
      refine go_static K X655 (argsL := [(.ref r656)]) (stk := []) (wd hw 12 rfl) (wd hw 13 rfl) (wd hw 14 rfl) (wd hw 15 rfl) (by decide) (lenOf pd_6 rfl) e655 (rmOfS1 hw r656 (x0.toInt32) h655 (Nat.le_trans (Nat.le_trans (Nat.le_trans (Nat.le_trans (Nat.le_trans (Nat.le_trans H0 (Keep.ext (Keep.refl _ []) E616).1) (Keep.of_wr W621).1) (Keep.of_wr W624).1) (Keep.of_wr W627).1) (Keep.of_wr W630).1) K655.1) f658) rfl rfl at_97 rfl (by decide) (W := 0) (Nat.le_of_eq rfl) (by decide) (cells' := 5) (slots' := 16) rfl rfl (by decide) (by decide) ?_
      rintro T662 h662 _ X662 e662 ⟨r663, b664, rfl, K662, f665, f666, f667, f668, f669⟩
      show Go _ _ _ _ _ _ _ (T662.setTop (mkF m 100 #[.val (.int p1), .val (.int p2), .val (.int p3), .val (.int p4), .val (.int p5), .val (.int (1 : Int32)), .val (.long x0), .second, .val (.long x1), .second, .val (.long x2), .second, .val (.long x3), .second, .val (.ref b616), .val (.ref r656), .unset, .unset, .unset, .unset, .unset, .unset, .unset, .unset, .unset] [(.ref r663)]))
      have ga670 : n0 ≤ r663 := Nat.le_trans (Nat.le_trans (Nat.le_trans (Nat.le_trans (Nat.le_trans (Nat.le_trans (Nat.le_trans H0 (Keep.ext (Keep.refl _ []) E616).1) (Keep.of_wr W621).1) (Keep.of_wr W624).1) (Keep.of_wr W627).1) (Keep.of_wr W630).1) K655.1) f665
      have gb671 : h0.size ≤ r663 := Nat.le_trans kp661.1 f665
      have ga672 : n0 ≤ b664 := Nat.le_trans (Nat.le_trans (Nat.le_trans (Nat.le_trans (Nat.le_trans (Nat.le_trans (Nat.le_trans H0 (Keep.ext (Keep.refl _ []) E616).1) (Keep.of_wr W621).1) (Keep.of_wr W624).1) (Keep.of_wr W627).1) (Keep.of_wr W630).1) K655.1) f666
      have gb673 : h0.size ≤ b664 := Nat.le_trans kp661.1 f666
      have kp674 : Keep h0 h662 [] := kp661.trans K662 all0
      refine go_astore K X662 #[.val (.int p1), .val (.int p2), .val (.int p3), .val (.int p4), .val (.int p5), .val (.int (1 : Int32)), .val (.long x0), .second, .val (.long x1), .second, .val (.long x2), .second, .val (.long x3), .second, .val (.ref b616), .val (.ref r656), .val (.ref r663), .unset, .unset, .unset, .unset, .unset, .unset, .unset, .unset] at_100 rfl rfl rfl ?_
      refine go_iload K X662 at_102 rfl rfl ?_
      refine go_ifT K X662 at_104 (by decide) rfl (by decide : ¬ (1 : Int32) = (0 : Int32)) ?_
      refine go_iloadN K X662 at_121 rfl rfl ?_
      refine go_iconst K X662 (1 : Int32) at_122 rfl rfl ?_
      refine go_iand K X662 at_123 rfl ?_
      refine own_cut (P := fun t1 : Int32 => t1 = if (p2 &&& (1 : Int32)) = (0 : Int32) then (1 : Int32) else (0 : Int32)) (S := fun t1 : Int32 => T662.setTop (mkF m 132 #[.val (.int p1), .val (.int p2), .val (.int p3), .val (.int p4), .val (.int p5), .val (.int (1 : Int32)), .val (.long x0), .second, .val (.long x1), .second, .val (.long x2), .second, .val (.long x3), .second, .val (.ref b616), .val (.ref r656), .val (.ref r663), .unset, .unset, .unset, .unset, .unset, .unset, .unset, .unset] [(.int t1)])) ?_ ?_
      · intro J675
        refine go_if K X662 at_124 (by decide) rfl rfl ?_ ?_
        · intro (hc676 : ¬ (p2 &&& (1 : Int32)) = (0 : Int32))
          refine go_iconst K X662 (0 : Int32) at_131 rfl rfl ?_
          exact J675 _ (if_neg hc676).symm
        · intro (hc676 : (p2 &&& (1 : Int32)) = (0 : Int32))
          refine go_iconst K X662 (1 : Int32) at_127 rfl rfl ?_
          refine go_goto K X662 at_128 (by decide) rfl ?_
          exact J675 _ (if_pos hc676).symm
      intro t1 (h_t1 : t1 = if (p2 &&& (1 : Int32)) = (0 : Int32) then (1 : Int32) else (0 : Int32))
      show Go _ _ _ _ _ _ _ (T662.setTop (mkF m 132 #[.val (.int p1), .val (.int p2), .val (.int p3), .val (.int p4), .val (.int p5), .val (.int (1 : Int32)), .val (.long x0), .second, .val (.long x1), .second, .val (.long x2), .second, .val (.long x3), .second, .val (.ref b616), .val (.ref r656), .val (.ref r663), .unset, .unset, .unset, .unset, .unset, .unset, .unset, .unset] [(.int t1)]))
      refine go_istore K X662 #[.val (.int p1), .val (.int p2), .val (.int p3), .val (.int p4), .val (.int p5), .val (.int (1 : Int32)), .val (.long x0), .second, .val (.long x1), .second, .val (.long x2), .second, .val (.long x3), .second, .val (.ref b616), .val (.ref r656), .val (.ref r663), .val (.int t1), .unset, .unset, .unset, .unset, .unset, .unset, .unset] at_132 rfl rfl ?_
      refine go_iloadN K X662 at_134 rfl rfl ?_
      refine go_iconst K X662 (1 : Int32) at_135 rfl rfl ?_
      refine go_iand K X662 at_136 rfl ?_
      refine own_cut (P := fun t2 : Int32 => t2 = if (p3 &&& (1 : Int32)) = (0 : Int32) then (1 : Int32) else (0 : Int32)) (S := fun t2 : Int32 => T662.setTop (mkF m 145 #[.val (.int p1), .val (.int p2), .val (.int p3), .val (.int p4), .val (.int p5), .val (.int (1 : Int32)), .val (.long x0), .second, .val (.long x1), .second, .val (.long x2), .second, .val (.long x3), .second, .val (.ref b616), .val (.ref r656), .val (.ref r663), .val (.int t1), .unset, .unset, .unset, .unset, .unset, .unset, .unset] [(.int t2)])) ?_ ?_
      · intro J677
        refine go_if K X662 at_137 (by decide) rfl rfl ?_ ?_
        · intro (hc678 : ¬ (p3 &&& (1 : Int32)) = (0 : Int32))
          refine go_iconst K X662 (0 : Int32) at_144 rfl rfl ?_
          exact J677 _ (if_neg hc678).symm
        · intro (hc678 : (p3 &&& (1 : Int32)) = (0 : Int32))
          refine go_iconst K X662 (1 : Int32) at_140 rfl rfl ?_
          refine go_goto K X662 at_141 (by decide) rfl ?_
          exact J677 _ (if_pos hc678).symm
      intro t2 (h_t2 : t2 = if (p3 &&& (1 : Int32)) = (0 : Int32) then (1 : Int32) else (0 : Int32))
      show Go _ _ _ _ _ _ _ (T662.setTop (mkF m 145 #[.val (.int p1), .val (.int p2), .val (.int p3), .val (.int p4), .val (.int p5), .val (.int (1 : Int32)), .val (.long x0), .second, .val (.long x1), .second, .val (.long x2), .second, .val (.long x3), .second, .val (.ref b616), .val (.ref r656), .val (.ref r663), .val (.int t1), .unset, .unset, .unset, .unset, .unset, .unset, .unset] [(.int t2)]))
      refine go_istore K X662 #[.val (.int p1), .val (.int p2), .val (.int p3), .val (.int p4), .val (.int p5), .val (.int (1 : Int32)), .val (.long x0), .second, .val (.long x1), .second, .val (.long x2), .second, .val (.long x3), .second, .val (.ref b616), .val (.ref r656), .val (.ref r663), .val (.int t1), .val (.int t2), .unset, .unset, .unset, .unset, .unset, .unset] at_145 rfl rfl ?_
      refine go_iloadN K X662 at_147 rfl rfl ?_
      refine go_iconst K X662 (1 : Int32) at_148 rfl rfl ?_
      refine go_iand K X662 at_149 rfl ?_
      refine own_cut (P := fun t3 : Int32 => t3 = if (p4 &&& (1 : Int32)) = (0 : Int32) then (1 : Int32) else (0 : Int32)) (S := fun t3 : Int32 => T662.setTop (mkF m 158 #[.val (.int p1), .val (.int p2), .val (.int p3), .val (.int p4), .val (.int p5), .val (.int (1 : Int32)), .val (.long x0), .second, .val (.long x1), .second, .val (.long x2), .second, .val (.long x3), .second, .val (.ref b616), .val (.ref r656), .val (.ref r663), .val (.int t1), .val (.int t2), .unset, .unset, .unset, .unset, .unset, .unset] [(.int t3)])) ?_ ?_
      · intro J679
        refine go_if K X662 at_150 (by decide) rfl rfl ?_ ?_
        · intro (hc680 : ¬ (p4 &&& (1 : Int32)) = (0 : Int32))
          refine go_iconst K X662 (0 : Int32) at_157 rfl rfl ?_
          exact J679 _ (if_neg hc680).symm
        · intro (hc680 : (p4 &&& (1 : Int32)) = (0 : Int32))
          refine go_iconst K X662 (1 : Int32) at_153 rfl rfl ?_
          refine go_goto K X662 at_154 (by decide) rfl ?_
          exact J679 _ (if_pos hc680).symm
      intro t3 (h_t3 : t3 = if (p4 &&& (1 : Int32)) = (0 : Int32) then (1 : Int32) else (0 : Int32))
      show Go _ _ _ _ _ _ _ (T662.setTop (mkF m 158 #[.val (.int p1), .val (.int p2), .val (.int p3), .val (.int p4), .val (.int p5), .val (.int (1 : Int32)), .val (.long x0), .second, .val (.long x1), .second, .val (.long x2), .second, .val (.long x3), .second, .val (.ref b616), .val (.ref r656), .val (.ref r663), .val (.int t1), .val (.int t2), .unset, .unset, .unset, .unset, .unset, .unset] [(.int t3)]))
      refine go_istore K X662 #[.val (.int p1), .val (.int p2), .val (.int p3), .val (.int p4), .val (.int p5), .val (.int (1 : Int32)), .val (.long x0), .second, .val (.long x1), .second, .val (.long x2), .second, .val (.long x3), .second, .val (.ref b616), .val (.ref r656), .val (.ref r663), .val (.int t1), .val (.int t2), .val (.int t3), .unset, .unset, .unset, .unset, .unset] at_158 rfl rfl ?_
      refine go_iconst K X662 (4 : Int32) at_160 rfl rfl ?_
      refine go_newarray K X662 (wd hw 53 rfl) e662 at_161 (i := 4) (cap := 4) rfl (by decide) (by decide) rfl (cells' := 6) (slots' := 20) rfl rfl (by decide) (by decide) ?_
      intro T681 h681 b681 g681 X681 e681 E681 A681
      have ga682 : n0 ≤ b681 := Nat.le_trans (Nat.le_trans (Nat.le_trans (Nat.le_trans (Nat.le_trans (Nat.le_trans (Nat.le_trans (Nat.le_trans H0 (Keep.ext (Keep.refl _ []) E616).1) (Keep.of_wr W621).1) (Keep.of_wr W624).1) (Keep.of_wr W627).1) (Keep.of_wr W630).1) K655.1) K662.1) (Nat.le_of_eq g681.symm)
      have gb683 : h0.size ≤ b681 := Nat.le_trans kp674.1 (Nat.le_of_eq g681.symm)
      have kp684 : Keep h0 h681 [] := kp674.trans (Keep.ext (Keep.refl _ []) E681) all0
      have f685 : AV Z h681 b681 .boolean [(.int (0 : Int32)), (.int (0 : Int32)), (.int (0 : Int32)), (.int (0 : Int32))] := A681
      refine go_dup K X681 at_163 rfl rfl ?_
      refine go_iconst K X681 (0 : Int32) at_164 rfl rfl ?_
      refine go_iconst K X681 (0 : Int32) at_165 rfl rfl ?_
      refine go_bastoreZ K X681 e681 f685 (i := 0) rfl (Nat.le_of_ble_eq_true rfl) rfl ga682 at_166 rfl ?_
      intro T686 h686 X686 e686 W686 A686
      have kp687 : Keep h0 h686 [] := kp684.trans (Keep.of_wr W686) (allS (Or.inr gb683) all0)
      have f688 : AV Z h686 b681 .boolean [(.int (0 : Int32)), (.int (0 : Int32)), (.int (0 : Int32)), (.int (0 : Int32))] := A686
      refine go_dup K X686 at_167 rfl rfl ?_
      refine go_iconst K X686 (1 : Int32) at_168 rfl rfl ?_
      refine go_iload K X686 at_169 rfl rfl ?_
      refine go_bastoreZ K X686 e686 f688 (i := 1) rfl (Nat.le_of_ble_eq_true rfl) (own_nar h_t1) ga682 at_171 rfl ?_
      intro T689 h689 X689 e689 W689 A689
      have kp690 : Keep h0 h689 [] := kp687.trans (Keep.of_wr W689) (allS (Or.inr gb683) all0)
      have f691 : AV Z h689 b681 .boolean [(.int (0 : Int32)), (.int t1), (.int (0 : Int32)), (.int (0 : Int32))] := A689
      refine go_dup K X689 at_172 rfl rfl ?_
      refine go_iconst K X689 (2 : Int32) at_173 rfl rfl ?_
      refine go_iload K X689 at_174 rfl rfl ?_
      refine go_bastoreZ K X689 e689 f691 (i := 2) rfl (Nat.le_of_ble_eq_true rfl) (own_nar h_t2) ga682 at_176 rfl ?_
      intro T692 h692 X692 e692 W692 A692
      have kp693 : Keep h0 h692 [] := kp690.trans (Keep.of_wr W692) (allS (Or.inr gb683) all0)
      have f694 : AV Z h692 b681 .boolean [(.int (0 : Int32)), (.int t1), (.int t2), (.int (0 : Int32))] := A692
      refine go_dup K X692 at_177 rfl rfl ?_
      refine go_iconst K X692 (3 : Int32) at_178 rfl rfl ?_
      refine go_iload K X692 at_179 rfl rfl ?_
      refine go_bastoreZ K X692 e692 f694 (i := 3) rfl (Nat.le_of_ble_eq_true rfl) (own_nar h_t3) ga682 at_181 rfl ?_
      intro T695 h695 X695 e695 W695 A695
      have kp696 : Keep h0 h695 [] := kp693.trans (Keep.of_wr W695) (allS (Or.inr gb683) all0)
      have f697 : AV Z h695 b681 .boolean [(.int (0 : Int32)), (.int t1), (.int t2), (.int t3)] := A695
      refine go_astore K X695 #[.val (.int p1), .val (.int p2), .val (.int p3), .val (.int p4), .val (.int p5), .val (.int (1 : Int32)), .val (.long x0), .second, .val (.long x1), .second, .val (.long x2), .second, .val (.long x3), .second, .val (.ref b616), .val (.ref r656), .val (.ref r663), .val (.int t1), .val (.int t2), .val (.int t3), .val (.ref b681), .unset, .unset, .unset, .unset] at_182 rfl rfl rfl ?_
      refine go_iload K X695 at_184 rfl rfl ?_
      refine own_cut (P := fun r1 : Int32 => r1 = if t1 = (0 : Int32) then (1 : Int32) else (0 : Int32)) (S := fun r1 : Int32 => T695.setTop (mkF m 194 #[.val (.int p1), .val (.int p2), .val (.int p3), .val (.int p4), .val (.int p5), .val (.int (1 : Int32)), .val (.long x0), .second, .val (.long x1), .second, .val (.long x2), .second, .val (.long x3), .second, .val (.ref b616), .val (.ref r656), .val (.ref r663), .val (.int t1), .val (.int t2), .val (.int t3), .val (.ref b681), .unset, .unset, .unset, .unset] [(.int r1)])) ?_ ?_
      · intro J698
        refine go_if K X695 at_186 (by decide) rfl rfl ?_ ?_
        · intro (hc699 : t1 = (0 : Int32))
          refine go_iconst K X695 (1 : Int32) at_193 rfl rfl ?_
          exact J698 _ (if_pos hc699).symm
        · intro (hc699 : ¬ t1 = (0 : Int32))
          refine go_iconst K X695 (0 : Int32) at_189 rfl rfl ?_
          refine go_goto K X695 at_190 (by decide) rfl ?_
          exact J698 _ (if_neg hc699).symm
      intro r1 (h_r1 : r1 = if t1 = (0 : Int32) then (1 : Int32) else (0 : Int32))
      show Go _ _ _ _ _ _ _ (T695.setTop (mkF m 194 #[.val (.int p1), .val (.int p2), .val (.int p3), .val (.int p4), .val (.int p5), .val (.int (1 : Int32)), .val (.long x0), .second, .val (.long x1), .second, .val (.long x2), .second, .val (.long x3), .second, .val (.ref b616), .val (.ref r656), .val (.ref r663), .val (.int t1), .val (.int t2), .val (.int t3), .val (.ref b681), .unset, .unset, .unset, .unset] [(.int r1)]))
      refine go_istore K X695 #[.val (.int p1), .val (.int p2), .val (.int p3), .val (.int p4), .val (.int p5), .val (.int (1 : Int32)), .val (.long x0), .second, .val (.long x1), .second, .val (.long x2), .second, .val (.long x3), .second, .val (.ref b616), .val (.ref r656), .val (.ref r663), .val (.int t1), .val (.int t2), .val (.int t3), .val (.ref b681), .val (.int r1), .unset, .unset, .unset] at_194 rfl rfl ?_
      refine go_iload K X695 at_196 rfl rfl ?_
      refine go_iload K X695 at_198 rfl rfl ?_
      refine own_cut (P := fun c2 : Int32 => c2 = if t2 = (0 : Int32) then (1 : Int32) else (0 : Int32)) (S := fun c2 : Int32 => T695.setTop (mkF m 208 #[.val (.int p1), .val (.int p2), .val (.int p3), .val (.int p4), .val (.int p5), .val (.int (1 : Int32)), .val (.long x0), .second, .val (.long x1), .second, .val (.long x2), .second, .val (.long x3), .second, .val (.ref b616), .val (.ref r656), .val (.ref r663), .val (.int t1), .val (.int t2), .val (.int t3), .val (.ref b681), .val (.int r1), .unset, .unset, .unset] [(.int c2), (.int r1)])) ?_ ?_
      · intro J700
        refine go_if K X695 at_200 (by decide) rfl rfl ?_ ?_
        · intro (hc701 : t2 = (0 : Int32))
          refine go_iconst K X695 (1 : Int32) at_207 rfl rfl ?_
          exact J700 _ (if_pos hc701).symm
        · intro (hc701 : ¬ t2 = (0 : Int32))
          refine go_iconst K X695 (0 : Int32) at_203 rfl rfl ?_
          refine go_goto K X695 at_204 (by decide) rfl ?_
          exact J700 _ (if_neg hc701).symm
      intro c2 (h_c2 : c2 = if t2 = (0 : Int32) then (1 : Int32) else (0 : Int32))
      show Go _ _ _ _ _ _ _ (T695.setTop (mkF m 208 #[.val (.int p1), .val (.int p2), .val (.int p3), .val (.int p4), .val (.int p5), .val (.int (1 : Int32)), .val (.long x0), .second, .val (.long x1), .second, .val (.long x2), .second, .val (.long x3), .second, .val (.ref b616), .val (.ref r656), .val (.ref r663), .val (.int t1), .val (.int t2), .val (.int t3), .val (.ref b681), .val (.int r1), .unset, .unset, .unset] [(.int c2), (.int r1)]))
      refine go_iadd K X695 at_208 rfl ?_
      generalize h_r2 : (r1 + c2) = r2
      refine go_istore K X695 #[.val (.int p1), .val (.int p2), .val (.int p3), .val (.int p4), .val (.int p5), .val (.int (1 : Int32)), .val (.long x0), .second, .val (.long x1), .second, .val (.long x2), .second, .val (.long x3), .second, .val (.ref b616), .val (.ref r656), .val (.ref r663), .val (.int t1), .val (.int t2), .val (.int t3), .val (.ref b681), .val (.int r1), .val (.int r2), .unset, .unset] at_209 rfl rfl ?_
      refine go_iload K X695 at_211 rfl rfl ?_
      refine go_iload K X695 at_213 rfl rfl ?_
      refine own_cut (P := fun c3 : Int32 => c3 = if t3 = (0 : Int32) then (1 : Int32) else (0 : Int32)) (S := fun c3 : Int32 => T695.setTop (mkF m 223 #[.val (.int p1), .val (.int p2), .val (.int p3), .val (.int p4), .val (.int p5), .val (.int (1 : Int32)), .val (.long x0), .second, .val (.long x1), .second, .val (.long x2), .second, .val (.long x3), .second, .val (.ref b616), .val (.ref r656), .val (.ref r663), .val (.int t1), .val (.int t2), .val (.int t3), .val (.ref b681), .val (.int r1), .val (.int r2), .unset, .unset] [(.int c3), (.int r2)])) ?_ ?_
      · intro J702
        refine go_if K X695 at_215 (by decide) rfl rfl ?_ ?_
        · intro (hc703 : t3 = (0 : Int32))
          refine go_iconst K X695 (1 : Int32) at_222 rfl rfl ?_
          exact J702 _ (if_pos hc703).symm
        · intro (hc703 : ¬ t3 = (0 : Int32))
          refine go_iconst K X695 (0 : Int32) at_218 rfl rfl ?_
          refine go_goto K X695 at_219 (by decide) rfl ?_
          exact J702 _ (if_neg hc703).symm
      intro c3 (h_c3 : c3 = if t3 = (0 : Int32) then (1 : Int32) else (0 : Int32))
      show Go _ _ _ _ _ _ _ (T695.setTop (mkF m 223 #[.val (.int p1), .val (.int p2), .val (.int p3), .val (.int p4), .val (.int p5), .val (.int (1 : Int32)), .val (.long x0), .second, .val (.long x1), .second, .val (.long x2), .second, .val (.long x3), .second, .val (.ref b616), .val (.ref r656), .val (.ref r663), .val (.int t1), .val (.int t2), .val (.int t3), .val (.ref b681), .val (.int r1), .val (.int r2), .unset, .unset] [(.int c3), (.int r2)]))
      refine go_iadd K X695 at_223 rfl ?_
      generalize h_r3 : (r2 + c3) = r3
      have G := own_good1 h_x0 h_x1 h_x2 h_x3 h_t1 h_t2 h_t3 h_r1 h_c2 h_r2 h_c3 h_r3 hc654
      refine go_istore K X695 #[.val (.int p1), .val (.int p2), .val (.int p3), .val (.int p4), .val (.int p5), .val (.int (1 : Int32)), .val (.long x0), .second, .val (.long x1), .second, .val (.long x2), .second, .val (.long x3), .second, .val (.ref b616), .val (.ref r656), .val (.ref r663), .val (.int t1), .val (.int t2), .val (.int t3), .val (.ref b681), .val (.int r1), .val (.int r2), .val (.int r3), .unset] at_224 rfl rfl ?_
      refine go_iconst K X695 (4 : Int32) at_226 rfl rfl ?_
      refine go_newarray K X695 (wd hw 11 rfl) e695 at_227 (i := 4) (cap := 4) rfl (by decide) (by decide) rfl (cells' := 7) (slots' := 24) rfl rfl (by decide) (by decide) ?_
      intro T704 h704 b704 g704 X704 e704 E704 A704
      have ga705 : n0 ≤ b704 := Nat.le_trans (Nat.le_trans (Nat.le_trans (Nat.le_trans (Nat.le_trans (Nat.le_trans (Nat.le_trans (Nat.le_trans (Nat.le_trans (Nat.le_trans (Nat.le_trans (Nat.le_trans (Nat.le_trans H0 (Keep.ext (Keep.refl _ []) E616).1) (Keep.of_wr W621).1) (Keep.of_wr W624).1) (Keep.of_wr W627).1) (Keep.of_wr W630).1) K655.1) K662.1) (Keep.ext (Keep.refl _ []) E681).1) (Keep.of_wr W686).1) (Keep.of_wr W689).1) (Keep.of_wr W692).1) (Keep.of_wr W695).1) (Nat.le_of_eq g704.symm)
      have gb706 : h0.size ≤ b704 := Nat.le_trans kp696.1 (Nat.le_of_eq g704.symm)
      have kp707 : Keep h0 h704 [] := kp696.trans (Keep.ext (Keep.refl _ []) E704) all0
      have f708 : AV Z h704 b704 .int [(.int (0 : Int32)), (.int (0 : Int32)), (.int (0 : Int32)), (.int (0 : Int32))] := A704
      refine go_dup K X704 at_229 rfl rfl ?_
      refine go_iconst K X704 (0 : Int32) at_230 rfl rfl ?_
      refine go_iconst K X704 (0 : Int32) at_231 rfl rfl ?_
      refine go_iastore K X704 e704 f708 (i := 0) rfl (Nat.le_of_ble_eq_true rfl) ga705 at_232 rfl ?_
      intro T709 h709 X709 e709 W709 A709
      have kp710 : Keep h0 h709 [] := kp707.trans (Keep.of_wr W709) (allS (Or.inr gb706) all0)
      have f711 : AV Z h709 b704 .int [(.int (0 : Int32)), (.int (0 : Int32)), (.int (0 : Int32)), (.int (0 : Int32))] := A709
      refine go_dup K X709 at_233 rfl rfl ?_
      refine go_iconst K X709 (1 : Int32) at_234 rfl rfl ?_
      refine go_iload K X709 at_235 rfl rfl ?_
      refine go_iastore K X709 e709 f711 (i := 1) rfl (Nat.le_of_ble_eq_true rfl) ga705 at_237 rfl ?_
      intro T712 h712 X712 e712 W712 A712
      have kp713 : Keep h0 h712 [] := kp710.trans (Keep.of_wr W712) (allS (Or.inr gb706) all0)
      have f714 : AV Z h712 b704 .int [(.int (0 : Int32)), (.int r1), (.int (0 : Int32)), (.int (0 : Int32))] := A712
      refine go_dup K X712 at_238 rfl rfl ?_
      refine go_iconst K X712 (2 : Int32) at_239 rfl rfl ?_
      refine go_iload K X712 at_240 rfl rfl ?_
      refine go_iastore K X712 e712 f714 (i := 2) rfl (Nat.le_of_ble_eq_true rfl) ga705 at_242 rfl ?_
      intro T715 h715 X715 e715 W715 A715
      have kp716 : Keep h0 h715 [] := kp713.trans (Keep.of_wr W715) (allS (Or.inr gb706) all0)
      have f717 : AV Z h715 b704 .int [(.int (0 : Int32)), (.int r1), (.int r2), (.int (0 : Int32))] := A715
      refine go_dup K X715 at_243 rfl rfl ?_
      refine go_iconst K X715 (3 : Int32) at_244 rfl rfl ?_
      refine go_iload K X715 at_245 rfl rfl ?_
      refine go_iastore K X715 e715 f717 (i := 3) rfl (Nat.le_of_ble_eq_true rfl) ga705 at_247 rfl ?_
      intro T718 h718 X718 e718 W718 A718
      have kp719 : Keep h0 h718 [] := kp716.trans (Keep.of_wr W718) (allS (Or.inr gb706) all0)
      have f720 : AV Z h718 b704 .int [(.int (0 : Int32)), (.int r1), (.int r2), (.int r3)] := A718
      refine go_astore K X718 #[.val (.int p1), .val (.int p2), .val (.int p3), .val (.int p4), .val (.int p5), .val (.int (1 : Int32)), .val (.long x0), .second, .val (.long x1), .second, .val (.long x2), .second, .val (.long x3), .second, .val (.ref b616), .val (.ref r656), .val (.ref r663), .val (.int t1), .val (.int t2), .val (.int t3), .val (.ref b681), .val (.int r1), .val (.int r2), .val (.int r3), .val (.ref b704)] at_248 rfl rfl rfl ?_
      refine go_aload K X718 at_250 rfl rfl rfl ?_
      have f721 : Fld Z h718 r663 "com/example/divided_duty/dividedduty/policy/Ranges" "bounds" "[I" (.ref b664) := ((((((((((f668.keep (Keep.ext (Keep.refl _ []) E681) nin0).keep (Keep.of_wr W686) (ninS (Nat.ne_of_lt (Nat.lt_of_lt_of_le f667.lt (Nat.le_of_eq g681.symm))) nin0)).keep (Keep.of_wr W689) (ninS (Nat.ne_of_lt (Nat.lt_of_lt_of_le f667.lt (Nat.le_of_eq g681.symm))) nin0)).keep (Keep.of_wr W692) (ninS (Nat.ne_of_lt (Nat.lt_of_lt_of_le f667.lt (Nat.le_of_eq g681.symm))) nin0)).keep (Keep.of_wr W695) (ninS (Nat.ne_of_lt (Nat.lt_of_lt_of_le f667.lt (Nat.le_of_eq g681.symm))) nin0)).keep (Keep.ext (Keep.refl _ []) E704) nin0).keep (Keep.of_wr W709) (ninS (Nat.ne_of_lt (Nat.lt_of_lt_of_le (Nat.lt_of_lt_of_le (Nat.lt_of_lt_of_le (Nat.lt_of_lt_of_le (Nat.lt_of_lt_of_le (Nat.lt_of_lt_of_le f667.lt (Keep.ext (Keep.refl _ []) E681).1) (Keep.of_wr W686).1) (Keep.of_wr W689).1) (Keep.of_wr W692).1) (Keep.of_wr W695).1) (Nat.le_of_eq g704.symm))) nin0)).keep (Keep.of_wr W712) (ninS (Nat.ne_of_lt (Nat.lt_of_lt_of_le (Nat.lt_of_lt_of_le (Nat.lt_of_lt_of_le (Nat.lt_of_lt_of_le (Nat.lt_of_lt_of_le (Nat.lt_of_lt_of_le f667.lt (Keep.ext (Keep.refl _ []) E681).1) (Keep.of_wr W686).1) (Keep.of_wr W689).1) (Keep.of_wr W692).1) (Keep.of_wr W695).1) (Nat.le_of_eq g704.symm))) nin0)).keep (Keep.of_wr W715) (ninS (Nat.ne_of_lt (Nat.lt_of_lt_of_le (Nat.lt_of_lt_of_le (Nat.lt_of_lt_of_le (Nat.lt_of_lt_of_le (Nat.lt_of_lt_of_le (Nat.lt_of_lt_of_le f667.lt (Keep.ext (Keep.refl _ []) E681).1) (Keep.of_wr W686).1) (Keep.of_wr W689).1) (Keep.of_wr W692).1) (Keep.of_wr W695).1) (Nat.le_of_eq g704.symm))) nin0)).keep (Keep.of_wr W718) (ninS (Nat.ne_of_lt (Nat.lt_of_lt_of_le (Nat.lt_of_lt_of_le (Nat.lt_of_lt_of_le (Nat.lt_of_lt_of_le (Nat.lt_of_lt_of_le (Nat.lt_of_lt_of_le f667.lt (Keep.ext (Keep.refl _ []) E681).1) (Keep.of_wr W686).1) (Keep.of_wr W689).1) (Keep.of_wr W692).1) (Keep.of_wr W695).1) (Nat.le_of_eq g704.symm))) nin0))
      have f722 : AV Z h718 b664 .int (own_runs [(x0.toInt32)]) := ((((((((((f669.keep (Keep.ext (Keep.refl _ []) E681) nin0).keep (Keep.of_wr W686) (ninS (Nat.ne_of_lt (Nat.lt_of_lt_of_le f669.lt (Nat.le_of_eq g681.symm))) nin0)).keep (Keep.of_wr W689) (ninS (Nat.ne_of_lt (Nat.lt_of_lt_of_le f669.lt (Nat.le_of_eq g681.symm))) nin0)).keep (Keep.of_wr W692) (ninS (Nat.ne_of_lt (Nat.lt_of_lt_of_le f669.lt (Nat.le_of_eq g681.symm))) nin0)).keep (Keep.of_wr W695) (ninS (Nat.ne_of_lt (Nat.lt_of_lt_of_le f669.lt (Nat.le_of_eq g681.symm))) nin0)).keep (Keep.ext (Keep.refl _ []) E704) nin0).keep (Keep.of_wr W709) (ninS (Nat.ne_of_lt (Nat.lt_of_lt_of_le (Nat.lt_of_lt_of_le (Nat.lt_of_lt_of_le (Nat.lt_of_lt_of_le (Nat.lt_of_lt_of_le (Nat.lt_of_lt_of_le f669.lt (Keep.ext (Keep.refl _ []) E681).1) (Keep.of_wr W686).1) (Keep.of_wr W689).1) (Keep.of_wr W692).1) (Keep.of_wr W695).1) (Nat.le_of_eq g704.symm))) nin0)).keep (Keep.of_wr W712) (ninS (Nat.ne_of_lt (Nat.lt_of_lt_of_le (Nat.lt_of_lt_of_le (Nat.lt_of_lt_of_le (Nat.lt_of_lt_of_le (Nat.lt_of_lt_of_le (Nat.lt_of_lt_of_le f669.lt (Keep.ext (Keep.refl _ []) E681).1) (Keep.of_wr W686).1) (Keep.of_wr W689).1) (Keep.of_wr W692).1) (Keep.of_wr W695).1) (Nat.le_of_eq g704.symm))) nin0)).keep (Keep.of_wr W715) (ninS (Nat.ne_of_lt (Nat.lt_of_lt_of_le (Nat.lt_of_lt_of_le (Nat.lt_of_lt_of_le (Nat.lt_of_lt_of_le (Nat.lt_of_lt_of_le (Nat.lt_of_lt_of_le f669.lt (Keep.ext (Keep.refl _ []) E681).1) (Keep.of_wr W686).1) (Keep.of_wr W689).1) (Keep.of_wr W692).1) (Keep.of_wr W695).1) (Nat.le_of_eq g704.symm))) nin0)).keep (Keep.of_wr W718) (ninS (Nat.ne_of_lt (Nat.lt_of_lt_of_le (Nat.lt_of_lt_of_le (Nat.lt_of_lt_of_le (Nat.lt_of_lt_of_le (Nat.lt_of_lt_of_le (Nat.lt_of_lt_of_le f669.lt (Keep.ext (Keep.refl _ []) E681).1) (Keep.of_wr W686).1) (Keep.of_wr W689).1) (Keep.of_wr W692).1) (Keep.of_wr W695).1) (Nat.le_of_eq g704.symm))) nin0))
      have f723 : Exa Z h718 r663 "com/example/divided_duty/dividedduty/policy/Ranges" := ((((((((((f667.keep (Keep.ext (Keep.refl _ []) E681)).keep (Keep.of_wr W686)).keep (Keep.of_wr W689)).keep (Keep.of_wr W692)).keep (Keep.of_wr W695)).keep (Keep.ext (Keep.refl _ []) E704)).keep (Keep.of_wr W709)).keep (Keep.of_wr W712)).keep (Keep.of_wr W715)).keep (Keep.of_wr W718))
      refine go_virt K X718 (a := r663) (argsL := []) (stk := []) (wd hw 39 rfl) (wd hw 40 rfl) (wd hw 42 rfl) (wd hw 42 rfl) (wd hw 41 rfl) (wd hw 43 rfl) (wd hw 14 rfl) (by decide) (lenOf pd_7 rfl) e718 f723 (rmSize hw r663 b664 (own_runs [(x0.toInt32)]) h718 f721 f722) rfl rfl at_252 rfl (by decide) (W := 0) (Nat.le_of_eq rfl) (by decide) (cells' := 7) (slots' := 24) rfl rfl (by decide) (by decide) ?_
      rintro T724 h724 _ X724 e724 ⟨rfl, qe724⟩
      show Go _ _ _ _ _ _ _ (T724.setTop (mkF m 255 #[.val (.int p1), .val (.int p2), .val (.int p3), .val (.int p4), .val (.int p5), .val (.int (1 : Int32)), .val (.long x0), .second, .val (.long x1), .second, .val (.long x2), .second, .val (.long x3), .second, .val (.ref b616), .val (.ref r656), .val (.ref r663), .val (.int t1), .val (.int t2), .val (.int t3), .val (.ref b681), .val (.int r1), .val (.int r2), .val (.int r3), .val (.ref b704)] [(.int ((own_runs [(x0.toInt32)]).length.toInt32 / (2 : Int32)))]))
      replace e724 := e724.trans qe724
      refine go_aload K X724 at_255 rfl rfl rfl ?_
      refine go_iload K X724 at_257 rfl rfl ?_
      refine go_iconst K X724 (1 : Int32) at_259 rfl rfl ?_
      refine go_isub K X724 at_260 rfl ?_
      rw [show ((1 : Int32) - (1 : Int32)) = (0 : Int32) from by decide]
      refine go_iaload K X724 e724 f720 (i := 0) rfl rfl at_261 rfl ?_
      refine go_iconst K X724 (1 : Int32) at_262 rfl rfl ?_
      refine go_iadd K X724 at_263 rfl ?_
      rw [show ((0 : Int32) + (1 : Int32)) = (1 : Int32) from by decide]
      refine go_icmpT K X724 at_264 (by decide) rfl (G.1 : ((own_runs [(x0.toInt32)]).length.toInt32 / (2 : Int32)) = (1 : Int32)) ?_
      refine go_aload K X724 at_269 rfl rfl rfl ?_
      refine go_iconst K X724 (0 : Int32) at_271 rfl rfl ?_
      refine go_iload K X724 at_272 rfl rfl ?_
      refine go_aload K X724 at_274 rfl rfl rfl ?_
      refine go_aload K X724 at_276 rfl rfl rfl ?_
      refine go_aload K X724 at_278 rfl rfl rfl ?_
      have f725 : AV Z h718 b616 .long [(.long x0), (.long x1), (.long x2), (.long x3)] := ((((((((((((f632.keep K655 nin0).keep K662 nin0).keep (Keep.ext (Keep.refl _ []) E681) nin0).keep (Keep.of_wr W686) (ninS (Nat.ne_of_lt (Nat.lt_of_lt_of_le (Nat.lt_of_lt_of_le (Nat.lt_of_lt_of_le (Nat.lt_of_lt_of_le (Nat.lt_of_lt_of_le (Nat.lt_of_lt_of_le (Nat.lt_of_lt_of_le f620.lt (Keep.of_wr W621).1) (Keep.of_wr W624).1) (Keep.of_wr W627).1) (Keep.of_wr W630).1) K655.1) K662.1) (Nat.le_of_eq g681.symm))) nin0)).keep (Keep.of_wr W689) (ninS (Nat.ne_of_lt (Nat.lt_of_lt_of_le (Nat.lt_of_lt_of_le (Nat.lt_of_lt_of_le (Nat.lt_of_lt_of_le (Nat.lt_of_lt_of_le (Nat.lt_of_lt_of_le (Nat.lt_of_lt_of_le f620.lt (Keep.of_wr W621).1) (Keep.of_wr W624).1) (Keep.of_wr W627).1) (Keep.of_wr W630).1) K655.1) K662.1) (Nat.le_of_eq g681.symm))) nin0)).keep (Keep.of_wr W692) (ninS (Nat.ne_of_lt (Nat.lt_of_lt_of_le (Nat.lt_of_lt_of_le (Nat.lt_of_lt_of_le (Nat.lt_of_lt_of_le (Nat.lt_of_lt_of_le (Nat.lt_of_lt_of_le (Nat.lt_of_lt_of_le f620.lt (Keep.of_wr W621).1) (Keep.of_wr W624).1) (Keep.of_wr W627).1) (Keep.of_wr W630).1) K655.1) K662.1) (Nat.le_of_eq g681.symm))) nin0)).keep (Keep.of_wr W695) (ninS (Nat.ne_of_lt (Nat.lt_of_lt_of_le (Nat.lt_of_lt_of_le (Nat.lt_of_lt_of_le (Nat.lt_of_lt_of_le (Nat.lt_of_lt_of_le (Nat.lt_of_lt_of_le (Nat.lt_of_lt_of_le f620.lt (Keep.of_wr W621).1) (Keep.of_wr W624).1) (Keep.of_wr W627).1) (Keep.of_wr W630).1) K655.1) K662.1) (Nat.le_of_eq g681.symm))) nin0)).keep (Keep.ext (Keep.refl _ []) E704) nin0).keep (Keep.of_wr W709) (ninS (Nat.ne_of_lt (Nat.lt_of_lt_of_le (Nat.lt_of_lt_of_le (Nat.lt_of_lt_of_le (Nat.lt_of_lt_of_le (Nat.lt_of_lt_of_le (Nat.lt_of_lt_of_le (Nat.lt_of_lt_of_le (Nat.lt_of_lt_of_le (Nat.lt_of_lt_of_le (Nat.lt_of_lt_of_le (Nat.lt_of_lt_of_le (Nat.lt_of_lt_of_le f620.lt (Keep.of_wr W621).1) (Keep.of_wr W624).1) (Keep.of_wr W627).1) (Keep.of_wr W630).1) K655.1) K662.1) (Keep.ext (Keep.refl _ []) E681).1) (Keep.of_wr W686).1) (Keep.of_wr W689).1) (Keep.of_wr W692).1) (Keep.of_wr W695).1) (Nat.le_of_eq g704.symm))) nin0)).keep (Keep.of_wr W712) (ninS (Nat.ne_of_lt (Nat.lt_of_lt_of_le (Nat.lt_of_lt_of_le (Nat.lt_of_lt_of_le (Nat.lt_of_lt_of_le (Nat.lt_of_lt_of_le (Nat.lt_of_lt_of_le (Nat.lt_of_lt_of_le (Nat.lt_of_lt_of_le (Nat.lt_of_lt_of_le (Nat.lt_of_lt_of_le (Nat.lt_of_lt_of_le (Nat.lt_of_lt_of_le f620.lt (Keep.of_wr W621).1) (Keep.of_wr W624).1) (Keep.of_wr W627).1) (Keep.of_wr W630).1) K655.1) K662.1) (Keep.ext (Keep.refl _ []) E681).1) (Keep.of_wr W686).1) (Keep.of_wr W689).1) (Keep.of_wr W692).1) (Keep.of_wr W695).1) (Nat.le_of_eq g704.symm))) nin0)).keep (Keep.of_wr W715) (ninS (Nat.ne_of_lt (Nat.lt_of_lt_of_le (Nat.lt_of_lt_of_le (Nat.lt_of_lt_of_le (Nat.lt_of_lt_of_le (Nat.lt_of_lt_of_le (Nat.lt_of_lt_of_le (Nat.lt_of_lt_of_le (Nat.lt_of_lt_of_le (Nat.lt_of_lt_of_le (Nat.lt_of_lt_of_le (Nat.lt_of_lt_of_le (Nat.lt_of_lt_of_le f620.lt (Keep.of_wr W621).1) (Keep.of_wr W624).1) (Keep.of_wr W627).1) (Keep.of_wr W630).1) K655.1) K662.1) (Keep.ext (Keep.refl _ []) E681).1) (Keep.of_wr W686).1) (Keep.of_wr W689).1) (Keep.of_wr W692).1) (Keep.of_wr W695).1) (Nat.le_of_eq g704.symm))) nin0)).keep (Keep.of_wr W718) (ninS (Nat.ne_of_lt (Nat.lt_of_lt_of_le (Nat.lt_of_lt_of_le (Nat.lt_of_lt_of_le (Nat.lt_of_lt_of_le (Nat.lt_of_lt_of_le (Nat.lt_of_lt_of_le (Nat.lt_of_lt_of_le (Nat.lt_of_lt_of_le (Nat.lt_of_lt_of_le (Nat.lt_of_lt_of_le (Nat.lt_of_lt_of_le (Nat.lt_of_lt_of_le f620.lt (Keep.of_wr W621).1) (Keep.of_wr W624).1) (Keep.of_wr W627).1) (Keep.of_wr W630).1) K655.1) K662.1) (Keep.ext (Keep.refl _ []) E681).1) (Keep.of_wr W686).1) (Keep.of_wr W689).1) (Keep.of_wr W692).1) (Keep.of_wr W695).1) (Nat.le_of_eq g704.symm))) nin0))
      have f726 : AV Z h718 b681 .boolean [(.int (0 : Int32)), (.int t1), (.int t2), (.int t3)] := (((((f697.keep (Keep.ext (Keep.refl _ []) E704) nin0).keep (Keep.of_wr W709) (ninS (Nat.ne_of_lt (Nat.lt_of_lt_of_le (Nat.lt_of_lt_of_le (Nat.lt_of_lt_of_le (Nat.lt_of_lt_of_le (Nat.lt_of_lt_of_le f685.lt (Keep.of_wr W686).1) (Keep.of_wr W689).1) (Keep.of_wr W692).1) (Keep.of_wr W695).1) (Nat.le_of_eq g704.symm))) nin0)).keep (Keep.of_wr W712) (ninS (Nat.ne_of_lt (Nat.lt_of_lt_of_le (Nat.lt_of_lt_of_le (Nat.lt_of_lt_of_le (Nat.lt_of_lt_of_le (Nat.lt_of_lt_of_le f685.lt (Keep.of_wr W686).1) (Keep.of_wr W689).1) (Keep.of_wr W692).1) (Keep.of_wr W695).1) (Nat.le_of_eq g704.symm))) nin0)).keep (Keep.of_wr W715) (ninS (Nat.ne_of_lt (Nat.lt_of_lt_of_le (Nat.lt_of_lt_of_le (Nat.lt_of_lt_of_le (Nat.lt_of_lt_of_le (Nat.lt_of_lt_of_le f685.lt (Keep.of_wr W686).1) (Keep.of_wr W689).1) (Keep.of_wr W692).1) (Keep.of_wr W695).1) (Nat.le_of_eq g704.symm))) nin0)).keep (Keep.of_wr W718) (ninS (Nat.ne_of_lt (Nat.lt_of_lt_of_le (Nat.lt_of_lt_of_le (Nat.lt_of_lt_of_le (Nat.lt_of_lt_of_le (Nat.lt_of_lt_of_le f685.lt (Keep.of_wr W686).1) (Keep.of_wr W689).1) (Keep.of_wr W692).1) (Keep.of_wr W695).1) (Nat.le_of_eq g704.symm))) nin0))
      refine go_static K X724 (argsL := [(.ref r663), (.int (0 : Int32)), (.int (1 : Int32)), (.ref b616), (.ref b704), (.ref b681)]) (stk := []) (wd hw 54 rfl) (wd hw 55 rfl) (wd hw 3 rfl) (wd hw 56 rfl) (by decide) (lenOf pd_8 rfl) e724 (rmChk1_0 hw r663 b616 b704 b681 x0 x1 x2 x3 r1 r2 r3 t1 t2 t3 b664 (own_runs [(x0.toInt32)]) h718 f723 f721 f722 f725 f720 f726 G.2.1 G.2.2) rfl rfl at_280 rfl (by decide) (W := 0) (Nat.le_of_eq rfl) (by decide) (cells' := 7) (slots' := 24) rfl rfl (by decide) (by decide) ?_
      rintro T727 h727 _ X727 e727 ⟨rfl, qe727⟩
      show Go _ _ _ _ _ _ _ (T727.setTop (mkF m 283 #[.val (.int p1), .val (.int p2), .val (.int p3), .val (.int p4), .val (.int p5), .val (.int (1 : Int32)), .val (.long x0), .second, .val (.long x1), .second, .val (.long x2), .second, .val (.long x3), .second, .val (.ref b616), .val (.ref r656), .val (.ref r663), .val (.int t1), .val (.int t2), .val (.int t3), .val (.ref b681), .val (.int r1), .val (.int r2), .val (.int r3), .val (.ref b704)] [(.int (1 : Int32))]))
      replace e727 := e727.trans qe727
      refine go_ifF K X727 at_283 rfl (by decide : ¬ (1 : Int32) = (0 : Int32)) ?_
      refine go_aload K X727 at_286 rfl rfl rfl ?_
      refine go_iconst K X727 (1 : Int32) at_288 rfl rfl ?_
      refine go_iload K X727 at_289 rfl rfl ?_
      refine go_aload K X727 at_291 rfl rfl rfl ?_
      refine go_aload K X727 at_293 rfl rfl rfl ?_
      refine go_aload K X727 at_295 rfl rfl rfl ?_
      refine go_static K X727 (argsL := [(.ref r663), (.int (1 : Int32)), (.int (1 : Int32)), (.ref b616), (.ref b704), (.ref b681)]) (stk := []) (wd hw 54 rfl) (wd hw 55 rfl) (wd hw 3 rfl) (wd hw 56 rfl) (by decide) (lenOf pd_8 rfl) e727 (rmChk1_1 hw r663 b616 b704 b681 x0 x1 x2 x3 r1 r2 r3 t1 t2 t3 b664 (own_runs [(x0.toInt32)]) h718 f723 f721 f722 f725 f720 f726) rfl rfl at_297 rfl (by decide) (W := 0) (Nat.le_of_eq rfl) (by decide) (cells' := 7) (slots' := 24) rfl rfl (by decide) (by decide) ?_
      rintro T728 h728 _ X728 e728 ⟨rfl, qe728⟩
      show Go _ _ _ _ _ _ _ (T728.setTop (mkF m 300 #[.val (.int p1), .val (.int p2), .val (.int p3), .val (.int p4), .val (.int p5), .val (.int (1 : Int32)), .val (.long x0), .second, .val (.long x1), .second, .val (.long x2), .second, .val (.long x3), .second, .val (.ref b616), .val (.ref r656), .val (.ref r663), .val (.int t1), .val (.int t2), .val (.int t3), .val (.ref b681), .val (.int r1), .val (.int r2), .val (.int r3), .val (.ref b704)] [(.int (1 : Int32))]))
      replace e728 := e728.trans qe728
      refine go_ifF K X728 at_300 rfl (by decide : ¬ (1 : Int32) = (0 : Int32)) ?_
      refine go_aload K X728 at_303 rfl rfl rfl ?_
      refine go_iconst K X728 (2 : Int32) at_305 rfl rfl ?_
      refine go_iload K X728 at_306 rfl rfl ?_
      refine go_aload K X728 at_308 rfl rfl rfl ?_
      refine go_aload K X728 at_310 rfl rfl rfl ?_
      refine go_aload K X728 at_312 rfl rfl rfl ?_
      refine go_static K X728 (argsL := [(.ref r663), (.int (2 : Int32)), (.int (1 : Int32)), (.ref b616), (.ref b704), (.ref b681)]) (stk := []) (wd hw 54 rfl) (wd hw 55 rfl) (wd hw 3 rfl) (wd hw 56 rfl) (by decide) (lenOf pd_8 rfl) e728 (rmChk1_2 hw r663 b616 b704 b681 x0 x1 x2 x3 r1 r2 r3 t1 t2 t3 b664 (own_runs [(x0.toInt32)]) h718 f723 f721 f722 f725 f720 f726) rfl rfl at_314 rfl (by decide) (W := 0) (Nat.le_of_eq rfl) (by decide) (cells' := 7) (slots' := 24) rfl rfl (by decide) (by decide) ?_
      rintro T729 h729 _ X729 e729 ⟨rfl, qe729⟩
      show Go _ _ _ _ _ _ _ (T729.setTop (mkF m 317 #[.val (.int p1), .val (.int p2), .val (.int p3), .val (.int p4), .val (.int p5), .val (.int (1 : Int32)), .val (.long x0), .second, .val (.long x1), .second, .val (.long x2), .second, .val (.long x3), .second, .val (.ref b616), .val (.ref r656), .val (.ref r663), .val (.int t1), .val (.int t2), .val (.int t3), .val (.ref b681), .val (.int r1), .val (.int r2), .val (.int r3), .val (.ref b704)] [(.int (1 : Int32))]))
      replace e729 := e729.trans qe729
      refine go_ifF K X729 at_317 rfl (by decide : ¬ (1 : Int32) = (0 : Int32)) ?_
      refine go_aload K X729 at_320 rfl rfl rfl ?_
      refine go_iconst K X729 (3 : Int32) at_322 rfl rfl ?_
      refine go_iload K X729 at_323 rfl rfl ?_
      refine go_aload K X729 at_325 rfl rfl rfl ?_
      refine go_aload K X729 at_327 rfl rfl rfl ?_
      refine go_aload K X729 at_329 rfl rfl rfl ?_
      refine go_static K X729 (argsL := [(.ref r663), (.int (3 : Int32)), (.int (1 : Int32)), (.ref b616), (.ref b704), (.ref b681)]) (stk := []) (wd hw 54 rfl) (wd hw 55 rfl) (wd hw 3 rfl) (wd hw 56 rfl) (by decide) (lenOf pd_8 rfl) e729 (rmChk1_3 hw r663 b616 b704 b681 x0 x1 x2 x3 r1 r2 r3 t1 t2 t3 b664 (own_runs [(x0.toInt32)]) h718 f723 f721 f722 f725 f720 f726) rfl rfl at_331 rfl (by decide) (W := 0) (Nat.le_of_eq rfl) (by decide) (cells' := 7) (slots' := 24) rfl rfl (by decide) (by decide) ?_
      rintro T730 h730 _ X730 e730 ⟨rfl, qe730⟩
      show Go _ _ _ _ _ _ _ (T730.setTop (mkF m 334 #[.val (.int p1), .val (.int p2), .val (.int p3), .val (.int p4), .val (.int p5), .val (.int (1 : Int32)), .val (.long x0), .second, .val (.long x1), .second, .val (.long x2), .second, .val (.long x3), .second, .val (.ref b616), .val (.ref r656), .val (.ref r663), .val (.int t1), .val (.int t2), .val (.int t3), .val (.ref b681), .val (.int r1), .val (.int r2), .val (.int r3), .val (.ref b704)] [(.int (1 : Int32))]))
      replace e730 := e730.trans qe730
      refine go_ifF K X730 at_334 rfl (by decide : ¬ (1 : Int32) = (0 : Int32)) ?_
      refine go_iconst K X730 (1 : Int32) at_337 rfl rfl ?_
      refine go_goto K X730 at_338 (by decide) rfl ?_
      refine go_retZ K X730 (Or.inr rfl) at_342 (by decide) (by decide) ?_
      rw [e730]
      exact ⟨rfl, kp719⟩
    · intro (hc654 : ¬ x0 < (2147483647 : Int64))
      refine go_iconst K X630 (1 : Int32) at_84 rfl rfl ?_
      refine go_retZ K X630 (Or.inr rfl) at_85 (by decide) (by decide) ?_
      rw [e630]
      exact ⟨rfl, kp631⟩
  · skip
    refine go_ifF K X630 at_67 rfl (by decide : (0 : Int32) < (2 : Int32)) ?_
    refine go_aload K X630 at_70 rfl rfl rfl ?_
    refine go_iload K X630 at_72 rfl rfl ?_
    refine go_iconst K X630 (1 : Int32) at_74 rfl rfl ?_
    refine go_isub K X630 at_75 rfl ?_
    rw [show ((2 : Int32) - (1 : Int32)) = (1 : Int32) from by decide]
    refine go_laload K X630 e630 f632 (i := 1) rfl rfl at_76 rfl ?_
    refine go_ldc2J K X630 (wd hw 44 rfl) at_77 rfl ?_
    refine go_lif K X630 at_80 rfl at_81 (by decide) rfl rfl ?_ ?_
    · intro (hc731 : x1 < (2147483647 : Int64))
      refine go_iload K X630 at_86 rfl rfl ?_
      refine go_aload K X630 at_88 rfl rfl rfl ?_
      refine go_static K X630 (argsL := [(.int (2 : Int32)), (.ref b616)]) (stk := []) (wd hw 8 rfl) (wd hw 9 rfl) (wd hw 3 rfl) (wd hw 10 rfl) (by decide) (lenOf pd_5 rfl) e630 (rmMake2 hw b616 x0 x1 x2 x3 h630 (Nat.le_trans (Nat.le_trans (Nat.le_trans (Nat.le_trans (Nat.le_trans H0 (Keep.ext (Keep.refl _ []) E616).1) (Keep.of_wr W621).1) (Keep.of_wr W624).1) (Keep.of_wr W627).1) (Keep.of_wr W630).1) f632) rfl rfl at_90 rfl (by decide) (W := 0) (Nat.le_of_eq rfl) (by decide) (cells' := 2) (slots' := 6) rfl rfl (by decide) (by decide) ?_
      rintro T732 h732 _ X732 e732 ⟨r733, rfl, K732, f734, f735⟩
      show Go _ _ _ _ _ _ _ (T732.setTop (mkF m 93 #[.val (.int p1), .val (.int p2), .val (.int p3), .val (.int p4), .val (.int p5), .val (.int (2 : Int32)), .val (.long x0), .second, .val (.long x1), .second, .val (.long x2), .second, .val (.long x3), .second, .val (.ref b616), .unset, .unset, .unset, .unset, .unset, .unset, .unset, .unset, .unset, .unset] [(.ref r733)]))
      have ga736 : n0 ≤ r733 := Nat.le_trans (Nat.le_trans (Nat.le_trans (Nat.le_trans (Nat.le_trans (Nat.le_trans H0 (Keep.ext (Keep.refl _ []) E616).1) (Keep.of_wr W621).1) (Keep.of_wr W624).1) (Keep.of_wr W627).1) (Keep.of_wr W630).1) f734
      have gb737 : h0.size ≤ r733 := Nat.le_trans kp631.1 f734
      have kp738 : Keep h0 h732 [] := kp631.trans K732 all0
      refine go_astore K X732 #[.val (.int p1), .val (.int p2), .val (.int p3), .val (.int p4), .val (.int p5), .val (.int (2 : Int32)), .val (.long x0), .second, .val (.long x1), .second, .val (.long x2), .second, .val (.long x3), .second, .val (.ref b616), .val (.ref r733), .unset, .unset, .unset, .unset, .unset, .unset, .unset, .unset, .unset] at_93 rfl rfl rfl ?_
      refine go_aload K X732 at_95 rfl rfl rfl ?_
      refine go_static K X732 (argsL := [(.ref r733)]) (stk := []) (wd hw 12 rfl) (wd hw 13 rfl) (wd hw 14 rfl) (wd hw 15 rfl) (by decide) (lenOf pd_6 rfl) e732 (rmOfS2 hw r733 (x0.toInt32) (x1.toInt32) h732 (Nat.le_trans (Nat.le_trans (Nat.le_trans (Nat.le_trans (Nat.le_trans (Nat.le_trans H0 (Keep.ext (Keep.refl _ []) E616).1) (Keep.of_wr W621).1) (Keep.of_wr W624).1) (Keep.of_wr W627).1) (Keep.of_wr W630).1) K732.1) f735) rfl rfl at_97 rfl (by decide) (W := 0) (Nat.le_of_eq rfl) (by decide) (cells' := 5) (slots' := 19) rfl rfl (by decide) (by decide) ?_
      rintro T739 h739 _ X739 e739 ⟨r740, b741, rfl, K739, f742, f743, f744, f745, f746⟩
      show Go _ _ _ _ _ _ _ (T739.setTop (mkF m 100 #[.val (.int p1), .val (.int p2), .val (.int p3), .val (.int p4), .val (.int p5), .val (.int (2 : Int32)), .val (.long x0), .second, .val (.long x1), .second, .val (.long x2), .second, .val (.long x3), .second, .val (.ref b616), .val (.ref r733), .unset, .unset, .unset, .unset, .unset, .unset, .unset, .unset, .unset] [(.ref r740)]))
      have ga747 : n0 ≤ r740 := Nat.le_trans (Nat.le_trans (Nat.le_trans (Nat.le_trans (Nat.le_trans (Nat.le_trans (Nat.le_trans H0 (Keep.ext (Keep.refl _ []) E616).1) (Keep.of_wr W621).1) (Keep.of_wr W624).1) (Keep.of_wr W627).1) (Keep.of_wr W630).1) K732.1) f742
      have gb748 : h0.size ≤ r740 := Nat.le_trans kp738.1 f742
      have ga749 : n0 ≤ b741 := Nat.le_trans (Nat.le_trans (Nat.le_trans (Nat.le_trans (Nat.le_trans (Nat.le_trans (Nat.le_trans H0 (Keep.ext (Keep.refl _ []) E616).1) (Keep.of_wr W621).1) (Keep.of_wr W624).1) (Keep.of_wr W627).1) (Keep.of_wr W630).1) K732.1) f743
      have gb750 : h0.size ≤ b741 := Nat.le_trans kp738.1 f743
      have kp751 : Keep h0 h739 [] := kp738.trans K739 all0
      refine go_astore K X739 #[.val (.int p1), .val (.int p2), .val (.int p3), .val (.int p4), .val (.int p5), .val (.int (2 : Int32)), .val (.long x0), .second, .val (.long x1), .second, .val (.long x2), .second, .val (.long x3), .second, .val (.ref b616), .val (.ref r733), .val (.ref r740), .unset, .unset, .unset, .unset, .unset, .unset, .unset, .unset] at_100 rfl rfl rfl ?_
      refine go_iload K X739 at_102 rfl rfl ?_
      refine go_ifT K X739 at_104 (by decide) rfl (by decide : ¬ (2 : Int32) = (0 : Int32)) ?_
      refine go_iloadN K X739 at_121 rfl rfl ?_
      refine go_iconst K X739 (1 : Int32) at_122 rfl rfl ?_
      refine go_iand K X739 at_123 rfl ?_
      refine own_cut (P := fun t1 : Int32 => t1 = if (p2 &&& (1 : Int32)) = (0 : Int32) then (1 : Int32) else (0 : Int32)) (S := fun t1 : Int32 => T739.setTop (mkF m 132 #[.val (.int p1), .val (.int p2), .val (.int p3), .val (.int p4), .val (.int p5), .val (.int (2 : Int32)), .val (.long x0), .second, .val (.long x1), .second, .val (.long x2), .second, .val (.long x3), .second, .val (.ref b616), .val (.ref r733), .val (.ref r740), .unset, .unset, .unset, .unset, .unset, .unset, .unset, .unset] [(.int t1)])) ?_ ?_
      · intro J752
        refine go_if K X739 at_124 (by decide) rfl rfl ?_ ?_
        · intro (hc753 : ¬ (p2 &&& (1 : Int32)) = (0 : Int32))
          refine go_iconst K X739 (0 : Int32) at_131 rfl rfl ?_
          exact J752 _ (if_neg hc753).symm
        · intro (hc753 : (p2 &&& (1 : Int32)) = (0 : Int32))
          refine go_iconst K X739 (1 : Int32) at_127 rfl rfl ?_
          refine go_goto K X739 at_128 (by decide) rfl ?_
          exact J752 _ (if_pos hc753).symm
      intro t1 (h_t1 : t1 = if (p2 &&& (1 : Int32)) = (0 : Int32) then (1 : Int32) else (0 : Int32))
      show Go _ _ _ _ _ _ _ (T739.setTop (mkF m 132 #[.val (.int p1), .val (.int p2), .val (.int p3), .val (.int p4), .val (.int p5), .val (.int (2 : Int32)), .val (.long x0), .second, .val (.long x1), .second, .val (.long x2), .second, .val (.long x3), .second, .val (.ref b616), .val (.ref r733), .val (.ref r740), .unset, .unset, .unset, .unset, .unset, .unset, .unset, .unset] [(.int t1)]))
      refine go_istore K X739 #[.val (.int p1), .val (.int p2), .val (.int p3), .val (.int p4), .val (.int p5), .val (.int (2 : Int32)), .val (.long x0), .second, .val (.long x1), .second, .val (.long x2), .second, .val (.long x3), .second, .val (.ref b616), .val (.ref r733), .val (.ref r740), .val (.int t1), .unset, .unset, .unset, .unset, .unset, .unset, .unset] at_132 rfl rfl ?_
      refine go_iloadN K X739 at_134 rfl rfl ?_
      refine go_iconst K X739 (1 : Int32) at_135 rfl rfl ?_
      refine go_iand K X739 at_136 rfl ?_
      refine own_cut (P := fun t2 : Int32 => t2 = if (p3 &&& (1 : Int32)) = (0 : Int32) then (1 : Int32) else (0 : Int32)) (S := fun t2 : Int32 => T739.setTop (mkF m 145 #[.val (.int p1), .val (.int p2), .val (.int p3), .val (.int p4), .val (.int p5), .val (.int (2 : Int32)), .val (.long x0), .second, .val (.long x1), .second, .val (.long x2), .second, .val (.long x3), .second, .val (.ref b616), .val (.ref r733), .val (.ref r740), .val (.int t1), .unset, .unset, .unset, .unset, .unset, .unset, .unset] [(.int t2)])) ?_ ?_
      · intro J754
        refine go_if K X739 at_137 (by decide) rfl rfl ?_ ?_
        · intro (hc755 : ¬ (p3 &&& (1 : Int32)) = (0 : Int32))
          refine go_iconst K X739 (0 : Int32) at_144 rfl rfl ?_
          exact J754 _ (if_neg hc755).symm
        · intro (hc755 : (p3 &&& (1 : Int32)) = (0 : Int32))
          refine go_iconst K X739 (1 : Int32) at_140 rfl rfl ?_
          refine go_goto K X739 at_141 (by decide) rfl ?_
          exact J754 _ (if_pos hc755).symm
      intro t2 (h_t2 : t2 = if (p3 &&& (1 : Int32)) = (0 : Int32) then (1 : Int32) else (0 : Int32))
      show Go _ _ _ _ _ _ _ (T739.setTop (mkF m 145 #[.val (.int p1), .val (.int p2), .val (.int p3), .val (.int p4), .val (.int p5), .val (.int (2 : Int32)), .val (.long x0), .second, .val (.long x1), .second, .val (.long x2), .second, .val (.long x3), .second, .val (.ref b616), .val (.ref r733), .val (.ref r740), .val (.int t1), .unset, .unset, .unset, .unset, .unset, .unset, .unset] [(.int t2)]))
      refine go_istore K X739 #[.val (.int p1), .val (.int p2), .val (.int p3), .val (.int p4), .val (.int p5), .val (.int (2 : Int32)), .val (.long x0), .second, .val (.long x1), .second, .val (.long x2), .second, .val (.long x3), .second, .val (.ref b616), .val (.ref r733), .val (.ref r740), .val (.int t1), .val (.int t2), .unset, .unset, .unset, .unset, .unset, .unset] at_145 rfl rfl ?_
      refine go_iloadN K X739 at_147 rfl rfl ?_
      refine go_iconst K X739 (1 : Int32) at_148 rfl rfl ?_
      refine go_iand K X739 at_149 rfl ?_
      refine own_cut (P := fun t3 : Int32 => t3 = if (p4 &&& (1 : Int32)) = (0 : Int32) then (1 : Int32) else (0 : Int32)) (S := fun t3 : Int32 => T739.setTop (mkF m 158 #[.val (.int p1), .val (.int p2), .val (.int p3), .val (.int p4), .val (.int p5), .val (.int (2 : Int32)), .val (.long x0), .second, .val (.long x1), .second, .val (.long x2), .second, .val (.long x3), .second, .val (.ref b616), .val (.ref r733), .val (.ref r740), .val (.int t1), .val (.int t2), .unset, .unset, .unset, .unset, .unset, .unset] [(.int t3)])) ?_ ?_
      · intro J756
        refine go_if K X739 at_150 (by decide) rfl rfl ?_ ?_
        · intro (hc757 : ¬ (p4 &&& (1 : Int32)) = (0 : Int32))
          refine go_iconst K X739 (0 : Int32) at_157 rfl rfl ?_
          exact J756 _ (if_neg hc757).symm
        · intro (hc757 : (p4 &&& (1 : Int32)) = (0 : Int32))
          refine go_iconst K X739 (1 : Int32) at_153 rfl rfl ?_
          refine go_goto K X739 at_154 (by decide) rfl ?_
          exact J756 _ (if_pos hc757).symm
      intro t3 (h_t3 : t3 = if (p4 &&& (1 : Int32)) = (0 : Int32) then (1 : Int32) else (0 : Int32))
      show Go _ _ _ _ _ _ _ (T739.setTop (mkF m 158 #[.val (.int p1), .val (.int p2), .val (.int p3), .val (.int p4), .val (.int p5), .val (.int (2 : Int32)), .val (.long x0), .second, .val (.long x1), .second, .val (.long x2), .second, .val (.long x3), .second, .val (.ref b616), .val (.ref r733), .val (.ref r740), .val (.int t1), .val (.int t2), .unset, .unset, .unset, .unset, .unset, .unset] [(.int t3)]))
      refine go_istore K X739 #[.val (.int p1), .val (.int p2), .val (.int p3), .val (.int p4), .val (.int p5), .val (.int (2 : Int32)), .val (.long x0), .second, .val (.long x1), .second, .val (.long x2), .second, .val (.long x3), .second, .val (.ref b616), .val (.ref r733), .val (.ref r740), .val (.int t1), .val (.int t2), .val (.int t3), .unset, .unset, .unset, .unset, .unset] at_158 rfl rfl ?_
      refine go_iconst K X739 (4 : Int32) at_160 rfl rfl ?_
      refine go_newarray K X739 (wd hw 53 rfl) e739 at_161 (i := 4) (cap := 4) rfl (by decide) (by decide) rfl (cells' := 6) (slots' := 23) rfl rfl (by decide) (by decide) ?_
      intro T758 h758 b758 g758 X758 e758 E758 A758
      have ga759 : n0 ≤ b758 := Nat.le_trans (Nat.le_trans (Nat.le_trans (Nat.le_trans (Nat.le_trans (Nat.le_trans (Nat.le_trans (Nat.le_trans H0 (Keep.ext (Keep.refl _ []) E616).1) (Keep.of_wr W621).1) (Keep.of_wr W624).1) (Keep.of_wr W627).1) (Keep.of_wr W630).1) K732.1) K739.1) (Nat.le_of_eq g758.symm)
      have gb760 : h0.size ≤ b758 := Nat.le_trans kp751.1 (Nat.le_of_eq g758.symm)
      have kp761 : Keep h0 h758 [] := kp751.trans (Keep.ext (Keep.refl _ []) E758) all0
      have f762 : AV Z h758 b758 .boolean [(.int (0 : Int32)), (.int (0 : Int32)), (.int (0 : Int32)), (.int (0 : Int32))] := A758
      refine go_dup K X758 at_163 rfl rfl ?_
      refine go_iconst K X758 (0 : Int32) at_164 rfl rfl ?_
      refine go_iconst K X758 (0 : Int32) at_165 rfl rfl ?_
      refine go_bastoreZ K X758 e758 f762 (i := 0) rfl (Nat.le_of_ble_eq_true rfl) rfl ga759 at_166 rfl ?_
      intro T763 h763 X763 e763 W763 A763
      have kp764 : Keep h0 h763 [] := kp761.trans (Keep.of_wr W763) (allS (Or.inr gb760) all0)
      have f765 : AV Z h763 b758 .boolean [(.int (0 : Int32)), (.int (0 : Int32)), (.int (0 : Int32)), (.int (0 : Int32))] := A763
      refine go_dup K X763 at_167 rfl rfl ?_
      refine go_iconst K X763 (1 : Int32) at_168 rfl rfl ?_
      refine go_iload K X763 at_169 rfl rfl ?_
      refine go_bastoreZ K X763 e763 f765 (i := 1) rfl (Nat.le_of_ble_eq_true rfl) (own_nar h_t1) ga759 at_171 rfl ?_
      intro T766 h766 X766 e766 W766 A766
      have kp767 : Keep h0 h766 [] := kp764.trans (Keep.of_wr W766) (allS (Or.inr gb760) all0)
      have f768 : AV Z h766 b758 .boolean [(.int (0 : Int32)), (.int t1), (.int (0 : Int32)), (.int (0 : Int32))] := A766
      refine go_dup K X766 at_172 rfl rfl ?_
      refine go_iconst K X766 (2 : Int32) at_173 rfl rfl ?_
      refine go_iload K X766 at_174 rfl rfl ?_
      refine go_bastoreZ K X766 e766 f768 (i := 2) rfl (Nat.le_of_ble_eq_true rfl) (own_nar h_t2) ga759 at_176 rfl ?_
      intro T769 h769 X769 e769 W769 A769
      have kp770 : Keep h0 h769 [] := kp767.trans (Keep.of_wr W769) (allS (Or.inr gb760) all0)
      have f771 : AV Z h769 b758 .boolean [(.int (0 : Int32)), (.int t1), (.int t2), (.int (0 : Int32))] := A769
      refine go_dup K X769 at_177 rfl rfl ?_
      refine go_iconst K X769 (3 : Int32) at_178 rfl rfl ?_
      refine go_iload K X769 at_179 rfl rfl ?_
      refine go_bastoreZ K X769 e769 f771 (i := 3) rfl (Nat.le_of_ble_eq_true rfl) (own_nar h_t3) ga759 at_181 rfl ?_
      intro T772 h772 X772 e772 W772 A772
      have kp773 : Keep h0 h772 [] := kp770.trans (Keep.of_wr W772) (allS (Or.inr gb760) all0)
      have f774 : AV Z h772 b758 .boolean [(.int (0 : Int32)), (.int t1), (.int t2), (.int t3)] := A772
      refine go_astore K X772 #[.val (.int p1), .val (.int p2), .val (.int p3), .val (.int p4), .val (.int p5), .val (.int (2 : Int32)), .val (.long x0), .second, .val (.long x1), .second, .val (.long x2), .second, .val (.long x3), .second, .val (.ref b616), .val (.ref r733), .val (.ref r740), .val (.int t1), .val (.int t2), .val (.int t3), .val (.ref b758), .unset, .unset, .unset, .unset] at_182 rfl rfl rfl ?_
      refine go_iload K X772 at_184 rfl rfl ?_
      refine own_cut (P := fun r1 : Int32 => r1 = if t1 = (0 : Int32) then (1 : Int32) else (0 : Int32)) (S := fun r1 : Int32 => T772.setTop (mkF m 194 #[.val (.int p1), .val (.int p2), .val (.int p3), .val (.int p4), .val (.int p5), .val (.int (2 : Int32)), .val (.long x0), .second, .val (.long x1), .second, .val (.long x2), .second, .val (.long x3), .second, .val (.ref b616), .val (.ref r733), .val (.ref r740), .val (.int t1), .val (.int t2), .val (.int t3), .val (.ref b758), .unset, .unset, .unset, .unset] [(.int r1)])) ?_ ?_
      · intro J775
        refine go_if K X772 at_186 (by decide) rfl rfl ?_ ?_
        · intro (hc776 : t1 = (0 : Int32))
          refine go_iconst K X772 (1 : Int32) at_193 rfl rfl ?_
          exact J775 _ (if_pos hc776).symm
        · intro (hc776 : ¬ t1 = (0 : Int32))
          refine go_iconst K X772 (0 : Int32) at_189 rfl rfl ?_
          refine go_goto K X772 at_190 (by decide) rfl ?_
          exact J775 _ (if_neg hc776).symm
      intro r1 (h_r1 : r1 = if t1 = (0 : Int32) then (1 : Int32) else (0 : Int32))
      show Go _ _ _ _ _ _ _ (T772.setTop (mkF m 194 #[.val (.int p1), .val (.int p2), .val (.int p3), .val (.int p4), .val (.int p5), .val (.int (2 : Int32)), .val (.long x0), .second, .val (.long x1), .second, .val (.long x2), .second, .val (.long x3), .second, .val (.ref b616), .val (.ref r733), .val (.ref r740), .val (.int t1), .val (.int t2), .val (.int t3), .val (.ref b758), .unset, .unset, .unset, .unset] [(.int r1)]))
      refine go_istore K X772 #[.val (.int p1), .val (.int p2), .val (.int p3), .val (.int p4), .val (.int p5), .val (.int (2 : Int32)), .val (.long x0), .second, .val (.long x1), .second, .val (.long x2), .second, .val (.long x3), .second, .val (.ref b616), .val (.ref r733), .val (.ref r740), .val (.int t1), .val (.int t2), .val (.int t3), .val (.ref b758), .val (.int r1), .unset, .unset, .unset] at_194 rfl rfl ?_
      refine go_iload K X772 at_196 rfl rfl ?_
      refine go_iload K X772 at_198 rfl rfl ?_
      refine own_cut (P := fun c2 : Int32 => c2 = if t2 = (0 : Int32) then (1 : Int32) else (0 : Int32)) (S := fun c2 : Int32 => T772.setTop (mkF m 208 #[.val (.int p1), .val (.int p2), .val (.int p3), .val (.int p4), .val (.int p5), .val (.int (2 : Int32)), .val (.long x0), .second, .val (.long x1), .second, .val (.long x2), .second, .val (.long x3), .second, .val (.ref b616), .val (.ref r733), .val (.ref r740), .val (.int t1), .val (.int t2), .val (.int t3), .val (.ref b758), .val (.int r1), .unset, .unset, .unset] [(.int c2), (.int r1)])) ?_ ?_
      · intro J777
        refine go_if K X772 at_200 (by decide) rfl rfl ?_ ?_
        · intro (hc778 : t2 = (0 : Int32))
          refine go_iconst K X772 (1 : Int32) at_207 rfl rfl ?_
          exact J777 _ (if_pos hc778).symm
        · intro (hc778 : ¬ t2 = (0 : Int32))
          refine go_iconst K X772 (0 : Int32) at_203 rfl rfl ?_
          refine go_goto K X772 at_204 (by decide) rfl ?_
          exact J777 _ (if_neg hc778).symm
      intro c2 (h_c2 : c2 = if t2 = (0 : Int32) then (1 : Int32) else (0 : Int32))
      show Go _ _ _ _ _ _ _ (T772.setTop (mkF m 208 #[.val (.int p1), .val (.int p2), .val (.int p3), .val (.int p4), .val (.int p5), .val (.int (2 : Int32)), .val (.long x0), .second, .val (.long x1), .second, .val (.long x2), .second, .val (.long x3), .second, .val (.ref b616), .val (.ref r733), .val (.ref r740), .val (.int t1), .val (.int t2), .val (.int t3), .val (.ref b758), .val (.int r1), .unset, .unset, .unset] [(.int c2), (.int r1)]))
      refine go_iadd K X772 at_208 rfl ?_
      generalize h_r2 : (r1 + c2) = r2
      refine go_istore K X772 #[.val (.int p1), .val (.int p2), .val (.int p3), .val (.int p4), .val (.int p5), .val (.int (2 : Int32)), .val (.long x0), .second, .val (.long x1), .second, .val (.long x2), .second, .val (.long x3), .second, .val (.ref b616), .val (.ref r733), .val (.ref r740), .val (.int t1), .val (.int t2), .val (.int t3), .val (.ref b758), .val (.int r1), .val (.int r2), .unset, .unset] at_209 rfl rfl ?_
      refine go_iload K X772 at_211 rfl rfl ?_
      refine go_iload K X772 at_213 rfl rfl ?_
      refine own_cut (P := fun c3 : Int32 => c3 = if t3 = (0 : Int32) then (1 : Int32) else (0 : Int32)) (S := fun c3 : Int32 => T772.setTop (mkF m 223 #[.val (.int p1), .val (.int p2), .val (.int p3), .val (.int p4), .val (.int p5), .val (.int (2 : Int32)), .val (.long x0), .second, .val (.long x1), .second, .val (.long x2), .second, .val (.long x3), .second, .val (.ref b616), .val (.ref r733), .val (.ref r740), .val (.int t1), .val (.int t2), .val (.int t3), .val (.ref b758), .val (.int r1), .val (.int r2), .unset, .unset] [(.int c3), (.int r2)])) ?_ ?_
      · intro J779
        refine go_if K X772 at_215 (by decide) rfl rfl ?_ ?_
        · intro (hc780 : t3 = (0 : Int32))
          refine go_iconst K X772 (1 : Int32) at_222 rfl rfl ?_
          exact J779 _ (if_pos hc780).symm
        · intro (hc780 : ¬ t3 = (0 : Int32))
          refine go_iconst K X772 (0 : Int32) at_218 rfl rfl ?_
          refine go_goto K X772 at_219 (by decide) rfl ?_
          exact J779 _ (if_neg hc780).symm
      intro c3 (h_c3 : c3 = if t3 = (0 : Int32) then (1 : Int32) else (0 : Int32))
      show Go _ _ _ _ _ _ _ (T772.setTop (mkF m 223 #[.val (.int p1), .val (.int p2), .val (.int p3), .val (.int p4), .val (.int p5), .val (.int (2 : Int32)), .val (.long x0), .second, .val (.long x1), .second, .val (.long x2), .second, .val (.long x3), .second, .val (.ref b616), .val (.ref r733), .val (.ref r740), .val (.int t1), .val (.int t2), .val (.int t3), .val (.ref b758), .val (.int r1), .val (.int r2), .unset, .unset] [(.int c3), (.int r2)]))
      refine go_iadd K X772 at_223 rfl ?_
      generalize h_r3 : (r2 + c3) = r3
      have G := own_good2 h_x0 h_x1 h_x2 h_x3 h_t1 h_t2 h_t3 h_r1 h_c2 h_r2 h_c3 h_r3 hc731
      refine go_istore K X772 #[.val (.int p1), .val (.int p2), .val (.int p3), .val (.int p4), .val (.int p5), .val (.int (2 : Int32)), .val (.long x0), .second, .val (.long x1), .second, .val (.long x2), .second, .val (.long x3), .second, .val (.ref b616), .val (.ref r733), .val (.ref r740), .val (.int t1), .val (.int t2), .val (.int t3), .val (.ref b758), .val (.int r1), .val (.int r2), .val (.int r3), .unset] at_224 rfl rfl ?_
      refine go_iconst K X772 (4 : Int32) at_226 rfl rfl ?_
      refine go_newarray K X772 (wd hw 11 rfl) e772 at_227 (i := 4) (cap := 4) rfl (by decide) (by decide) rfl (cells' := 7) (slots' := 27) rfl rfl (by decide) (by decide) ?_
      intro T781 h781 b781 g781 X781 e781 E781 A781
      have ga782 : n0 ≤ b781 := Nat.le_trans (Nat.le_trans (Nat.le_trans (Nat.le_trans (Nat.le_trans (Nat.le_trans (Nat.le_trans (Nat.le_trans (Nat.le_trans (Nat.le_trans (Nat.le_trans (Nat.le_trans (Nat.le_trans H0 (Keep.ext (Keep.refl _ []) E616).1) (Keep.of_wr W621).1) (Keep.of_wr W624).1) (Keep.of_wr W627).1) (Keep.of_wr W630).1) K732.1) K739.1) (Keep.ext (Keep.refl _ []) E758).1) (Keep.of_wr W763).1) (Keep.of_wr W766).1) (Keep.of_wr W769).1) (Keep.of_wr W772).1) (Nat.le_of_eq g781.symm)
      have gb783 : h0.size ≤ b781 := Nat.le_trans kp773.1 (Nat.le_of_eq g781.symm)
      have kp784 : Keep h0 h781 [] := kp773.trans (Keep.ext (Keep.refl _ []) E781) all0
      have f785 : AV Z h781 b781 .int [(.int (0 : Int32)), (.int (0 : Int32)), (.int (0 : Int32)), (.int (0 : Int32))] := A781
      refine go_dup K X781 at_229 rfl rfl ?_
      refine go_iconst K X781 (0 : Int32) at_230 rfl rfl ?_
      refine go_iconst K X781 (0 : Int32) at_231 rfl rfl ?_
      refine go_iastore K X781 e781 f785 (i := 0) rfl (Nat.le_of_ble_eq_true rfl) ga782 at_232 rfl ?_
      intro T786 h786 X786 e786 W786 A786
      have kp787 : Keep h0 h786 [] := kp784.trans (Keep.of_wr W786) (allS (Or.inr gb783) all0)
      have f788 : AV Z h786 b781 .int [(.int (0 : Int32)), (.int (0 : Int32)), (.int (0 : Int32)), (.int (0 : Int32))] := A786
      refine go_dup K X786 at_233 rfl rfl ?_
      refine go_iconst K X786 (1 : Int32) at_234 rfl rfl ?_
      refine go_iload K X786 at_235 rfl rfl ?_
      refine go_iastore K X786 e786 f788 (i := 1) rfl (Nat.le_of_ble_eq_true rfl) ga782 at_237 rfl ?_
      intro T789 h789 X789 e789 W789 A789
      have kp790 : Keep h0 h789 [] := kp787.trans (Keep.of_wr W789) (allS (Or.inr gb783) all0)
      have f791 : AV Z h789 b781 .int [(.int (0 : Int32)), (.int r1), (.int (0 : Int32)), (.int (0 : Int32))] := A789
      refine go_dup K X789 at_238 rfl rfl ?_
      refine go_iconst K X789 (2 : Int32) at_239 rfl rfl ?_
      refine go_iload K X789 at_240 rfl rfl ?_
      refine go_iastore K X789 e789 f791 (i := 2) rfl (Nat.le_of_ble_eq_true rfl) ga782 at_242 rfl ?_
      intro T792 h792 X792 e792 W792 A792
      have kp793 : Keep h0 h792 [] := kp790.trans (Keep.of_wr W792) (allS (Or.inr gb783) all0)
      have f794 : AV Z h792 b781 .int [(.int (0 : Int32)), (.int r1), (.int r2), (.int (0 : Int32))] := A792
      refine go_dup K X792 at_243 rfl rfl ?_
      refine go_iconst K X792 (3 : Int32) at_244 rfl rfl ?_
      refine go_iload K X792 at_245 rfl rfl ?_
      refine go_iastore K X792 e792 f794 (i := 3) rfl (Nat.le_of_ble_eq_true rfl) ga782 at_247 rfl ?_
      intro T795 h795 X795 e795 W795 A795
      have kp796 : Keep h0 h795 [] := kp793.trans (Keep.of_wr W795) (allS (Or.inr gb783) all0)
      have f797 : AV Z h795 b781 .int [(.int (0 : Int32)), (.int r1), (.int r2), (.int r3)] := A795
      refine go_astore K X795 #[.val (.int p1), .val (.int p2), .val (.int p3), .val (.int p4), .val (.int p5), .val (.int (2 : Int32)), .val (.long x0), .second, .val (.long x1), .second, .val (.long x2), .second, .val (.long x3), .second, .val (.ref b616), .val (.ref r733), .val (.ref r740), .val (.int t1), .val (.int t2), .val (.int t3), .val (.ref b758), .val (.int r1), .val (.int r2), .val (.int r3), .val (.ref b781)] at_248 rfl rfl rfl ?_
      refine go_aload K X795 at_250 rfl rfl rfl ?_
      have f798 : Fld Z h795 r740 "com/example/divided_duty/dividedduty/policy/Ranges" "bounds" "[I" (.ref b741) := ((((((((((f745.keep (Keep.ext (Keep.refl _ []) E758) nin0).keep (Keep.of_wr W763) (ninS (Nat.ne_of_lt (Nat.lt_of_lt_of_le f744.lt (Nat.le_of_eq g758.symm))) nin0)).keep (Keep.of_wr W766) (ninS (Nat.ne_of_lt (Nat.lt_of_lt_of_le f744.lt (Nat.le_of_eq g758.symm))) nin0)).keep (Keep.of_wr W769) (ninS (Nat.ne_of_lt (Nat.lt_of_lt_of_le f744.lt (Nat.le_of_eq g758.symm))) nin0)).keep (Keep.of_wr W772) (ninS (Nat.ne_of_lt (Nat.lt_of_lt_of_le f744.lt (Nat.le_of_eq g758.symm))) nin0)).keep (Keep.ext (Keep.refl _ []) E781) nin0).keep (Keep.of_wr W786) (ninS (Nat.ne_of_lt (Nat.lt_of_lt_of_le (Nat.lt_of_lt_of_le (Nat.lt_of_lt_of_le (Nat.lt_of_lt_of_le (Nat.lt_of_lt_of_le (Nat.lt_of_lt_of_le f744.lt (Keep.ext (Keep.refl _ []) E758).1) (Keep.of_wr W763).1) (Keep.of_wr W766).1) (Keep.of_wr W769).1) (Keep.of_wr W772).1) (Nat.le_of_eq g781.symm))) nin0)).keep (Keep.of_wr W789) (ninS (Nat.ne_of_lt (Nat.lt_of_lt_of_le (Nat.lt_of_lt_of_le (Nat.lt_of_lt_of_le (Nat.lt_of_lt_of_le (Nat.lt_of_lt_of_le (Nat.lt_of_lt_of_le f744.lt (Keep.ext (Keep.refl _ []) E758).1) (Keep.of_wr W763).1) (Keep.of_wr W766).1) (Keep.of_wr W769).1) (Keep.of_wr W772).1) (Nat.le_of_eq g781.symm))) nin0)).keep (Keep.of_wr W792) (ninS (Nat.ne_of_lt (Nat.lt_of_lt_of_le (Nat.lt_of_lt_of_le (Nat.lt_of_lt_of_le (Nat.lt_of_lt_of_le (Nat.lt_of_lt_of_le (Nat.lt_of_lt_of_le f744.lt (Keep.ext (Keep.refl _ []) E758).1) (Keep.of_wr W763).1) (Keep.of_wr W766).1) (Keep.of_wr W769).1) (Keep.of_wr W772).1) (Nat.le_of_eq g781.symm))) nin0)).keep (Keep.of_wr W795) (ninS (Nat.ne_of_lt (Nat.lt_of_lt_of_le (Nat.lt_of_lt_of_le (Nat.lt_of_lt_of_le (Nat.lt_of_lt_of_le (Nat.lt_of_lt_of_le (Nat.lt_of_lt_of_le f744.lt (Keep.ext (Keep.refl _ []) E758).1) (Keep.of_wr W763).1) (Keep.of_wr W766).1) (Keep.of_wr W769).1) (Keep.of_wr W772).1) (Nat.le_of_eq g781.symm))) nin0))
      have f799 : AV Z h795 b741 .int (own_runs [(x0.toInt32), (x1.toInt32)]) := ((((((((((f746.keep (Keep.ext (Keep.refl _ []) E758) nin0).keep (Keep.of_wr W763) (ninS (Nat.ne_of_lt (Nat.lt_of_lt_of_le f746.lt (Nat.le_of_eq g758.symm))) nin0)).keep (Keep.of_wr W766) (ninS (Nat.ne_of_lt (Nat.lt_of_lt_of_le f746.lt (Nat.le_of_eq g758.symm))) nin0)).keep (Keep.of_wr W769) (ninS (Nat.ne_of_lt (Nat.lt_of_lt_of_le f746.lt (Nat.le_of_eq g758.symm))) nin0)).keep (Keep.of_wr W772) (ninS (Nat.ne_of_lt (Nat.lt_of_lt_of_le f746.lt (Nat.le_of_eq g758.symm))) nin0)).keep (Keep.ext (Keep.refl _ []) E781) nin0).keep (Keep.of_wr W786) (ninS (Nat.ne_of_lt (Nat.lt_of_lt_of_le (Nat.lt_of_lt_of_le (Nat.lt_of_lt_of_le (Nat.lt_of_lt_of_le (Nat.lt_of_lt_of_le (Nat.lt_of_lt_of_le f746.lt (Keep.ext (Keep.refl _ []) E758).1) (Keep.of_wr W763).1) (Keep.of_wr W766).1) (Keep.of_wr W769).1) (Keep.of_wr W772).1) (Nat.le_of_eq g781.symm))) nin0)).keep (Keep.of_wr W789) (ninS (Nat.ne_of_lt (Nat.lt_of_lt_of_le (Nat.lt_of_lt_of_le (Nat.lt_of_lt_of_le (Nat.lt_of_lt_of_le (Nat.lt_of_lt_of_le (Nat.lt_of_lt_of_le f746.lt (Keep.ext (Keep.refl _ []) E758).1) (Keep.of_wr W763).1) (Keep.of_wr W766).1) (Keep.of_wr W769).1) (Keep.of_wr W772).1) (Nat.le_of_eq g781.symm))) nin0)).keep (Keep.of_wr W792) (ninS (Nat.ne_of_lt (Nat.lt_of_lt_of_le (Nat.lt_of_lt_of_le (Nat.lt_of_lt_of_le (Nat.lt_of_lt_of_le (Nat.lt_of_lt_of_le (Nat.lt_of_lt_of_le f746.lt (Keep.ext (Keep.refl _ []) E758).1) (Keep.of_wr W763).1) (Keep.of_wr W766).1) (Keep.of_wr W769).1) (Keep.of_wr W772).1) (Nat.le_of_eq g781.symm))) nin0)).keep (Keep.of_wr W795) (ninS (Nat.ne_of_lt (Nat.lt_of_lt_of_le (Nat.lt_of_lt_of_le (Nat.lt_of_lt_of_le (Nat.lt_of_lt_of_le (Nat.lt_of_lt_of_le (Nat.lt_of_lt_of_le f746.lt (Keep.ext (Keep.refl _ []) E758).1) (Keep.of_wr W763).1) (Keep.of_wr W766).1) (Keep.of_wr W769).1) (Keep.of_wr W772).1) (Nat.le_of_eq g781.symm))) nin0))
      have f800 : Exa Z h795 r740 "com/example/divided_duty/dividedduty/policy/Ranges" := ((((((((((f744.keep (Keep.ext (Keep.refl _ []) E758)).keep (Keep.of_wr W763)).keep (Keep.of_wr W766)).keep (Keep.of_wr W769)).keep (Keep.of_wr W772)).keep (Keep.ext (Keep.refl _ []) E781)).keep (Keep.of_wr W786)).keep (Keep.of_wr W789)).keep (Keep.of_wr W792)).keep (Keep.of_wr W795))
      refine go_virt K X795 (a := r740) (argsL := []) (stk := []) (wd hw 39 rfl) (wd hw 40 rfl) (wd hw 42 rfl) (wd hw 42 rfl) (wd hw 41 rfl) (wd hw 43 rfl) (wd hw 14 rfl) (by decide) (lenOf pd_7 rfl) e795 f800 (rmSize hw r740 b741 (own_runs [(x0.toInt32), (x1.toInt32)]) h795 f798 f799) rfl rfl at_252 rfl (by decide) (W := 0) (Nat.le_of_eq rfl) (by decide) (cells' := 7) (slots' := 27) rfl rfl (by decide) (by decide) ?_
      rintro T801 h801 _ X801 e801 ⟨rfl, qe801⟩
      show Go _ _ _ _ _ _ _ (T801.setTop (mkF m 255 #[.val (.int p1), .val (.int p2), .val (.int p3), .val (.int p4), .val (.int p5), .val (.int (2 : Int32)), .val (.long x0), .second, .val (.long x1), .second, .val (.long x2), .second, .val (.long x3), .second, .val (.ref b616), .val (.ref r733), .val (.ref r740), .val (.int t1), .val (.int t2), .val (.int t3), .val (.ref b758), .val (.int r1), .val (.int r2), .val (.int r3), .val (.ref b781)] [(.int ((own_runs [(x0.toInt32), (x1.toInt32)]).length.toInt32 / (2 : Int32)))]))
      replace e801 := e801.trans qe801
      refine go_aload K X801 at_255 rfl rfl rfl ?_
      refine go_iload K X801 at_257 rfl rfl ?_
      refine go_iconst K X801 (1 : Int32) at_259 rfl rfl ?_
      refine go_isub K X801 at_260 rfl ?_
      rw [show ((2 : Int32) - (1 : Int32)) = (1 : Int32) from by decide]
      refine go_iaload K X801 e801 f797 (i := 1) rfl rfl at_261 rfl ?_
      refine go_iconst K X801 (1 : Int32) at_262 rfl rfl ?_
      refine go_iadd K X801 at_263 rfl ?_
      refine go_icmpT K X801 at_264 (by decide) rfl (G.1 : ((own_runs [(x0.toInt32), (x1.toInt32)]).length.toInt32 / (2 : Int32)) = (r1 + (1 : Int32))) ?_
      refine go_aload K X801 at_269 rfl rfl rfl ?_
      refine go_iconst K X801 (0 : Int32) at_271 rfl rfl ?_
      refine go_iload K X801 at_272 rfl rfl ?_
      refine go_aload K X801 at_274 rfl rfl rfl ?_
      refine go_aload K X801 at_276 rfl rfl rfl ?_
      refine go_aload K X801 at_278 rfl rfl rfl ?_
      have f802 : AV Z h795 b616 .long [(.long x0), (.long x1), (.long x2), (.long x3)] := ((((((((((((f632.keep K732 nin0).keep K739 nin0).keep (Keep.ext (Keep.refl _ []) E758) nin0).keep (Keep.of_wr W763) (ninS (Nat.ne_of_lt (Nat.lt_of_lt_of_le (Nat.lt_of_lt_of_le (Nat.lt_of_lt_of_le (Nat.lt_of_lt_of_le (Nat.lt_of_lt_of_le (Nat.lt_of_lt_of_le (Nat.lt_of_lt_of_le f620.lt (Keep.of_wr W621).1) (Keep.of_wr W624).1) (Keep.of_wr W627).1) (Keep.of_wr W630).1) K732.1) K739.1) (Nat.le_of_eq g758.symm))) nin0)).keep (Keep.of_wr W766) (ninS (Nat.ne_of_lt (Nat.lt_of_lt_of_le (Nat.lt_of_lt_of_le (Nat.lt_of_lt_of_le (Nat.lt_of_lt_of_le (Nat.lt_of_lt_of_le (Nat.lt_of_lt_of_le (Nat.lt_of_lt_of_le f620.lt (Keep.of_wr W621).1) (Keep.of_wr W624).1) (Keep.of_wr W627).1) (Keep.of_wr W630).1) K732.1) K739.1) (Nat.le_of_eq g758.symm))) nin0)).keep (Keep.of_wr W769) (ninS (Nat.ne_of_lt (Nat.lt_of_lt_of_le (Nat.lt_of_lt_of_le (Nat.lt_of_lt_of_le (Nat.lt_of_lt_of_le (Nat.lt_of_lt_of_le (Nat.lt_of_lt_of_le (Nat.lt_of_lt_of_le f620.lt (Keep.of_wr W621).1) (Keep.of_wr W624).1) (Keep.of_wr W627).1) (Keep.of_wr W630).1) K732.1) K739.1) (Nat.le_of_eq g758.symm))) nin0)).keep (Keep.of_wr W772) (ninS (Nat.ne_of_lt (Nat.lt_of_lt_of_le (Nat.lt_of_lt_of_le (Nat.lt_of_lt_of_le (Nat.lt_of_lt_of_le (Nat.lt_of_lt_of_le (Nat.lt_of_lt_of_le (Nat.lt_of_lt_of_le f620.lt (Keep.of_wr W621).1) (Keep.of_wr W624).1) (Keep.of_wr W627).1) (Keep.of_wr W630).1) K732.1) K739.1) (Nat.le_of_eq g758.symm))) nin0)).keep (Keep.ext (Keep.refl _ []) E781) nin0).keep (Keep.of_wr W786) (ninS (Nat.ne_of_lt (Nat.lt_of_lt_of_le (Nat.lt_of_lt_of_le (Nat.lt_of_lt_of_le (Nat.lt_of_lt_of_le (Nat.lt_of_lt_of_le (Nat.lt_of_lt_of_le (Nat.lt_of_lt_of_le (Nat.lt_of_lt_of_le (Nat.lt_of_lt_of_le (Nat.lt_of_lt_of_le (Nat.lt_of_lt_of_le (Nat.lt_of_lt_of_le f620.lt (Keep.of_wr W621).1) (Keep.of_wr W624).1) (Keep.of_wr W627).1) (Keep.of_wr W630).1) K732.1) K739.1) (Keep.ext (Keep.refl _ []) E758).1) (Keep.of_wr W763).1) (Keep.of_wr W766).1) (Keep.of_wr W769).1) (Keep.of_wr W772).1) (Nat.le_of_eq g781.symm))) nin0)).keep (Keep.of_wr W789) (ninS (Nat.ne_of_lt (Nat.lt_of_lt_of_le (Nat.lt_of_lt_of_le (Nat.lt_of_lt_of_le (Nat.lt_of_lt_of_le (Nat.lt_of_lt_of_le (Nat.lt_of_lt_of_le (Nat.lt_of_lt_of_le (Nat.lt_of_lt_of_le (Nat.lt_of_lt_of_le (Nat.lt_of_lt_of_le (Nat.lt_of_lt_of_le (Nat.lt_of_lt_of_le f620.lt (Keep.of_wr W621).1) (Keep.of_wr W624).1) (Keep.of_wr W627).1) (Keep.of_wr W630).1) K732.1) K739.1) (Keep.ext (Keep.refl _ []) E758).1) (Keep.of_wr W763).1) (Keep.of_wr W766).1) (Keep.of_wr W769).1) (Keep.of_wr W772).1) (Nat.le_of_eq g781.symm))) nin0)).keep (Keep.of_wr W792) (ninS (Nat.ne_of_lt (Nat.lt_of_lt_of_le (Nat.lt_of_lt_of_le (Nat.lt_of_lt_of_le (Nat.lt_of_lt_of_le (Nat.lt_of_lt_of_le (Nat.lt_of_lt_of_le (Nat.lt_of_lt_of_le (Nat.lt_of_lt_of_le (Nat.lt_of_lt_of_le (Nat.lt_of_lt_of_le (Nat.lt_of_lt_of_le (Nat.lt_of_lt_of_le f620.lt (Keep.of_wr W621).1) (Keep.of_wr W624).1) (Keep.of_wr W627).1) (Keep.of_wr W630).1) K732.1) K739.1) (Keep.ext (Keep.refl _ []) E758).1) (Keep.of_wr W763).1) (Keep.of_wr W766).1) (Keep.of_wr W769).1) (Keep.of_wr W772).1) (Nat.le_of_eq g781.symm))) nin0)).keep (Keep.of_wr W795) (ninS (Nat.ne_of_lt (Nat.lt_of_lt_of_le (Nat.lt_of_lt_of_le (Nat.lt_of_lt_of_le (Nat.lt_of_lt_of_le (Nat.lt_of_lt_of_le (Nat.lt_of_lt_of_le (Nat.lt_of_lt_of_le (Nat.lt_of_lt_of_le (Nat.lt_of_lt_of_le (Nat.lt_of_lt_of_le (Nat.lt_of_lt_of_le (Nat.lt_of_lt_of_le f620.lt (Keep.of_wr W621).1) (Keep.of_wr W624).1) (Keep.of_wr W627).1) (Keep.of_wr W630).1) K732.1) K739.1) (Keep.ext (Keep.refl _ []) E758).1) (Keep.of_wr W763).1) (Keep.of_wr W766).1) (Keep.of_wr W769).1) (Keep.of_wr W772).1) (Nat.le_of_eq g781.symm))) nin0))
      have f803 : AV Z h795 b758 .boolean [(.int (0 : Int32)), (.int t1), (.int t2), (.int t3)] := (((((f774.keep (Keep.ext (Keep.refl _ []) E781) nin0).keep (Keep.of_wr W786) (ninS (Nat.ne_of_lt (Nat.lt_of_lt_of_le (Nat.lt_of_lt_of_le (Nat.lt_of_lt_of_le (Nat.lt_of_lt_of_le (Nat.lt_of_lt_of_le f762.lt (Keep.of_wr W763).1) (Keep.of_wr W766).1) (Keep.of_wr W769).1) (Keep.of_wr W772).1) (Nat.le_of_eq g781.symm))) nin0)).keep (Keep.of_wr W789) (ninS (Nat.ne_of_lt (Nat.lt_of_lt_of_le (Nat.lt_of_lt_of_le (Nat.lt_of_lt_of_le (Nat.lt_of_lt_of_le (Nat.lt_of_lt_of_le f762.lt (Keep.of_wr W763).1) (Keep.of_wr W766).1) (Keep.of_wr W769).1) (Keep.of_wr W772).1) (Nat.le_of_eq g781.symm))) nin0)).keep (Keep.of_wr W792) (ninS (Nat.ne_of_lt (Nat.lt_of_lt_of_le (Nat.lt_of_lt_of_le (Nat.lt_of_lt_of_le (Nat.lt_of_lt_of_le (Nat.lt_of_lt_of_le f762.lt (Keep.of_wr W763).1) (Keep.of_wr W766).1) (Keep.of_wr W769).1) (Keep.of_wr W772).1) (Nat.le_of_eq g781.symm))) nin0)).keep (Keep.of_wr W795) (ninS (Nat.ne_of_lt (Nat.lt_of_lt_of_le (Nat.lt_of_lt_of_le (Nat.lt_of_lt_of_le (Nat.lt_of_lt_of_le (Nat.lt_of_lt_of_le f762.lt (Keep.of_wr W763).1) (Keep.of_wr W766).1) (Keep.of_wr W769).1) (Keep.of_wr W772).1) (Nat.le_of_eq g781.symm))) nin0))
      refine go_static K X801 (argsL := [(.ref r740), (.int (0 : Int32)), (.int (2 : Int32)), (.ref b616), (.ref b781), (.ref b758)]) (stk := []) (wd hw 54 rfl) (wd hw 55 rfl) (wd hw 3 rfl) (wd hw 56 rfl) (by decide) (lenOf pd_8 rfl) e801 (rmChk2_0 hw r740 b616 b781 b758 x0 x1 x2 x3 r1 r2 r3 t1 t2 t3 b741 (own_runs [(x0.toInt32), (x1.toInt32)]) h795 f800 f798 f799 f802 f797 f803 G.2.1 G.2.2.1) rfl rfl at_280 rfl (by decide) (W := 0) (Nat.le_of_eq rfl) (by decide) (cells' := 7) (slots' := 27) rfl rfl (by decide) (by decide) ?_
      rintro T804 h804 _ X804 e804 ⟨rfl, qe804⟩
      show Go _ _ _ _ _ _ _ (T804.setTop (mkF m 283 #[.val (.int p1), .val (.int p2), .val (.int p3), .val (.int p4), .val (.int p5), .val (.int (2 : Int32)), .val (.long x0), .second, .val (.long x1), .second, .val (.long x2), .second, .val (.long x3), .second, .val (.ref b616), .val (.ref r733), .val (.ref r740), .val (.int t1), .val (.int t2), .val (.int t3), .val (.ref b758), .val (.int r1), .val (.int r2), .val (.int r3), .val (.ref b781)] [(.int (1 : Int32))]))
      replace e804 := e804.trans qe804
      refine go_ifF K X804 at_283 rfl (by decide : ¬ (1 : Int32) = (0 : Int32)) ?_
      refine go_aload K X804 at_286 rfl rfl rfl ?_
      refine go_iconst K X804 (1 : Int32) at_288 rfl rfl ?_
      refine go_iload K X804 at_289 rfl rfl ?_
      refine go_aload K X804 at_291 rfl rfl rfl ?_
      refine go_aload K X804 at_293 rfl rfl rfl ?_
      refine go_aload K X804 at_295 rfl rfl rfl ?_
      refine go_static K X804 (argsL := [(.ref r740), (.int (1 : Int32)), (.int (2 : Int32)), (.ref b616), (.ref b781), (.ref b758)]) (stk := []) (wd hw 54 rfl) (wd hw 55 rfl) (wd hw 3 rfl) (wd hw 56 rfl) (by decide) (lenOf pd_8 rfl) e804 (rmChk2_1 hw r740 b616 b781 b758 x0 x1 x2 x3 r1 r2 r3 t1 t2 t3 b741 (own_runs [(x0.toInt32), (x1.toInt32)]) h795 f800 f798 f799 f802 f797 f803 G.2.2.2.1 G.2.2.2.2) rfl rfl at_297 rfl (by decide) (W := 0) (Nat.le_of_eq rfl) (by decide) (cells' := 7) (slots' := 27) rfl rfl (by decide) (by decide) ?_
      rintro T805 h805 _ X805 e805 ⟨rfl, qe805⟩
      show Go _ _ _ _ _ _ _ (T805.setTop (mkF m 300 #[.val (.int p1), .val (.int p2), .val (.int p3), .val (.int p4), .val (.int p5), .val (.int (2 : Int32)), .val (.long x0), .second, .val (.long x1), .second, .val (.long x2), .second, .val (.long x3), .second, .val (.ref b616), .val (.ref r733), .val (.ref r740), .val (.int t1), .val (.int t2), .val (.int t3), .val (.ref b758), .val (.int r1), .val (.int r2), .val (.int r3), .val (.ref b781)] [(.int (1 : Int32))]))
      replace e805 := e805.trans qe805
      refine go_ifF K X805 at_300 rfl (by decide : ¬ (1 : Int32) = (0 : Int32)) ?_
      refine go_aload K X805 at_303 rfl rfl rfl ?_
      refine go_iconst K X805 (2 : Int32) at_305 rfl rfl ?_
      refine go_iload K X805 at_306 rfl rfl ?_
      refine go_aload K X805 at_308 rfl rfl rfl ?_
      refine go_aload K X805 at_310 rfl rfl rfl ?_
      refine go_aload K X805 at_312 rfl rfl rfl ?_
      refine go_static K X805 (argsL := [(.ref r740), (.int (2 : Int32)), (.int (2 : Int32)), (.ref b616), (.ref b781), (.ref b758)]) (stk := []) (wd hw 54 rfl) (wd hw 55 rfl) (wd hw 3 rfl) (wd hw 56 rfl) (by decide) (lenOf pd_8 rfl) e805 (rmChk2_2 hw r740 b616 b781 b758 x0 x1 x2 x3 r1 r2 r3 t1 t2 t3 b741 (own_runs [(x0.toInt32), (x1.toInt32)]) h795 f800 f798 f799 f802 f797 f803) rfl rfl at_314 rfl (by decide) (W := 0) (Nat.le_of_eq rfl) (by decide) (cells' := 7) (slots' := 27) rfl rfl (by decide) (by decide) ?_
      rintro T806 h806 _ X806 e806 ⟨rfl, qe806⟩
      show Go _ _ _ _ _ _ _ (T806.setTop (mkF m 317 #[.val (.int p1), .val (.int p2), .val (.int p3), .val (.int p4), .val (.int p5), .val (.int (2 : Int32)), .val (.long x0), .second, .val (.long x1), .second, .val (.long x2), .second, .val (.long x3), .second, .val (.ref b616), .val (.ref r733), .val (.ref r740), .val (.int t1), .val (.int t2), .val (.int t3), .val (.ref b758), .val (.int r1), .val (.int r2), .val (.int r3), .val (.ref b781)] [(.int (1 : Int32))]))
      replace e806 := e806.trans qe806
      refine go_ifF K X806 at_317 rfl (by decide : ¬ (1 : Int32) = (0 : Int32)) ?_
      refine go_aload K X806 at_320 rfl rfl rfl ?_
      refine go_iconst K X806 (3 : Int32) at_322 rfl rfl ?_
      refine go_iload K X806 at_323 rfl rfl ?_
      refine go_aload K X806 at_325 rfl rfl rfl ?_
      refine go_aload K X806 at_327 rfl rfl rfl ?_
      refine go_aload K X806 at_329 rfl rfl rfl ?_
      refine go_static K X806 (argsL := [(.ref r740), (.int (3 : Int32)), (.int (2 : Int32)), (.ref b616), (.ref b781), (.ref b758)]) (stk := []) (wd hw 54 rfl) (wd hw 55 rfl) (wd hw 3 rfl) (wd hw 56 rfl) (by decide) (lenOf pd_8 rfl) e806 (rmChk2_3 hw r740 b616 b781 b758 x0 x1 x2 x3 r1 r2 r3 t1 t2 t3 b741 (own_runs [(x0.toInt32), (x1.toInt32)]) h795 f800 f798 f799 f802 f797 f803) rfl rfl at_331 rfl (by decide) (W := 0) (Nat.le_of_eq rfl) (by decide) (cells' := 7) (slots' := 27) rfl rfl (by decide) (by decide) ?_
      rintro T807 h807 _ X807 e807 ⟨rfl, qe807⟩
      show Go _ _ _ _ _ _ _ (T807.setTop (mkF m 334 #[.val (.int p1), .val (.int p2), .val (.int p3), .val (.int p4), .val (.int p5), .val (.int (2 : Int32)), .val (.long x0), .second, .val (.long x1), .second, .val (.long x2), .second, .val (.long x3), .second, .val (.ref b616), .val (.ref r733), .val (.ref r740), .val (.int t1), .val (.int t2), .val (.int t3), .val (.ref b758), .val (.int r1), .val (.int r2), .val (.int r3), .val (.ref b781)] [(.int (1 : Int32))]))
      replace e807 := e807.trans qe807
      refine go_ifF K X807 at_334 rfl (by decide : ¬ (1 : Int32) = (0 : Int32)) ?_
      refine go_iconst K X807 (1 : Int32) at_337 rfl rfl ?_
      refine go_goto K X807 at_338 (by decide) rfl ?_
      refine go_retZ K X807 (Or.inr rfl) at_342 (by decide) (by decide) ?_
      rw [e807]
      exact ⟨rfl, kp796⟩
    · intro (hc731 : ¬ x1 < (2147483647 : Int64))
      refine go_iconst K X630 (1 : Int32) at_84 rfl rfl ?_
      refine go_retZ K X630 (Or.inr rfl) at_85 (by decide) (by decide) ?_
      rw [e630]
      exact ⟨rfl, kp631⟩
  · skip
    refine go_ifF K X630 at_67 rfl (by decide : (0 : Int32) < (3 : Int32)) ?_
    refine go_aload K X630 at_70 rfl rfl rfl ?_
    refine go_iload K X630 at_72 rfl rfl ?_
    refine go_iconst K X630 (1 : Int32) at_74 rfl rfl ?_
    refine go_isub K X630 at_75 rfl ?_
    rw [show ((3 : Int32) - (1 : Int32)) = (2 : Int32) from by decide]
    refine go_laload K X630 e630 f632 (i := 2) rfl rfl at_76 rfl ?_
    refine go_ldc2J K X630 (wd hw 44 rfl) at_77 rfl ?_
    refine go_lif K X630 at_80 rfl at_81 (by decide) rfl rfl ?_ ?_
    · intro (hc808 : x2 < (2147483647 : Int64))
      refine go_iload K X630 at_86 rfl rfl ?_
      refine go_aload K X630 at_88 rfl rfl rfl ?_
      refine go_static K X630 (argsL := [(.int (3 : Int32)), (.ref b616)]) (stk := []) (wd hw 8 rfl) (wd hw 9 rfl) (wd hw 3 rfl) (wd hw 10 rfl) (by decide) (lenOf pd_5 rfl) e630 (rmMake3 hw b616 x0 x1 x2 x3 h630 (Nat.le_trans (Nat.le_trans (Nat.le_trans (Nat.le_trans (Nat.le_trans H0 (Keep.ext (Keep.refl _ []) E616).1) (Keep.of_wr W621).1) (Keep.of_wr W624).1) (Keep.of_wr W627).1) (Keep.of_wr W630).1) f632) rfl rfl at_90 rfl (by decide) (W := 0) (Nat.le_of_eq rfl) (by decide) (cells' := 2) (slots' := 7) rfl rfl (by decide) (by decide) ?_
      rintro T809 h809 _ X809 e809 ⟨r810, rfl, K809, f811, f812⟩
      show Go _ _ _ _ _ _ _ (T809.setTop (mkF m 93 #[.val (.int p1), .val (.int p2), .val (.int p3), .val (.int p4), .val (.int p5), .val (.int (3 : Int32)), .val (.long x0), .second, .val (.long x1), .second, .val (.long x2), .second, .val (.long x3), .second, .val (.ref b616), .unset, .unset, .unset, .unset, .unset, .unset, .unset, .unset, .unset, .unset] [(.ref r810)]))
      have ga813 : n0 ≤ r810 := Nat.le_trans (Nat.le_trans (Nat.le_trans (Nat.le_trans (Nat.le_trans (Nat.le_trans H0 (Keep.ext (Keep.refl _ []) E616).1) (Keep.of_wr W621).1) (Keep.of_wr W624).1) (Keep.of_wr W627).1) (Keep.of_wr W630).1) f811
      have gb814 : h0.size ≤ r810 := Nat.le_trans kp631.1 f811
      have kp815 : Keep h0 h809 [] := kp631.trans K809 all0
      refine go_astore K X809 #[.val (.int p1), .val (.int p2), .val (.int p3), .val (.int p4), .val (.int p5), .val (.int (3 : Int32)), .val (.long x0), .second, .val (.long x1), .second, .val (.long x2), .second, .val (.long x3), .second, .val (.ref b616), .val (.ref r810), .unset, .unset, .unset, .unset, .unset, .unset, .unset, .unset, .unset] at_93 rfl rfl rfl ?_
      refine go_aload K X809 at_95 rfl rfl rfl ?_
      refine go_static K X809 (argsL := [(.ref r810)]) (stk := []) (wd hw 12 rfl) (wd hw 13 rfl) (wd hw 14 rfl) (wd hw 15 rfl) (by decide) (lenOf pd_6 rfl) e809 (rmOfS3 hw r810 (x0.toInt32) (x1.toInt32) (x2.toInt32) h809 (Nat.le_trans (Nat.le_trans (Nat.le_trans (Nat.le_trans (Nat.le_trans (Nat.le_trans H0 (Keep.ext (Keep.refl _ []) E616).1) (Keep.of_wr W621).1) (Keep.of_wr W624).1) (Keep.of_wr W627).1) (Keep.of_wr W630).1) K809.1) f812) rfl rfl at_97 rfl (by decide) (W := 0) (Nat.le_of_eq rfl) (by decide) (cells' := 5) (slots' := 22) rfl rfl (by decide) (by decide) ?_
      rintro T816 h816 _ X816 e816 ⟨r817, b818, rfl, K816, f819, f820, f821, f822, f823⟩
      show Go _ _ _ _ _ _ _ (T816.setTop (mkF m 100 #[.val (.int p1), .val (.int p2), .val (.int p3), .val (.int p4), .val (.int p5), .val (.int (3 : Int32)), .val (.long x0), .second, .val (.long x1), .second, .val (.long x2), .second, .val (.long x3), .second, .val (.ref b616), .val (.ref r810), .unset, .unset, .unset, .unset, .unset, .unset, .unset, .unset, .unset] [(.ref r817)]))
      have ga824 : n0 ≤ r817 := Nat.le_trans (Nat.le_trans (Nat.le_trans (Nat.le_trans (Nat.le_trans (Nat.le_trans (Nat.le_trans H0 (Keep.ext (Keep.refl _ []) E616).1) (Keep.of_wr W621).1) (Keep.of_wr W624).1) (Keep.of_wr W627).1) (Keep.of_wr W630).1) K809.1) f819
      have gb825 : h0.size ≤ r817 := Nat.le_trans kp815.1 f819
      have ga826 : n0 ≤ b818 := Nat.le_trans (Nat.le_trans (Nat.le_trans (Nat.le_trans (Nat.le_trans (Nat.le_trans (Nat.le_trans H0 (Keep.ext (Keep.refl _ []) E616).1) (Keep.of_wr W621).1) (Keep.of_wr W624).1) (Keep.of_wr W627).1) (Keep.of_wr W630).1) K809.1) f820
      have gb827 : h0.size ≤ b818 := Nat.le_trans kp815.1 f820
      have kp828 : Keep h0 h816 [] := kp815.trans K816 all0
      refine go_astore K X816 #[.val (.int p1), .val (.int p2), .val (.int p3), .val (.int p4), .val (.int p5), .val (.int (3 : Int32)), .val (.long x0), .second, .val (.long x1), .second, .val (.long x2), .second, .val (.long x3), .second, .val (.ref b616), .val (.ref r810), .val (.ref r817), .unset, .unset, .unset, .unset, .unset, .unset, .unset, .unset] at_100 rfl rfl rfl ?_
      refine go_iload K X816 at_102 rfl rfl ?_
      refine go_ifT K X816 at_104 (by decide) rfl (by decide : ¬ (3 : Int32) = (0 : Int32)) ?_
      refine go_iloadN K X816 at_121 rfl rfl ?_
      refine go_iconst K X816 (1 : Int32) at_122 rfl rfl ?_
      refine go_iand K X816 at_123 rfl ?_
      refine own_cut (P := fun t1 : Int32 => t1 = if (p2 &&& (1 : Int32)) = (0 : Int32) then (1 : Int32) else (0 : Int32)) (S := fun t1 : Int32 => T816.setTop (mkF m 132 #[.val (.int p1), .val (.int p2), .val (.int p3), .val (.int p4), .val (.int p5), .val (.int (3 : Int32)), .val (.long x0), .second, .val (.long x1), .second, .val (.long x2), .second, .val (.long x3), .second, .val (.ref b616), .val (.ref r810), .val (.ref r817), .unset, .unset, .unset, .unset, .unset, .unset, .unset, .unset] [(.int t1)])) ?_ ?_
      · intro J829
        refine go_if K X816 at_124 (by decide) rfl rfl ?_ ?_
        · intro (hc830 : ¬ (p2 &&& (1 : Int32)) = (0 : Int32))
          refine go_iconst K X816 (0 : Int32) at_131 rfl rfl ?_
          exact J829 _ (if_neg hc830).symm
        · intro (hc830 : (p2 &&& (1 : Int32)) = (0 : Int32))
          refine go_iconst K X816 (1 : Int32) at_127 rfl rfl ?_
          refine go_goto K X816 at_128 (by decide) rfl ?_
          exact J829 _ (if_pos hc830).symm
      intro t1 (h_t1 : t1 = if (p2 &&& (1 : Int32)) = (0 : Int32) then (1 : Int32) else (0 : Int32))
      show Go _ _ _ _ _ _ _ (T816.setTop (mkF m 132 #[.val (.int p1), .val (.int p2), .val (.int p3), .val (.int p4), .val (.int p5), .val (.int (3 : Int32)), .val (.long x0), .second, .val (.long x1), .second, .val (.long x2), .second, .val (.long x3), .second, .val (.ref b616), .val (.ref r810), .val (.ref r817), .unset, .unset, .unset, .unset, .unset, .unset, .unset, .unset] [(.int t1)]))
      refine go_istore K X816 #[.val (.int p1), .val (.int p2), .val (.int p3), .val (.int p4), .val (.int p5), .val (.int (3 : Int32)), .val (.long x0), .second, .val (.long x1), .second, .val (.long x2), .second, .val (.long x3), .second, .val (.ref b616), .val (.ref r810), .val (.ref r817), .val (.int t1), .unset, .unset, .unset, .unset, .unset, .unset, .unset] at_132 rfl rfl ?_
      refine go_iloadN K X816 at_134 rfl rfl ?_
      refine go_iconst K X816 (1 : Int32) at_135 rfl rfl ?_
      refine go_iand K X816 at_136 rfl ?_
      refine own_cut (P := fun t2 : Int32 => t2 = if (p3 &&& (1 : Int32)) = (0 : Int32) then (1 : Int32) else (0 : Int32)) (S := fun t2 : Int32 => T816.setTop (mkF m 145 #[.val (.int p1), .val (.int p2), .val (.int p3), .val (.int p4), .val (.int p5), .val (.int (3 : Int32)), .val (.long x0), .second, .val (.long x1), .second, .val (.long x2), .second, .val (.long x3), .second, .val (.ref b616), .val (.ref r810), .val (.ref r817), .val (.int t1), .unset, .unset, .unset, .unset, .unset, .unset, .unset] [(.int t2)])) ?_ ?_
      · intro J831
        refine go_if K X816 at_137 (by decide) rfl rfl ?_ ?_
        · intro (hc832 : ¬ (p3 &&& (1 : Int32)) = (0 : Int32))
          refine go_iconst K X816 (0 : Int32) at_144 rfl rfl ?_
          exact J831 _ (if_neg hc832).symm
        · intro (hc832 : (p3 &&& (1 : Int32)) = (0 : Int32))
          refine go_iconst K X816 (1 : Int32) at_140 rfl rfl ?_
          refine go_goto K X816 at_141 (by decide) rfl ?_
          exact J831 _ (if_pos hc832).symm
      intro t2 (h_t2 : t2 = if (p3 &&& (1 : Int32)) = (0 : Int32) then (1 : Int32) else (0 : Int32))
      show Go _ _ _ _ _ _ _ (T816.setTop (mkF m 145 #[.val (.int p1), .val (.int p2), .val (.int p3), .val (.int p4), .val (.int p5), .val (.int (3 : Int32)), .val (.long x0), .second, .val (.long x1), .second, .val (.long x2), .second, .val (.long x3), .second, .val (.ref b616), .val (.ref r810), .val (.ref r817), .val (.int t1), .unset, .unset, .unset, .unset, .unset, .unset, .unset] [(.int t2)]))
      refine go_istore K X816 #[.val (.int p1), .val (.int p2), .val (.int p3), .val (.int p4), .val (.int p5), .val (.int (3 : Int32)), .val (.long x0), .second, .val (.long x1), .second, .val (.long x2), .second, .val (.long x3), .second, .val (.ref b616), .val (.ref r810), .val (.ref r817), .val (.int t1), .val (.int t2), .unset, .unset, .unset, .unset, .unset, .unset] at_145 rfl rfl ?_
      refine go_iloadN K X816 at_147 rfl rfl ?_
      refine go_iconst K X816 (1 : Int32) at_148 rfl rfl ?_
      refine go_iand K X816 at_149 rfl ?_
      refine own_cut (P := fun t3 : Int32 => t3 = if (p4 &&& (1 : Int32)) = (0 : Int32) then (1 : Int32) else (0 : Int32)) (S := fun t3 : Int32 => T816.setTop (mkF m 158 #[.val (.int p1), .val (.int p2), .val (.int p3), .val (.int p4), .val (.int p5), .val (.int (3 : Int32)), .val (.long x0), .second, .val (.long x1), .second, .val (.long x2), .second, .val (.long x3), .second, .val (.ref b616), .val (.ref r810), .val (.ref r817), .val (.int t1), .val (.int t2), .unset, .unset, .unset, .unset, .unset, .unset] [(.int t3)])) ?_ ?_
      · intro J833
        refine go_if K X816 at_150 (by decide) rfl rfl ?_ ?_
        · intro (hc834 : ¬ (p4 &&& (1 : Int32)) = (0 : Int32))
          refine go_iconst K X816 (0 : Int32) at_157 rfl rfl ?_
          exact J833 _ (if_neg hc834).symm
        · intro (hc834 : (p4 &&& (1 : Int32)) = (0 : Int32))
          refine go_iconst K X816 (1 : Int32) at_153 rfl rfl ?_
          refine go_goto K X816 at_154 (by decide) rfl ?_
          exact J833 _ (if_pos hc834).symm
      intro t3 (h_t3 : t3 = if (p4 &&& (1 : Int32)) = (0 : Int32) then (1 : Int32) else (0 : Int32))
      show Go _ _ _ _ _ _ _ (T816.setTop (mkF m 158 #[.val (.int p1), .val (.int p2), .val (.int p3), .val (.int p4), .val (.int p5), .val (.int (3 : Int32)), .val (.long x0), .second, .val (.long x1), .second, .val (.long x2), .second, .val (.long x3), .second, .val (.ref b616), .val (.ref r810), .val (.ref r817), .val (.int t1), .val (.int t2), .unset, .unset, .unset, .unset, .unset, .unset] [(.int t3)]))
      refine go_istore K X816 #[.val (.int p1), .val (.int p2), .val (.int p3), .val (.int p4), .val (.int p5), .val (.int (3 : Int32)), .val (.long x0), .second, .val (.long x1), .second, .val (.long x2), .second, .val (.long x3), .second, .val (.ref b616), .val (.ref r810), .val (.ref r817), .val (.int t1), .val (.int t2), .val (.int t3), .unset, .unset, .unset, .unset, .unset] at_158 rfl rfl ?_
      refine go_iconst K X816 (4 : Int32) at_160 rfl rfl ?_
      refine go_newarray K X816 (wd hw 53 rfl) e816 at_161 (i := 4) (cap := 4) rfl (by decide) (by decide) rfl (cells' := 6) (slots' := 26) rfl rfl (by decide) (by decide) ?_
      intro T835 h835 b835 g835 X835 e835 E835 A835
      have ga836 : n0 ≤ b835 := Nat.le_trans (Nat.le_trans (Nat.le_trans (Nat.le_trans (Nat.le_trans (Nat.le_trans (Nat.le_trans (Nat.le_trans H0 (Keep.ext (Keep.refl _ []) E616).1) (Keep.of_wr W621).1) (Keep.of_wr W624).1) (Keep.of_wr W627).1) (Keep.of_wr W630).1) K809.1) K816.1) (Nat.le_of_eq g835.symm)
      have gb837 : h0.size ≤ b835 := Nat.le_trans kp828.1 (Nat.le_of_eq g835.symm)
      have kp838 : Keep h0 h835 [] := kp828.trans (Keep.ext (Keep.refl _ []) E835) all0
      have f839 : AV Z h835 b835 .boolean [(.int (0 : Int32)), (.int (0 : Int32)), (.int (0 : Int32)), (.int (0 : Int32))] := A835
      refine go_dup K X835 at_163 rfl rfl ?_
      refine go_iconst K X835 (0 : Int32) at_164 rfl rfl ?_
      refine go_iconst K X835 (0 : Int32) at_165 rfl rfl ?_
      refine go_bastoreZ K X835 e835 f839 (i := 0) rfl (Nat.le_of_ble_eq_true rfl) rfl ga836 at_166 rfl ?_
      intro T840 h840 X840 e840 W840 A840
      have kp841 : Keep h0 h840 [] := kp838.trans (Keep.of_wr W840) (allS (Or.inr gb837) all0)
      have f842 : AV Z h840 b835 .boolean [(.int (0 : Int32)), (.int (0 : Int32)), (.int (0 : Int32)), (.int (0 : Int32))] := A840
      refine go_dup K X840 at_167 rfl rfl ?_
      refine go_iconst K X840 (1 : Int32) at_168 rfl rfl ?_
      refine go_iload K X840 at_169 rfl rfl ?_
      refine go_bastoreZ K X840 e840 f842 (i := 1) rfl (Nat.le_of_ble_eq_true rfl) (own_nar h_t1) ga836 at_171 rfl ?_
      intro T843 h843 X843 e843 W843 A843
      have kp844 : Keep h0 h843 [] := kp841.trans (Keep.of_wr W843) (allS (Or.inr gb837) all0)
      have f845 : AV Z h843 b835 .boolean [(.int (0 : Int32)), (.int t1), (.int (0 : Int32)), (.int (0 : Int32))] := A843
      refine go_dup K X843 at_172 rfl rfl ?_
      refine go_iconst K X843 (2 : Int32) at_173 rfl rfl ?_
      refine go_iload K X843 at_174 rfl rfl ?_
      refine go_bastoreZ K X843 e843 f845 (i := 2) rfl (Nat.le_of_ble_eq_true rfl) (own_nar h_t2) ga836 at_176 rfl ?_
      intro T846 h846 X846 e846 W846 A846
      have kp847 : Keep h0 h846 [] := kp844.trans (Keep.of_wr W846) (allS (Or.inr gb837) all0)
      have f848 : AV Z h846 b835 .boolean [(.int (0 : Int32)), (.int t1), (.int t2), (.int (0 : Int32))] := A846
      refine go_dup K X846 at_177 rfl rfl ?_
      refine go_iconst K X846 (3 : Int32) at_178 rfl rfl ?_
      refine go_iload K X846 at_179 rfl rfl ?_
      refine go_bastoreZ K X846 e846 f848 (i := 3) rfl (Nat.le_of_ble_eq_true rfl) (own_nar h_t3) ga836 at_181 rfl ?_
      intro T849 h849 X849 e849 W849 A849
      have kp850 : Keep h0 h849 [] := kp847.trans (Keep.of_wr W849) (allS (Or.inr gb837) all0)
      have f851 : AV Z h849 b835 .boolean [(.int (0 : Int32)), (.int t1), (.int t2), (.int t3)] := A849
      refine go_astore K X849 #[.val (.int p1), .val (.int p2), .val (.int p3), .val (.int p4), .val (.int p5), .val (.int (3 : Int32)), .val (.long x0), .second, .val (.long x1), .second, .val (.long x2), .second, .val (.long x3), .second, .val (.ref b616), .val (.ref r810), .val (.ref r817), .val (.int t1), .val (.int t2), .val (.int t3), .val (.ref b835), .unset, .unset, .unset, .unset] at_182 rfl rfl rfl ?_
      refine go_iload K X849 at_184 rfl rfl ?_
      refine own_cut (P := fun r1 : Int32 => r1 = if t1 = (0 : Int32) then (1 : Int32) else (0 : Int32)) (S := fun r1 : Int32 => T849.setTop (mkF m 194 #[.val (.int p1), .val (.int p2), .val (.int p3), .val (.int p4), .val (.int p5), .val (.int (3 : Int32)), .val (.long x0), .second, .val (.long x1), .second, .val (.long x2), .second, .val (.long x3), .second, .val (.ref b616), .val (.ref r810), .val (.ref r817), .val (.int t1), .val (.int t2), .val (.int t3), .val (.ref b835), .unset, .unset, .unset, .unset] [(.int r1)])) ?_ ?_
      · intro J852
        refine go_if K X849 at_186 (by decide) rfl rfl ?_ ?_
        · intro (hc853 : t1 = (0 : Int32))
          refine go_iconst K X849 (1 : Int32) at_193 rfl rfl ?_
          exact J852 _ (if_pos hc853).symm
        · intro (hc853 : ¬ t1 = (0 : Int32))
          refine go_iconst K X849 (0 : Int32) at_189 rfl rfl ?_
          refine go_goto K X849 at_190 (by decide) rfl ?_
          exact J852 _ (if_neg hc853).symm
      intro r1 (h_r1 : r1 = if t1 = (0 : Int32) then (1 : Int32) else (0 : Int32))
      show Go _ _ _ _ _ _ _ (T849.setTop (mkF m 194 #[.val (.int p1), .val (.int p2), .val (.int p3), .val (.int p4), .val (.int p5), .val (.int (3 : Int32)), .val (.long x0), .second, .val (.long x1), .second, .val (.long x2), .second, .val (.long x3), .second, .val (.ref b616), .val (.ref r810), .val (.ref r817), .val (.int t1), .val (.int t2), .val (.int t3), .val (.ref b835), .unset, .unset, .unset, .unset] [(.int r1)]))
      refine go_istore K X849 #[.val (.int p1), .val (.int p2), .val (.int p3), .val (.int p4), .val (.int p5), .val (.int (3 : Int32)), .val (.long x0), .second, .val (.long x1), .second, .val (.long x2), .second, .val (.long x3), .second, .val (.ref b616), .val (.ref r810), .val (.ref r817), .val (.int t1), .val (.int t2), .val (.int t3), .val (.ref b835), .val (.int r1), .unset, .unset, .unset] at_194 rfl rfl ?_
      refine go_iload K X849 at_196 rfl rfl ?_
      refine go_iload K X849 at_198 rfl rfl ?_
      refine own_cut (P := fun c2 : Int32 => c2 = if t2 = (0 : Int32) then (1 : Int32) else (0 : Int32)) (S := fun c2 : Int32 => T849.setTop (mkF m 208 #[.val (.int p1), .val (.int p2), .val (.int p3), .val (.int p4), .val (.int p5), .val (.int (3 : Int32)), .val (.long x0), .second, .val (.long x1), .second, .val (.long x2), .second, .val (.long x3), .second, .val (.ref b616), .val (.ref r810), .val (.ref r817), .val (.int t1), .val (.int t2), .val (.int t3), .val (.ref b835), .val (.int r1), .unset, .unset, .unset] [(.int c2), (.int r1)])) ?_ ?_
      · intro J854
        refine go_if K X849 at_200 (by decide) rfl rfl ?_ ?_
        · intro (hc855 : t2 = (0 : Int32))
          refine go_iconst K X849 (1 : Int32) at_207 rfl rfl ?_
          exact J854 _ (if_pos hc855).symm
        · intro (hc855 : ¬ t2 = (0 : Int32))
          refine go_iconst K X849 (0 : Int32) at_203 rfl rfl ?_
          refine go_goto K X849 at_204 (by decide) rfl ?_
          exact J854 _ (if_neg hc855).symm
      intro c2 (h_c2 : c2 = if t2 = (0 : Int32) then (1 : Int32) else (0 : Int32))
      show Go _ _ _ _ _ _ _ (T849.setTop (mkF m 208 #[.val (.int p1), .val (.int p2), .val (.int p3), .val (.int p4), .val (.int p5), .val (.int (3 : Int32)), .val (.long x0), .second, .val (.long x1), .second, .val (.long x2), .second, .val (.long x3), .second, .val (.ref b616), .val (.ref r810), .val (.ref r817), .val (.int t1), .val (.int t2), .val (.int t3), .val (.ref b835), .val (.int r1), .unset, .unset, .unset] [(.int c2), (.int r1)]))
      refine go_iadd K X849 at_208 rfl ?_
      generalize h_r2 : (r1 + c2) = r2
      refine go_istore K X849 #[.val (.int p1), .val (.int p2), .val (.int p3), .val (.int p4), .val (.int p5), .val (.int (3 : Int32)), .val (.long x0), .second, .val (.long x1), .second, .val (.long x2), .second, .val (.long x3), .second, .val (.ref b616), .val (.ref r810), .val (.ref r817), .val (.int t1), .val (.int t2), .val (.int t3), .val (.ref b835), .val (.int r1), .val (.int r2), .unset, .unset] at_209 rfl rfl ?_
      refine go_iload K X849 at_211 rfl rfl ?_
      refine go_iload K X849 at_213 rfl rfl ?_
      refine own_cut (P := fun c3 : Int32 => c3 = if t3 = (0 : Int32) then (1 : Int32) else (0 : Int32)) (S := fun c3 : Int32 => T849.setTop (mkF m 223 #[.val (.int p1), .val (.int p2), .val (.int p3), .val (.int p4), .val (.int p5), .val (.int (3 : Int32)), .val (.long x0), .second, .val (.long x1), .second, .val (.long x2), .second, .val (.long x3), .second, .val (.ref b616), .val (.ref r810), .val (.ref r817), .val (.int t1), .val (.int t2), .val (.int t3), .val (.ref b835), .val (.int r1), .val (.int r2), .unset, .unset] [(.int c3), (.int r2)])) ?_ ?_
      · intro J856
        refine go_if K X849 at_215 (by decide) rfl rfl ?_ ?_
        · intro (hc857 : t3 = (0 : Int32))
          refine go_iconst K X849 (1 : Int32) at_222 rfl rfl ?_
          exact J856 _ (if_pos hc857).symm
        · intro (hc857 : ¬ t3 = (0 : Int32))
          refine go_iconst K X849 (0 : Int32) at_218 rfl rfl ?_
          refine go_goto K X849 at_219 (by decide) rfl ?_
          exact J856 _ (if_neg hc857).symm
      intro c3 (h_c3 : c3 = if t3 = (0 : Int32) then (1 : Int32) else (0 : Int32))
      show Go _ _ _ _ _ _ _ (T849.setTop (mkF m 223 #[.val (.int p1), .val (.int p2), .val (.int p3), .val (.int p4), .val (.int p5), .val (.int (3 : Int32)), .val (.long x0), .second, .val (.long x1), .second, .val (.long x2), .second, .val (.long x3), .second, .val (.ref b616), .val (.ref r810), .val (.ref r817), .val (.int t1), .val (.int t2), .val (.int t3), .val (.ref b835), .val (.int r1), .val (.int r2), .unset, .unset] [(.int c3), (.int r2)]))
      refine go_iadd K X849 at_223 rfl ?_
      generalize h_r3 : (r2 + c3) = r3
      have G := own_good3 h_x0 h_x1 h_x2 h_x3 h_t1 h_t2 h_t3 h_r1 h_c2 h_r2 h_c3 h_r3 hc808
      refine go_istore K X849 #[.val (.int p1), .val (.int p2), .val (.int p3), .val (.int p4), .val (.int p5), .val (.int (3 : Int32)), .val (.long x0), .second, .val (.long x1), .second, .val (.long x2), .second, .val (.long x3), .second, .val (.ref b616), .val (.ref r810), .val (.ref r817), .val (.int t1), .val (.int t2), .val (.int t3), .val (.ref b835), .val (.int r1), .val (.int r2), .val (.int r3), .unset] at_224 rfl rfl ?_
      refine go_iconst K X849 (4 : Int32) at_226 rfl rfl ?_
      refine go_newarray K X849 (wd hw 11 rfl) e849 at_227 (i := 4) (cap := 4) rfl (by decide) (by decide) rfl (cells' := 7) (slots' := 30) rfl rfl (by decide) (by decide) ?_
      intro T858 h858 b858 g858 X858 e858 E858 A858
      have ga859 : n0 ≤ b858 := Nat.le_trans (Nat.le_trans (Nat.le_trans (Nat.le_trans (Nat.le_trans (Nat.le_trans (Nat.le_trans (Nat.le_trans (Nat.le_trans (Nat.le_trans (Nat.le_trans (Nat.le_trans (Nat.le_trans H0 (Keep.ext (Keep.refl _ []) E616).1) (Keep.of_wr W621).1) (Keep.of_wr W624).1) (Keep.of_wr W627).1) (Keep.of_wr W630).1) K809.1) K816.1) (Keep.ext (Keep.refl _ []) E835).1) (Keep.of_wr W840).1) (Keep.of_wr W843).1) (Keep.of_wr W846).1) (Keep.of_wr W849).1) (Nat.le_of_eq g858.symm)
      have gb860 : h0.size ≤ b858 := Nat.le_trans kp850.1 (Nat.le_of_eq g858.symm)
      have kp861 : Keep h0 h858 [] := kp850.trans (Keep.ext (Keep.refl _ []) E858) all0
      have f862 : AV Z h858 b858 .int [(.int (0 : Int32)), (.int (0 : Int32)), (.int (0 : Int32)), (.int (0 : Int32))] := A858
      refine go_dup K X858 at_229 rfl rfl ?_
      refine go_iconst K X858 (0 : Int32) at_230 rfl rfl ?_
      refine go_iconst K X858 (0 : Int32) at_231 rfl rfl ?_
      refine go_iastore K X858 e858 f862 (i := 0) rfl (Nat.le_of_ble_eq_true rfl) ga859 at_232 rfl ?_
      intro T863 h863 X863 e863 W863 A863
      have kp864 : Keep h0 h863 [] := kp861.trans (Keep.of_wr W863) (allS (Or.inr gb860) all0)
      have f865 : AV Z h863 b858 .int [(.int (0 : Int32)), (.int (0 : Int32)), (.int (0 : Int32)), (.int (0 : Int32))] := A863
      refine go_dup K X863 at_233 rfl rfl ?_
      refine go_iconst K X863 (1 : Int32) at_234 rfl rfl ?_
      refine go_iload K X863 at_235 rfl rfl ?_
      refine go_iastore K X863 e863 f865 (i := 1) rfl (Nat.le_of_ble_eq_true rfl) ga859 at_237 rfl ?_
      intro T866 h866 X866 e866 W866 A866
      have kp867 : Keep h0 h866 [] := kp864.trans (Keep.of_wr W866) (allS (Or.inr gb860) all0)
      have f868 : AV Z h866 b858 .int [(.int (0 : Int32)), (.int r1), (.int (0 : Int32)), (.int (0 : Int32))] := A866
      refine go_dup K X866 at_238 rfl rfl ?_
      refine go_iconst K X866 (2 : Int32) at_239 rfl rfl ?_
      refine go_iload K X866 at_240 rfl rfl ?_
      refine go_iastore K X866 e866 f868 (i := 2) rfl (Nat.le_of_ble_eq_true rfl) ga859 at_242 rfl ?_
      intro T869 h869 X869 e869 W869 A869
      have kp870 : Keep h0 h869 [] := kp867.trans (Keep.of_wr W869) (allS (Or.inr gb860) all0)
      have f871 : AV Z h869 b858 .int [(.int (0 : Int32)), (.int r1), (.int r2), (.int (0 : Int32))] := A869
      refine go_dup K X869 at_243 rfl rfl ?_
      refine go_iconst K X869 (3 : Int32) at_244 rfl rfl ?_
      refine go_iload K X869 at_245 rfl rfl ?_
      refine go_iastore K X869 e869 f871 (i := 3) rfl (Nat.le_of_ble_eq_true rfl) ga859 at_247 rfl ?_
      intro T872 h872 X872 e872 W872 A872
      have kp873 : Keep h0 h872 [] := kp870.trans (Keep.of_wr W872) (allS (Or.inr gb860) all0)
      have f874 : AV Z h872 b858 .int [(.int (0 : Int32)), (.int r1), (.int r2), (.int r3)] := A872
      refine go_astore K X872 #[.val (.int p1), .val (.int p2), .val (.int p3), .val (.int p4), .val (.int p5), .val (.int (3 : Int32)), .val (.long x0), .second, .val (.long x1), .second, .val (.long x2), .second, .val (.long x3), .second, .val (.ref b616), .val (.ref r810), .val (.ref r817), .val (.int t1), .val (.int t2), .val (.int t3), .val (.ref b835), .val (.int r1), .val (.int r2), .val (.int r3), .val (.ref b858)] at_248 rfl rfl rfl ?_
      refine go_aload K X872 at_250 rfl rfl rfl ?_
      have f875 : Fld Z h872 r817 "com/example/divided_duty/dividedduty/policy/Ranges" "bounds" "[I" (.ref b818) := ((((((((((f822.keep (Keep.ext (Keep.refl _ []) E835) nin0).keep (Keep.of_wr W840) (ninS (Nat.ne_of_lt (Nat.lt_of_lt_of_le f821.lt (Nat.le_of_eq g835.symm))) nin0)).keep (Keep.of_wr W843) (ninS (Nat.ne_of_lt (Nat.lt_of_lt_of_le f821.lt (Nat.le_of_eq g835.symm))) nin0)).keep (Keep.of_wr W846) (ninS (Nat.ne_of_lt (Nat.lt_of_lt_of_le f821.lt (Nat.le_of_eq g835.symm))) nin0)).keep (Keep.of_wr W849) (ninS (Nat.ne_of_lt (Nat.lt_of_lt_of_le f821.lt (Nat.le_of_eq g835.symm))) nin0)).keep (Keep.ext (Keep.refl _ []) E858) nin0).keep (Keep.of_wr W863) (ninS (Nat.ne_of_lt (Nat.lt_of_lt_of_le (Nat.lt_of_lt_of_le (Nat.lt_of_lt_of_le (Nat.lt_of_lt_of_le (Nat.lt_of_lt_of_le (Nat.lt_of_lt_of_le f821.lt (Keep.ext (Keep.refl _ []) E835).1) (Keep.of_wr W840).1) (Keep.of_wr W843).1) (Keep.of_wr W846).1) (Keep.of_wr W849).1) (Nat.le_of_eq g858.symm))) nin0)).keep (Keep.of_wr W866) (ninS (Nat.ne_of_lt (Nat.lt_of_lt_of_le (Nat.lt_of_lt_of_le (Nat.lt_of_lt_of_le (Nat.lt_of_lt_of_le (Nat.lt_of_lt_of_le (Nat.lt_of_lt_of_le f821.lt (Keep.ext (Keep.refl _ []) E835).1) (Keep.of_wr W840).1) (Keep.of_wr W843).1) (Keep.of_wr W846).1) (Keep.of_wr W849).1) (Nat.le_of_eq g858.symm))) nin0)).keep (Keep.of_wr W869) (ninS (Nat.ne_of_lt (Nat.lt_of_lt_of_le (Nat.lt_of_lt_of_le (Nat.lt_of_lt_of_le (Nat.lt_of_lt_of_le (Nat.lt_of_lt_of_le (Nat.lt_of_lt_of_le f821.lt (Keep.ext (Keep.refl _ []) E835).1) (Keep.of_wr W840).1) (Keep.of_wr W843).1) (Keep.of_wr W846).1) (Keep.of_wr W849).1) (Nat.le_of_eq g858.symm))) nin0)).keep (Keep.of_wr W872) (ninS (Nat.ne_of_lt (Nat.lt_of_lt_of_le (Nat.lt_of_lt_of_le (Nat.lt_of_lt_of_le (Nat.lt_of_lt_of_le (Nat.lt_of_lt_of_le (Nat.lt_of_lt_of_le f821.lt (Keep.ext (Keep.refl _ []) E835).1) (Keep.of_wr W840).1) (Keep.of_wr W843).1) (Keep.of_wr W846).1) (Keep.of_wr W849).1) (Nat.le_of_eq g858.symm))) nin0))
      have f876 : AV Z h872 b818 .int (own_runs [(x0.toInt32), (x1.toInt32), (x2.toInt32)]) := ((((((((((f823.keep (Keep.ext (Keep.refl _ []) E835) nin0).keep (Keep.of_wr W840) (ninS (Nat.ne_of_lt (Nat.lt_of_lt_of_le f823.lt (Nat.le_of_eq g835.symm))) nin0)).keep (Keep.of_wr W843) (ninS (Nat.ne_of_lt (Nat.lt_of_lt_of_le f823.lt (Nat.le_of_eq g835.symm))) nin0)).keep (Keep.of_wr W846) (ninS (Nat.ne_of_lt (Nat.lt_of_lt_of_le f823.lt (Nat.le_of_eq g835.symm))) nin0)).keep (Keep.of_wr W849) (ninS (Nat.ne_of_lt (Nat.lt_of_lt_of_le f823.lt (Nat.le_of_eq g835.symm))) nin0)).keep (Keep.ext (Keep.refl _ []) E858) nin0).keep (Keep.of_wr W863) (ninS (Nat.ne_of_lt (Nat.lt_of_lt_of_le (Nat.lt_of_lt_of_le (Nat.lt_of_lt_of_le (Nat.lt_of_lt_of_le (Nat.lt_of_lt_of_le (Nat.lt_of_lt_of_le f823.lt (Keep.ext (Keep.refl _ []) E835).1) (Keep.of_wr W840).1) (Keep.of_wr W843).1) (Keep.of_wr W846).1) (Keep.of_wr W849).1) (Nat.le_of_eq g858.symm))) nin0)).keep (Keep.of_wr W866) (ninS (Nat.ne_of_lt (Nat.lt_of_lt_of_le (Nat.lt_of_lt_of_le (Nat.lt_of_lt_of_le (Nat.lt_of_lt_of_le (Nat.lt_of_lt_of_le (Nat.lt_of_lt_of_le f823.lt (Keep.ext (Keep.refl _ []) E835).1) (Keep.of_wr W840).1) (Keep.of_wr W843).1) (Keep.of_wr W846).1) (Keep.of_wr W849).1) (Nat.le_of_eq g858.symm))) nin0)).keep (Keep.of_wr W869) (ninS (Nat.ne_of_lt (Nat.lt_of_lt_of_le (Nat.lt_of_lt_of_le (Nat.lt_of_lt_of_le (Nat.lt_of_lt_of_le (Nat.lt_of_lt_of_le (Nat.lt_of_lt_of_le f823.lt (Keep.ext (Keep.refl _ []) E835).1) (Keep.of_wr W840).1) (Keep.of_wr W843).1) (Keep.of_wr W846).1) (Keep.of_wr W849).1) (Nat.le_of_eq g858.symm))) nin0)).keep (Keep.of_wr W872) (ninS (Nat.ne_of_lt (Nat.lt_of_lt_of_le (Nat.lt_of_lt_of_le (Nat.lt_of_lt_of_le (Nat.lt_of_lt_of_le (Nat.lt_of_lt_of_le (Nat.lt_of_lt_of_le f823.lt (Keep.ext (Keep.refl _ []) E835).1) (Keep.of_wr W840).1) (Keep.of_wr W843).1) (Keep.of_wr W846).1) (Keep.of_wr W849).1) (Nat.le_of_eq g858.symm))) nin0))
      have f877 : Exa Z h872 r817 "com/example/divided_duty/dividedduty/policy/Ranges" := ((((((((((f821.keep (Keep.ext (Keep.refl _ []) E835)).keep (Keep.of_wr W840)).keep (Keep.of_wr W843)).keep (Keep.of_wr W846)).keep (Keep.of_wr W849)).keep (Keep.ext (Keep.refl _ []) E858)).keep (Keep.of_wr W863)).keep (Keep.of_wr W866)).keep (Keep.of_wr W869)).keep (Keep.of_wr W872))
      refine go_virt K X872 (a := r817) (argsL := []) (stk := []) (wd hw 39 rfl) (wd hw 40 rfl) (wd hw 42 rfl) (wd hw 42 rfl) (wd hw 41 rfl) (wd hw 43 rfl) (wd hw 14 rfl) (by decide) (lenOf pd_7 rfl) e872 f877 (rmSize hw r817 b818 (own_runs [(x0.toInt32), (x1.toInt32), (x2.toInt32)]) h872 f875 f876) rfl rfl at_252 rfl (by decide) (W := 0) (Nat.le_of_eq rfl) (by decide) (cells' := 7) (slots' := 30) rfl rfl (by decide) (by decide) ?_
      rintro T878 h878 _ X878 e878 ⟨rfl, qe878⟩
      show Go _ _ _ _ _ _ _ (T878.setTop (mkF m 255 #[.val (.int p1), .val (.int p2), .val (.int p3), .val (.int p4), .val (.int p5), .val (.int (3 : Int32)), .val (.long x0), .second, .val (.long x1), .second, .val (.long x2), .second, .val (.long x3), .second, .val (.ref b616), .val (.ref r810), .val (.ref r817), .val (.int t1), .val (.int t2), .val (.int t3), .val (.ref b835), .val (.int r1), .val (.int r2), .val (.int r3), .val (.ref b858)] [(.int ((own_runs [(x0.toInt32), (x1.toInt32), (x2.toInt32)]).length.toInt32 / (2 : Int32)))]))
      replace e878 := e878.trans qe878
      refine go_aload K X878 at_255 rfl rfl rfl ?_
      refine go_iload K X878 at_257 rfl rfl ?_
      refine go_iconst K X878 (1 : Int32) at_259 rfl rfl ?_
      refine go_isub K X878 at_260 rfl ?_
      rw [show ((3 : Int32) - (1 : Int32)) = (2 : Int32) from by decide]
      refine go_iaload K X878 e878 f874 (i := 2) rfl rfl at_261 rfl ?_
      refine go_iconst K X878 (1 : Int32) at_262 rfl rfl ?_
      refine go_iadd K X878 at_263 rfl ?_
      refine go_icmpT K X878 at_264 (by decide) rfl (G.1 : ((own_runs [(x0.toInt32), (x1.toInt32), (x2.toInt32)]).length.toInt32 / (2 : Int32)) = (r2 + (1 : Int32))) ?_
      refine go_aload K X878 at_269 rfl rfl rfl ?_
      refine go_iconst K X878 (0 : Int32) at_271 rfl rfl ?_
      refine go_iload K X878 at_272 rfl rfl ?_
      refine go_aload K X878 at_274 rfl rfl rfl ?_
      refine go_aload K X878 at_276 rfl rfl rfl ?_
      refine go_aload K X878 at_278 rfl rfl rfl ?_
      have f879 : AV Z h872 b616 .long [(.long x0), (.long x1), (.long x2), (.long x3)] := ((((((((((((f632.keep K809 nin0).keep K816 nin0).keep (Keep.ext (Keep.refl _ []) E835) nin0).keep (Keep.of_wr W840) (ninS (Nat.ne_of_lt (Nat.lt_of_lt_of_le (Nat.lt_of_lt_of_le (Nat.lt_of_lt_of_le (Nat.lt_of_lt_of_le (Nat.lt_of_lt_of_le (Nat.lt_of_lt_of_le (Nat.lt_of_lt_of_le f620.lt (Keep.of_wr W621).1) (Keep.of_wr W624).1) (Keep.of_wr W627).1) (Keep.of_wr W630).1) K809.1) K816.1) (Nat.le_of_eq g835.symm))) nin0)).keep (Keep.of_wr W843) (ninS (Nat.ne_of_lt (Nat.lt_of_lt_of_le (Nat.lt_of_lt_of_le (Nat.lt_of_lt_of_le (Nat.lt_of_lt_of_le (Nat.lt_of_lt_of_le (Nat.lt_of_lt_of_le (Nat.lt_of_lt_of_le f620.lt (Keep.of_wr W621).1) (Keep.of_wr W624).1) (Keep.of_wr W627).1) (Keep.of_wr W630).1) K809.1) K816.1) (Nat.le_of_eq g835.symm))) nin0)).keep (Keep.of_wr W846) (ninS (Nat.ne_of_lt (Nat.lt_of_lt_of_le (Nat.lt_of_lt_of_le (Nat.lt_of_lt_of_le (Nat.lt_of_lt_of_le (Nat.lt_of_lt_of_le (Nat.lt_of_lt_of_le (Nat.lt_of_lt_of_le f620.lt (Keep.of_wr W621).1) (Keep.of_wr W624).1) (Keep.of_wr W627).1) (Keep.of_wr W630).1) K809.1) K816.1) (Nat.le_of_eq g835.symm))) nin0)).keep (Keep.of_wr W849) (ninS (Nat.ne_of_lt (Nat.lt_of_lt_of_le (Nat.lt_of_lt_of_le (Nat.lt_of_lt_of_le (Nat.lt_of_lt_of_le (Nat.lt_of_lt_of_le (Nat.lt_of_lt_of_le (Nat.lt_of_lt_of_le f620.lt (Keep.of_wr W621).1) (Keep.of_wr W624).1) (Keep.of_wr W627).1) (Keep.of_wr W630).1) K809.1) K816.1) (Nat.le_of_eq g835.symm))) nin0)).keep (Keep.ext (Keep.refl _ []) E858) nin0).keep (Keep.of_wr W863) (ninS (Nat.ne_of_lt (Nat.lt_of_lt_of_le (Nat.lt_of_lt_of_le (Nat.lt_of_lt_of_le (Nat.lt_of_lt_of_le (Nat.lt_of_lt_of_le (Nat.lt_of_lt_of_le (Nat.lt_of_lt_of_le (Nat.lt_of_lt_of_le (Nat.lt_of_lt_of_le (Nat.lt_of_lt_of_le (Nat.lt_of_lt_of_le (Nat.lt_of_lt_of_le f620.lt (Keep.of_wr W621).1) (Keep.of_wr W624).1) (Keep.of_wr W627).1) (Keep.of_wr W630).1) K809.1) K816.1) (Keep.ext (Keep.refl _ []) E835).1) (Keep.of_wr W840).1) (Keep.of_wr W843).1) (Keep.of_wr W846).1) (Keep.of_wr W849).1) (Nat.le_of_eq g858.symm))) nin0)).keep (Keep.of_wr W866) (ninS (Nat.ne_of_lt (Nat.lt_of_lt_of_le (Nat.lt_of_lt_of_le (Nat.lt_of_lt_of_le (Nat.lt_of_lt_of_le (Nat.lt_of_lt_of_le (Nat.lt_of_lt_of_le (Nat.lt_of_lt_of_le (Nat.lt_of_lt_of_le (Nat.lt_of_lt_of_le (Nat.lt_of_lt_of_le (Nat.lt_of_lt_of_le (Nat.lt_of_lt_of_le f620.lt (Keep.of_wr W621).1) (Keep.of_wr W624).1) (Keep.of_wr W627).1) (Keep.of_wr W630).1) K809.1) K816.1) (Keep.ext (Keep.refl _ []) E835).1) (Keep.of_wr W840).1) (Keep.of_wr W843).1) (Keep.of_wr W846).1) (Keep.of_wr W849).1) (Nat.le_of_eq g858.symm))) nin0)).keep (Keep.of_wr W869) (ninS (Nat.ne_of_lt (Nat.lt_of_lt_of_le (Nat.lt_of_lt_of_le (Nat.lt_of_lt_of_le (Nat.lt_of_lt_of_le (Nat.lt_of_lt_of_le (Nat.lt_of_lt_of_le (Nat.lt_of_lt_of_le (Nat.lt_of_lt_of_le (Nat.lt_of_lt_of_le (Nat.lt_of_lt_of_le (Nat.lt_of_lt_of_le (Nat.lt_of_lt_of_le f620.lt (Keep.of_wr W621).1) (Keep.of_wr W624).1) (Keep.of_wr W627).1) (Keep.of_wr W630).1) K809.1) K816.1) (Keep.ext (Keep.refl _ []) E835).1) (Keep.of_wr W840).1) (Keep.of_wr W843).1) (Keep.of_wr W846).1) (Keep.of_wr W849).1) (Nat.le_of_eq g858.symm))) nin0)).keep (Keep.of_wr W872) (ninS (Nat.ne_of_lt (Nat.lt_of_lt_of_le (Nat.lt_of_lt_of_le (Nat.lt_of_lt_of_le (Nat.lt_of_lt_of_le (Nat.lt_of_lt_of_le (Nat.lt_of_lt_of_le (Nat.lt_of_lt_of_le (Nat.lt_of_lt_of_le (Nat.lt_of_lt_of_le (Nat.lt_of_lt_of_le (Nat.lt_of_lt_of_le (Nat.lt_of_lt_of_le f620.lt (Keep.of_wr W621).1) (Keep.of_wr W624).1) (Keep.of_wr W627).1) (Keep.of_wr W630).1) K809.1) K816.1) (Keep.ext (Keep.refl _ []) E835).1) (Keep.of_wr W840).1) (Keep.of_wr W843).1) (Keep.of_wr W846).1) (Keep.of_wr W849).1) (Nat.le_of_eq g858.symm))) nin0))
      have f880 : AV Z h872 b835 .boolean [(.int (0 : Int32)), (.int t1), (.int t2), (.int t3)] := (((((f851.keep (Keep.ext (Keep.refl _ []) E858) nin0).keep (Keep.of_wr W863) (ninS (Nat.ne_of_lt (Nat.lt_of_lt_of_le (Nat.lt_of_lt_of_le (Nat.lt_of_lt_of_le (Nat.lt_of_lt_of_le (Nat.lt_of_lt_of_le f839.lt (Keep.of_wr W840).1) (Keep.of_wr W843).1) (Keep.of_wr W846).1) (Keep.of_wr W849).1) (Nat.le_of_eq g858.symm))) nin0)).keep (Keep.of_wr W866) (ninS (Nat.ne_of_lt (Nat.lt_of_lt_of_le (Nat.lt_of_lt_of_le (Nat.lt_of_lt_of_le (Nat.lt_of_lt_of_le (Nat.lt_of_lt_of_le f839.lt (Keep.of_wr W840).1) (Keep.of_wr W843).1) (Keep.of_wr W846).1) (Keep.of_wr W849).1) (Nat.le_of_eq g858.symm))) nin0)).keep (Keep.of_wr W869) (ninS (Nat.ne_of_lt (Nat.lt_of_lt_of_le (Nat.lt_of_lt_of_le (Nat.lt_of_lt_of_le (Nat.lt_of_lt_of_le (Nat.lt_of_lt_of_le f839.lt (Keep.of_wr W840).1) (Keep.of_wr W843).1) (Keep.of_wr W846).1) (Keep.of_wr W849).1) (Nat.le_of_eq g858.symm))) nin0)).keep (Keep.of_wr W872) (ninS (Nat.ne_of_lt (Nat.lt_of_lt_of_le (Nat.lt_of_lt_of_le (Nat.lt_of_lt_of_le (Nat.lt_of_lt_of_le (Nat.lt_of_lt_of_le f839.lt (Keep.of_wr W840).1) (Keep.of_wr W843).1) (Keep.of_wr W846).1) (Keep.of_wr W849).1) (Nat.le_of_eq g858.symm))) nin0))
      refine go_static K X878 (argsL := [(.ref r817), (.int (0 : Int32)), (.int (3 : Int32)), (.ref b616), (.ref b858), (.ref b835)]) (stk := []) (wd hw 54 rfl) (wd hw 55 rfl) (wd hw 3 rfl) (wd hw 56 rfl) (by decide) (lenOf pd_8 rfl) e878 (rmChk3_0 hw r817 b616 b858 b835 x0 x1 x2 x3 r1 r2 r3 t1 t2 t3 b818 (own_runs [(x0.toInt32), (x1.toInt32), (x2.toInt32)]) h872 f877 f875 f876 f879 f874 f880 G.2.1 G.2.2.1) rfl rfl at_280 rfl (by decide) (W := 0) (Nat.le_of_eq rfl) (by decide) (cells' := 7) (slots' := 30) rfl rfl (by decide) (by decide) ?_
      rintro T881 h881 _ X881 e881 ⟨rfl, qe881⟩
      show Go _ _ _ _ _ _ _ (T881.setTop (mkF m 283 #[.val (.int p1), .val (.int p2), .val (.int p3), .val (.int p4), .val (.int p5), .val (.int (3 : Int32)), .val (.long x0), .second, .val (.long x1), .second, .val (.long x2), .second, .val (.long x3), .second, .val (.ref b616), .val (.ref r810), .val (.ref r817), .val (.int t1), .val (.int t2), .val (.int t3), .val (.ref b835), .val (.int r1), .val (.int r2), .val (.int r3), .val (.ref b858)] [(.int (1 : Int32))]))
      replace e881 := e881.trans qe881
      refine go_ifF K X881 at_283 rfl (by decide : ¬ (1 : Int32) = (0 : Int32)) ?_
      refine go_aload K X881 at_286 rfl rfl rfl ?_
      refine go_iconst K X881 (1 : Int32) at_288 rfl rfl ?_
      refine go_iload K X881 at_289 rfl rfl ?_
      refine go_aload K X881 at_291 rfl rfl rfl ?_
      refine go_aload K X881 at_293 rfl rfl rfl ?_
      refine go_aload K X881 at_295 rfl rfl rfl ?_
      refine go_static K X881 (argsL := [(.ref r817), (.int (1 : Int32)), (.int (3 : Int32)), (.ref b616), (.ref b858), (.ref b835)]) (stk := []) (wd hw 54 rfl) (wd hw 55 rfl) (wd hw 3 rfl) (wd hw 56 rfl) (by decide) (lenOf pd_8 rfl) e881 (rmChk3_1 hw r817 b616 b858 b835 x0 x1 x2 x3 r1 r2 r3 t1 t2 t3 b818 (own_runs [(x0.toInt32), (x1.toInt32), (x2.toInt32)]) h872 f877 f875 f876 f879 f874 f880 G.2.2.2.1 G.2.2.2.2.1) rfl rfl at_297 rfl (by decide) (W := 0) (Nat.le_of_eq rfl) (by decide) (cells' := 7) (slots' := 30) rfl rfl (by decide) (by decide) ?_
      rintro T882 h882 _ X882 e882 ⟨rfl, qe882⟩
      show Go _ _ _ _ _ _ _ (T882.setTop (mkF m 300 #[.val (.int p1), .val (.int p2), .val (.int p3), .val (.int p4), .val (.int p5), .val (.int (3 : Int32)), .val (.long x0), .second, .val (.long x1), .second, .val (.long x2), .second, .val (.long x3), .second, .val (.ref b616), .val (.ref r810), .val (.ref r817), .val (.int t1), .val (.int t2), .val (.int t3), .val (.ref b835), .val (.int r1), .val (.int r2), .val (.int r3), .val (.ref b858)] [(.int (1 : Int32))]))
      replace e882 := e882.trans qe882
      refine go_ifF K X882 at_300 rfl (by decide : ¬ (1 : Int32) = (0 : Int32)) ?_
      refine go_aload K X882 at_303 rfl rfl rfl ?_
      refine go_iconst K X882 (2 : Int32) at_305 rfl rfl ?_
      refine go_iload K X882 at_306 rfl rfl ?_
      refine go_aload K X882 at_308 rfl rfl rfl ?_
      refine go_aload K X882 at_310 rfl rfl rfl ?_
      refine go_aload K X882 at_312 rfl rfl rfl ?_
      refine go_static K X882 (argsL := [(.ref r817), (.int (2 : Int32)), (.int (3 : Int32)), (.ref b616), (.ref b858), (.ref b835)]) (stk := []) (wd hw 54 rfl) (wd hw 55 rfl) (wd hw 3 rfl) (wd hw 56 rfl) (by decide) (lenOf pd_8 rfl) e882 (rmChk3_2 hw r817 b616 b858 b835 x0 x1 x2 x3 r1 r2 r3 t1 t2 t3 b818 (own_runs [(x0.toInt32), (x1.toInt32), (x2.toInt32)]) h872 f877 f875 f876 f879 f874 f880 G.2.2.2.2.2.1 G.2.2.2.2.2.2) rfl rfl at_314 rfl (by decide) (W := 0) (Nat.le_of_eq rfl) (by decide) (cells' := 7) (slots' := 30) rfl rfl (by decide) (by decide) ?_
      rintro T883 h883 _ X883 e883 ⟨rfl, qe883⟩
      show Go _ _ _ _ _ _ _ (T883.setTop (mkF m 317 #[.val (.int p1), .val (.int p2), .val (.int p3), .val (.int p4), .val (.int p5), .val (.int (3 : Int32)), .val (.long x0), .second, .val (.long x1), .second, .val (.long x2), .second, .val (.long x3), .second, .val (.ref b616), .val (.ref r810), .val (.ref r817), .val (.int t1), .val (.int t2), .val (.int t3), .val (.ref b835), .val (.int r1), .val (.int r2), .val (.int r3), .val (.ref b858)] [(.int (1 : Int32))]))
      replace e883 := e883.trans qe883
      refine go_ifF K X883 at_317 rfl (by decide : ¬ (1 : Int32) = (0 : Int32)) ?_
      refine go_aload K X883 at_320 rfl rfl rfl ?_
      refine go_iconst K X883 (3 : Int32) at_322 rfl rfl ?_
      refine go_iload K X883 at_323 rfl rfl ?_
      refine go_aload K X883 at_325 rfl rfl rfl ?_
      refine go_aload K X883 at_327 rfl rfl rfl ?_
      refine go_aload K X883 at_329 rfl rfl rfl ?_
      refine go_static K X883 (argsL := [(.ref r817), (.int (3 : Int32)), (.int (3 : Int32)), (.ref b616), (.ref b858), (.ref b835)]) (stk := []) (wd hw 54 rfl) (wd hw 55 rfl) (wd hw 3 rfl) (wd hw 56 rfl) (by decide) (lenOf pd_8 rfl) e883 (rmChk3_3 hw r817 b616 b858 b835 x0 x1 x2 x3 r1 r2 r3 t1 t2 t3 b818 (own_runs [(x0.toInt32), (x1.toInt32), (x2.toInt32)]) h872 f877 f875 f876 f879 f874 f880) rfl rfl at_331 rfl (by decide) (W := 0) (Nat.le_of_eq rfl) (by decide) (cells' := 7) (slots' := 30) rfl rfl (by decide) (by decide) ?_
      rintro T884 h884 _ X884 e884 ⟨rfl, qe884⟩
      show Go _ _ _ _ _ _ _ (T884.setTop (mkF m 334 #[.val (.int p1), .val (.int p2), .val (.int p3), .val (.int p4), .val (.int p5), .val (.int (3 : Int32)), .val (.long x0), .second, .val (.long x1), .second, .val (.long x2), .second, .val (.long x3), .second, .val (.ref b616), .val (.ref r810), .val (.ref r817), .val (.int t1), .val (.int t2), .val (.int t3), .val (.ref b835), .val (.int r1), .val (.int r2), .val (.int r3), .val (.ref b858)] [(.int (1 : Int32))]))
      replace e884 := e884.trans qe884
      refine go_ifF K X884 at_334 rfl (by decide : ¬ (1 : Int32) = (0 : Int32)) ?_
      refine go_iconst K X884 (1 : Int32) at_337 rfl rfl ?_
      refine go_goto K X884 at_338 (by decide) rfl ?_
      refine go_retZ K X884 (Or.inr rfl) at_342 (by decide) (by decide) ?_
      rw [e884]
      exact ⟨rfl, kp873⟩
    · intro (hc808 : ¬ x2 < (2147483647 : Int64))
      refine go_iconst K X630 (1 : Int32) at_84 rfl rfl ?_
      refine go_retZ K X630 (Or.inr rfl) at_85 (by decide) (by decide) ?_
      rw [e630]
      exact ⟨rfl, kp631⟩
  · skip
    refine go_ifF K X630 at_67 rfl (by decide : (0 : Int32) < (4 : Int32)) ?_
    refine go_aload K X630 at_70 rfl rfl rfl ?_
    refine go_iload K X630 at_72 rfl rfl ?_
    refine go_iconst K X630 (1 : Int32) at_74 rfl rfl ?_
    refine go_isub K X630 at_75 rfl ?_
    rw [show ((4 : Int32) - (1 : Int32)) = (3 : Int32) from by decide]
    refine go_laload K X630 e630 f632 (i := 3) rfl rfl at_76 rfl ?_
    refine go_ldc2J K X630 (wd hw 44 rfl) at_77 rfl ?_
    refine go_lif K X630 at_80 rfl at_81 (by decide) rfl rfl ?_ ?_
    · intro (hc885 : x3 < (2147483647 : Int64))
      refine go_iload K X630 at_86 rfl rfl ?_
      refine go_aload K X630 at_88 rfl rfl rfl ?_
      refine go_static K X630 (argsL := [(.int (4 : Int32)), (.ref b616)]) (stk := []) (wd hw 8 rfl) (wd hw 9 rfl) (wd hw 3 rfl) (wd hw 10 rfl) (by decide) (lenOf pd_5 rfl) e630 (rmMake4 hw b616 x0 x1 x2 x3 h630 (Nat.le_trans (Nat.le_trans (Nat.le_trans (Nat.le_trans (Nat.le_trans H0 (Keep.ext (Keep.refl _ []) E616).1) (Keep.of_wr W621).1) (Keep.of_wr W624).1) (Keep.of_wr W627).1) (Keep.of_wr W630).1) f632) rfl rfl at_90 rfl (by decide) (W := 0) (Nat.le_of_eq rfl) (by decide) (cells' := 2) (slots' := 8) rfl rfl (by decide) (by decide) ?_
      rintro T886 h886 _ X886 e886 ⟨r887, rfl, K886, f888, f889⟩
      show Go _ _ _ _ _ _ _ (T886.setTop (mkF m 93 #[.val (.int p1), .val (.int p2), .val (.int p3), .val (.int p4), .val (.int p5), .val (.int (4 : Int32)), .val (.long x0), .second, .val (.long x1), .second, .val (.long x2), .second, .val (.long x3), .second, .val (.ref b616), .unset, .unset, .unset, .unset, .unset, .unset, .unset, .unset, .unset, .unset] [(.ref r887)]))
      have ga890 : n0 ≤ r887 := Nat.le_trans (Nat.le_trans (Nat.le_trans (Nat.le_trans (Nat.le_trans (Nat.le_trans H0 (Keep.ext (Keep.refl _ []) E616).1) (Keep.of_wr W621).1) (Keep.of_wr W624).1) (Keep.of_wr W627).1) (Keep.of_wr W630).1) f888
      have gb891 : h0.size ≤ r887 := Nat.le_trans kp631.1 f888
      have kp892 : Keep h0 h886 [] := kp631.trans K886 all0
      refine go_astore K X886 #[.val (.int p1), .val (.int p2), .val (.int p3), .val (.int p4), .val (.int p5), .val (.int (4 : Int32)), .val (.long x0), .second, .val (.long x1), .second, .val (.long x2), .second, .val (.long x3), .second, .val (.ref b616), .val (.ref r887), .unset, .unset, .unset, .unset, .unset, .unset, .unset, .unset, .unset] at_93 rfl rfl rfl ?_
      refine go_aload K X886 at_95 rfl rfl rfl ?_
      refine go_static K X886 (argsL := [(.ref r887)]) (stk := []) (wd hw 12 rfl) (wd hw 13 rfl) (wd hw 14 rfl) (wd hw 15 rfl) (by decide) (lenOf pd_6 rfl) e886 (rmOfS4 hw r887 (x0.toInt32) (x1.toInt32) (x2.toInt32) (x3.toInt32) h886 (Nat.le_trans (Nat.le_trans (Nat.le_trans (Nat.le_trans (Nat.le_trans (Nat.le_trans H0 (Keep.ext (Keep.refl _ []) E616).1) (Keep.of_wr W621).1) (Keep.of_wr W624).1) (Keep.of_wr W627).1) (Keep.of_wr W630).1) K886.1) f889) rfl rfl at_97 rfl (by decide) (W := 0) (Nat.le_of_eq rfl) (by decide) (cells' := 5) (slots' := 25) rfl rfl (by decide) (by decide) ?_
      rintro T893 h893 _ X893 e893 ⟨r894, b895, rfl, K893, f896, f897, f898, f899, f900⟩
      show Go _ _ _ _ _ _ _ (T893.setTop (mkF m 100 #[.val (.int p1), .val (.int p2), .val (.int p3), .val (.int p4), .val (.int p5), .val (.int (4 : Int32)), .val (.long x0), .second, .val (.long x1), .second, .val (.long x2), .second, .val (.long x3), .second, .val (.ref b616), .val (.ref r887), .unset, .unset, .unset, .unset, .unset, .unset, .unset, .unset, .unset] [(.ref r894)]))
      have ga901 : n0 ≤ r894 := Nat.le_trans (Nat.le_trans (Nat.le_trans (Nat.le_trans (Nat.le_trans (Nat.le_trans (Nat.le_trans H0 (Keep.ext (Keep.refl _ []) E616).1) (Keep.of_wr W621).1) (Keep.of_wr W624).1) (Keep.of_wr W627).1) (Keep.of_wr W630).1) K886.1) f896
      have gb902 : h0.size ≤ r894 := Nat.le_trans kp892.1 f896
      have ga903 : n0 ≤ b895 := Nat.le_trans (Nat.le_trans (Nat.le_trans (Nat.le_trans (Nat.le_trans (Nat.le_trans (Nat.le_trans H0 (Keep.ext (Keep.refl _ []) E616).1) (Keep.of_wr W621).1) (Keep.of_wr W624).1) (Keep.of_wr W627).1) (Keep.of_wr W630).1) K886.1) f897
      have gb904 : h0.size ≤ b895 := Nat.le_trans kp892.1 f897
      have kp905 : Keep h0 h893 [] := kp892.trans K893 all0
      refine go_astore K X893 #[.val (.int p1), .val (.int p2), .val (.int p3), .val (.int p4), .val (.int p5), .val (.int (4 : Int32)), .val (.long x0), .second, .val (.long x1), .second, .val (.long x2), .second, .val (.long x3), .second, .val (.ref b616), .val (.ref r887), .val (.ref r894), .unset, .unset, .unset, .unset, .unset, .unset, .unset, .unset] at_100 rfl rfl rfl ?_
      refine go_iload K X893 at_102 rfl rfl ?_
      refine go_ifT K X893 at_104 (by decide) rfl (by decide : ¬ (4 : Int32) = (0 : Int32)) ?_
      refine go_iloadN K X893 at_121 rfl rfl ?_
      refine go_iconst K X893 (1 : Int32) at_122 rfl rfl ?_
      refine go_iand K X893 at_123 rfl ?_
      refine own_cut (P := fun t1 : Int32 => t1 = if (p2 &&& (1 : Int32)) = (0 : Int32) then (1 : Int32) else (0 : Int32)) (S := fun t1 : Int32 => T893.setTop (mkF m 132 #[.val (.int p1), .val (.int p2), .val (.int p3), .val (.int p4), .val (.int p5), .val (.int (4 : Int32)), .val (.long x0), .second, .val (.long x1), .second, .val (.long x2), .second, .val (.long x3), .second, .val (.ref b616), .val (.ref r887), .val (.ref r894), .unset, .unset, .unset, .unset, .unset, .unset, .unset, .unset] [(.int t1)])) ?_ ?_
      · intro J906
        refine go_if K X893 at_124 (by decide) rfl rfl ?_ ?_
        · intro (hc907 : ¬ (p2 &&& (1 : Int32)) = (0 : Int32))
          refine go_iconst K X893 (0 : Int32) at_131 rfl rfl ?_
          exact J906 _ (if_neg hc907).symm
        · intro (hc907 : (p2 &&& (1 : Int32)) = (0 : Int32))
          refine go_iconst K X893 (1 : Int32) at_127 rfl rfl ?_
          refine go_goto K X893 at_128 (by decide) rfl ?_
          exact J906 _ (if_pos hc907).symm
      intro t1 (h_t1 : t1 = if (p2 &&& (1 : Int32)) = (0 : Int32) then (1 : Int32) else (0 : Int32))
      show Go _ _ _ _ _ _ _ (T893.setTop (mkF m 132 #[.val (.int p1), .val (.int p2), .val (.int p3), .val (.int p4), .val (.int p5), .val (.int (4 : Int32)), .val (.long x0), .second, .val (.long x1), .second, .val (.long x2), .second, .val (.long x3), .second, .val (.ref b616), .val (.ref r887), .val (.ref r894), .unset, .unset, .unset, .unset, .unset, .unset, .unset, .unset] [(.int t1)]))
      refine go_istore K X893 #[.val (.int p1), .val (.int p2), .val (.int p3), .val (.int p4), .val (.int p5), .val (.int (4 : Int32)), .val (.long x0), .second, .val (.long x1), .second, .val (.long x2), .second, .val (.long x3), .second, .val (.ref b616), .val (.ref r887), .val (.ref r894), .val (.int t1), .unset, .unset, .unset, .unset, .unset, .unset, .unset] at_132 rfl rfl ?_
      refine go_iloadN K X893 at_134 rfl rfl ?_
      refine go_iconst K X893 (1 : Int32) at_135 rfl rfl ?_
      refine go_iand K X893 at_136 rfl ?_
      refine own_cut (P := fun t2 : Int32 => t2 = if (p3 &&& (1 : Int32)) = (0 : Int32) then (1 : Int32) else (0 : Int32)) (S := fun t2 : Int32 => T893.setTop (mkF m 145 #[.val (.int p1), .val (.int p2), .val (.int p3), .val (.int p4), .val (.int p5), .val (.int (4 : Int32)), .val (.long x0), .second, .val (.long x1), .second, .val (.long x2), .second, .val (.long x3), .second, .val (.ref b616), .val (.ref r887), .val (.ref r894), .val (.int t1), .unset, .unset, .unset, .unset, .unset, .unset, .unset] [(.int t2)])) ?_ ?_
      · intro J908
        refine go_if K X893 at_137 (by decide) rfl rfl ?_ ?_
        · intro (hc909 : ¬ (p3 &&& (1 : Int32)) = (0 : Int32))
          refine go_iconst K X893 (0 : Int32) at_144 rfl rfl ?_
          exact J908 _ (if_neg hc909).symm
        · intro (hc909 : (p3 &&& (1 : Int32)) = (0 : Int32))
          refine go_iconst K X893 (1 : Int32) at_140 rfl rfl ?_
          refine go_goto K X893 at_141 (by decide) rfl ?_
          exact J908 _ (if_pos hc909).symm
      intro t2 (h_t2 : t2 = if (p3 &&& (1 : Int32)) = (0 : Int32) then (1 : Int32) else (0 : Int32))
      show Go _ _ _ _ _ _ _ (T893.setTop (mkF m 145 #[.val (.int p1), .val (.int p2), .val (.int p3), .val (.int p4), .val (.int p5), .val (.int (4 : Int32)), .val (.long x0), .second, .val (.long x1), .second, .val (.long x2), .second, .val (.long x3), .second, .val (.ref b616), .val (.ref r887), .val (.ref r894), .val (.int t1), .unset, .unset, .unset, .unset, .unset, .unset, .unset] [(.int t2)]))
      refine go_istore K X893 #[.val (.int p1), .val (.int p2), .val (.int p3), .val (.int p4), .val (.int p5), .val (.int (4 : Int32)), .val (.long x0), .second, .val (.long x1), .second, .val (.long x2), .second, .val (.long x3), .second, .val (.ref b616), .val (.ref r887), .val (.ref r894), .val (.int t1), .val (.int t2), .unset, .unset, .unset, .unset, .unset, .unset] at_145 rfl rfl ?_
      refine go_iloadN K X893 at_147 rfl rfl ?_
      refine go_iconst K X893 (1 : Int32) at_148 rfl rfl ?_
      refine go_iand K X893 at_149 rfl ?_
      refine own_cut (P := fun t3 : Int32 => t3 = if (p4 &&& (1 : Int32)) = (0 : Int32) then (1 : Int32) else (0 : Int32)) (S := fun t3 : Int32 => T893.setTop (mkF m 158 #[.val (.int p1), .val (.int p2), .val (.int p3), .val (.int p4), .val (.int p5), .val (.int (4 : Int32)), .val (.long x0), .second, .val (.long x1), .second, .val (.long x2), .second, .val (.long x3), .second, .val (.ref b616), .val (.ref r887), .val (.ref r894), .val (.int t1), .val (.int t2), .unset, .unset, .unset, .unset, .unset, .unset] [(.int t3)])) ?_ ?_
      · intro J910
        refine go_if K X893 at_150 (by decide) rfl rfl ?_ ?_
        · intro (hc911 : ¬ (p4 &&& (1 : Int32)) = (0 : Int32))
          refine go_iconst K X893 (0 : Int32) at_157 rfl rfl ?_
          exact J910 _ (if_neg hc911).symm
        · intro (hc911 : (p4 &&& (1 : Int32)) = (0 : Int32))
          refine go_iconst K X893 (1 : Int32) at_153 rfl rfl ?_
          refine go_goto K X893 at_154 (by decide) rfl ?_
          exact J910 _ (if_pos hc911).symm
      intro t3 (h_t3 : t3 = if (p4 &&& (1 : Int32)) = (0 : Int32) then (1 : Int32) else (0 : Int32))
      show Go _ _ _ _ _ _ _ (T893.setTop (mkF m 158 #[.val (.int p1), .val (.int p2), .val (.int p3), .val (.int p4), .val (.int p5), .val (.int (4 : Int32)), .val (.long x0), .second, .val (.long x1), .second, .val (.long x2), .second, .val (.long x3), .second, .val (.ref b616), .val (.ref r887), .val (.ref r894), .val (.int t1), .val (.int t2), .unset, .unset, .unset, .unset, .unset, .unset] [(.int t3)]))
      refine go_istore K X893 #[.val (.int p1), .val (.int p2), .val (.int p3), .val (.int p4), .val (.int p5), .val (.int (4 : Int32)), .val (.long x0), .second, .val (.long x1), .second, .val (.long x2), .second, .val (.long x3), .second, .val (.ref b616), .val (.ref r887), .val (.ref r894), .val (.int t1), .val (.int t2), .val (.int t3), .unset, .unset, .unset, .unset, .unset] at_158 rfl rfl ?_
      refine go_iconst K X893 (4 : Int32) at_160 rfl rfl ?_
      refine go_newarray K X893 (wd hw 53 rfl) e893 at_161 (i := 4) (cap := 4) rfl (by decide) (by decide) rfl (cells' := 6) (slots' := 29) rfl rfl (by decide) (by decide) ?_
      intro T912 h912 b912 g912 X912 e912 E912 A912
      have ga913 : n0 ≤ b912 := Nat.le_trans (Nat.le_trans (Nat.le_trans (Nat.le_trans (Nat.le_trans (Nat.le_trans (Nat.le_trans (Nat.le_trans H0 (Keep.ext (Keep.refl _ []) E616).1) (Keep.of_wr W621).1) (Keep.of_wr W624).1) (Keep.of_wr W627).1) (Keep.of_wr W630).1) K886.1) K893.1) (Nat.le_of_eq g912.symm)
      have gb914 : h0.size ≤ b912 := Nat.le_trans kp905.1 (Nat.le_of_eq g912.symm)
      have kp915 : Keep h0 h912 [] := kp905.trans (Keep.ext (Keep.refl _ []) E912) all0
      have f916 : AV Z h912 b912 .boolean [(.int (0 : Int32)), (.int (0 : Int32)), (.int (0 : Int32)), (.int (0 : Int32))] := A912
      refine go_dup K X912 at_163 rfl rfl ?_
      refine go_iconst K X912 (0 : Int32) at_164 rfl rfl ?_
      refine go_iconst K X912 (0 : Int32) at_165 rfl rfl ?_
      refine go_bastoreZ K X912 e912 f916 (i := 0) rfl (Nat.le_of_ble_eq_true rfl) rfl ga913 at_166 rfl ?_
      intro T917 h917 X917 e917 W917 A917
      have kp918 : Keep h0 h917 [] := kp915.trans (Keep.of_wr W917) (allS (Or.inr gb914) all0)
      have f919 : AV Z h917 b912 .boolean [(.int (0 : Int32)), (.int (0 : Int32)), (.int (0 : Int32)), (.int (0 : Int32))] := A917
      refine go_dup K X917 at_167 rfl rfl ?_
      refine go_iconst K X917 (1 : Int32) at_168 rfl rfl ?_
      refine go_iload K X917 at_169 rfl rfl ?_
      refine go_bastoreZ K X917 e917 f919 (i := 1) rfl (Nat.le_of_ble_eq_true rfl) (own_nar h_t1) ga913 at_171 rfl ?_
      intro T920 h920 X920 e920 W920 A920
      have kp921 : Keep h0 h920 [] := kp918.trans (Keep.of_wr W920) (allS (Or.inr gb914) all0)
      have f922 : AV Z h920 b912 .boolean [(.int (0 : Int32)), (.int t1), (.int (0 : Int32)), (.int (0 : Int32))] := A920
      refine go_dup K X920 at_172 rfl rfl ?_
      refine go_iconst K X920 (2 : Int32) at_173 rfl rfl ?_
      refine go_iload K X920 at_174 rfl rfl ?_
      refine go_bastoreZ K X920 e920 f922 (i := 2) rfl (Nat.le_of_ble_eq_true rfl) (own_nar h_t2) ga913 at_176 rfl ?_
      intro T923 h923 X923 e923 W923 A923
      have kp924 : Keep h0 h923 [] := kp921.trans (Keep.of_wr W923) (allS (Or.inr gb914) all0)
      have f925 : AV Z h923 b912 .boolean [(.int (0 : Int32)), (.int t1), (.int t2), (.int (0 : Int32))] := A923
      refine go_dup K X923 at_177 rfl rfl ?_
      refine go_iconst K X923 (3 : Int32) at_178 rfl rfl ?_
      refine go_iload K X923 at_179 rfl rfl ?_
      refine go_bastoreZ K X923 e923 f925 (i := 3) rfl (Nat.le_of_ble_eq_true rfl) (own_nar h_t3) ga913 at_181 rfl ?_
      intro T926 h926 X926 e926 W926 A926
      have kp927 : Keep h0 h926 [] := kp924.trans (Keep.of_wr W926) (allS (Or.inr gb914) all0)
      have f928 : AV Z h926 b912 .boolean [(.int (0 : Int32)), (.int t1), (.int t2), (.int t3)] := A926
      refine go_astore K X926 #[.val (.int p1), .val (.int p2), .val (.int p3), .val (.int p4), .val (.int p5), .val (.int (4 : Int32)), .val (.long x0), .second, .val (.long x1), .second, .val (.long x2), .second, .val (.long x3), .second, .val (.ref b616), .val (.ref r887), .val (.ref r894), .val (.int t1), .val (.int t2), .val (.int t3), .val (.ref b912), .unset, .unset, .unset, .unset] at_182 rfl rfl rfl ?_
      refine go_iload K X926 at_184 rfl rfl ?_
      refine own_cut (P := fun r1 : Int32 => r1 = if t1 = (0 : Int32) then (1 : Int32) else (0 : Int32)) (S := fun r1 : Int32 => T926.setTop (mkF m 194 #[.val (.int p1), .val (.int p2), .val (.int p3), .val (.int p4), .val (.int p5), .val (.int (4 : Int32)), .val (.long x0), .second, .val (.long x1), .second, .val (.long x2), .second, .val (.long x3), .second, .val (.ref b616), .val (.ref r887), .val (.ref r894), .val (.int t1), .val (.int t2), .val (.int t3), .val (.ref b912), .unset, .unset, .unset, .unset] [(.int r1)])) ?_ ?_
      · intro J929
        refine go_if K X926 at_186 (by decide) rfl rfl ?_ ?_
        · intro (hc930 : t1 = (0 : Int32))
          refine go_iconst K X926 (1 : Int32) at_193 rfl rfl ?_
          exact J929 _ (if_pos hc930).symm
        · intro (hc930 : ¬ t1 = (0 : Int32))
          refine go_iconst K X926 (0 : Int32) at_189 rfl rfl ?_
          refine go_goto K X926 at_190 (by decide) rfl ?_
          exact J929 _ (if_neg hc930).symm
      intro r1 (h_r1 : r1 = if t1 = (0 : Int32) then (1 : Int32) else (0 : Int32))
      show Go _ _ _ _ _ _ _ (T926.setTop (mkF m 194 #[.val (.int p1), .val (.int p2), .val (.int p3), .val (.int p4), .val (.int p5), .val (.int (4 : Int32)), .val (.long x0), .second, .val (.long x1), .second, .val (.long x2), .second, .val (.long x3), .second, .val (.ref b616), .val (.ref r887), .val (.ref r894), .val (.int t1), .val (.int t2), .val (.int t3), .val (.ref b912), .unset, .unset, .unset, .unset] [(.int r1)]))
      refine go_istore K X926 #[.val (.int p1), .val (.int p2), .val (.int p3), .val (.int p4), .val (.int p5), .val (.int (4 : Int32)), .val (.long x0), .second, .val (.long x1), .second, .val (.long x2), .second, .val (.long x3), .second, .val (.ref b616), .val (.ref r887), .val (.ref r894), .val (.int t1), .val (.int t2), .val (.int t3), .val (.ref b912), .val (.int r1), .unset, .unset, .unset] at_194 rfl rfl ?_
      refine go_iload K X926 at_196 rfl rfl ?_
      refine go_iload K X926 at_198 rfl rfl ?_
      refine own_cut (P := fun c2 : Int32 => c2 = if t2 = (0 : Int32) then (1 : Int32) else (0 : Int32)) (S := fun c2 : Int32 => T926.setTop (mkF m 208 #[.val (.int p1), .val (.int p2), .val (.int p3), .val (.int p4), .val (.int p5), .val (.int (4 : Int32)), .val (.long x0), .second, .val (.long x1), .second, .val (.long x2), .second, .val (.long x3), .second, .val (.ref b616), .val (.ref r887), .val (.ref r894), .val (.int t1), .val (.int t2), .val (.int t3), .val (.ref b912), .val (.int r1), .unset, .unset, .unset] [(.int c2), (.int r1)])) ?_ ?_
      · intro J931
        refine go_if K X926 at_200 (by decide) rfl rfl ?_ ?_
        · intro (hc932 : t2 = (0 : Int32))
          refine go_iconst K X926 (1 : Int32) at_207 rfl rfl ?_
          exact J931 _ (if_pos hc932).symm
        · intro (hc932 : ¬ t2 = (0 : Int32))
          refine go_iconst K X926 (0 : Int32) at_203 rfl rfl ?_
          refine go_goto K X926 at_204 (by decide) rfl ?_
          exact J931 _ (if_neg hc932).symm
      intro c2 (h_c2 : c2 = if t2 = (0 : Int32) then (1 : Int32) else (0 : Int32))
      show Go _ _ _ _ _ _ _ (T926.setTop (mkF m 208 #[.val (.int p1), .val (.int p2), .val (.int p3), .val (.int p4), .val (.int p5), .val (.int (4 : Int32)), .val (.long x0), .second, .val (.long x1), .second, .val (.long x2), .second, .val (.long x3), .second, .val (.ref b616), .val (.ref r887), .val (.ref r894), .val (.int t1), .val (.int t2), .val (.int t3), .val (.ref b912), .val (.int r1), .unset, .unset, .unset] [(.int c2), (.int r1)]))
      refine go_iadd K X926 at_208 rfl ?_
      generalize h_r2 : (r1 + c2) = r2
      refine go_istore K X926 #[.val (.int p1), .val (.int p2), .val (.int p3), .val (.int p4), .val (.int p5), .val (.int (4 : Int32)), .val (.long x0), .second, .val (.long x1), .second, .val (.long x2), .second, .val (.long x3), .second, .val (.ref b616), .val (.ref r887), .val (.ref r894), .val (.int t1), .val (.int t2), .val (.int t3), .val (.ref b912), .val (.int r1), .val (.int r2), .unset, .unset] at_209 rfl rfl ?_
      refine go_iload K X926 at_211 rfl rfl ?_
      refine go_iload K X926 at_213 rfl rfl ?_
      refine own_cut (P := fun c3 : Int32 => c3 = if t3 = (0 : Int32) then (1 : Int32) else (0 : Int32)) (S := fun c3 : Int32 => T926.setTop (mkF m 223 #[.val (.int p1), .val (.int p2), .val (.int p3), .val (.int p4), .val (.int p5), .val (.int (4 : Int32)), .val (.long x0), .second, .val (.long x1), .second, .val (.long x2), .second, .val (.long x3), .second, .val (.ref b616), .val (.ref r887), .val (.ref r894), .val (.int t1), .val (.int t2), .val (.int t3), .val (.ref b912), .val (.int r1), .val (.int r2), .unset, .unset] [(.int c3), (.int r2)])) ?_ ?_
      · intro J933
        refine go_if K X926 at_215 (by decide) rfl rfl ?_ ?_
        · intro (hc934 : t3 = (0 : Int32))
          refine go_iconst K X926 (1 : Int32) at_222 rfl rfl ?_
          exact J933 _ (if_pos hc934).symm
        · intro (hc934 : ¬ t3 = (0 : Int32))
          refine go_iconst K X926 (0 : Int32) at_218 rfl rfl ?_
          refine go_goto K X926 at_219 (by decide) rfl ?_
          exact J933 _ (if_neg hc934).symm
      intro c3 (h_c3 : c3 = if t3 = (0 : Int32) then (1 : Int32) else (0 : Int32))
      show Go _ _ _ _ _ _ _ (T926.setTop (mkF m 223 #[.val (.int p1), .val (.int p2), .val (.int p3), .val (.int p4), .val (.int p5), .val (.int (4 : Int32)), .val (.long x0), .second, .val (.long x1), .second, .val (.long x2), .second, .val (.long x3), .second, .val (.ref b616), .val (.ref r887), .val (.ref r894), .val (.int t1), .val (.int t2), .val (.int t3), .val (.ref b912), .val (.int r1), .val (.int r2), .unset, .unset] [(.int c3), (.int r2)]))
      refine go_iadd K X926 at_223 rfl ?_
      generalize h_r3 : (r2 + c3) = r3
      have G := own_good4 h_x0 h_x1 h_x2 h_x3 h_t1 h_t2 h_t3 h_r1 h_c2 h_r2 h_c3 h_r3 hc885
      refine go_istore K X926 #[.val (.int p1), .val (.int p2), .val (.int p3), .val (.int p4), .val (.int p5), .val (.int (4 : Int32)), .val (.long x0), .second, .val (.long x1), .second, .val (.long x2), .second, .val (.long x3), .second, .val (.ref b616), .val (.ref r887), .val (.ref r894), .val (.int t1), .val (.int t2), .val (.int t3), .val (.ref b912), .val (.int r1), .val (.int r2), .val (.int r3), .unset] at_224 rfl rfl ?_
      refine go_iconst K X926 (4 : Int32) at_226 rfl rfl ?_
      refine go_newarray K X926 (wd hw 11 rfl) e926 at_227 (i := 4) (cap := 4) rfl (by decide) (by decide) rfl (cells' := 7) (slots' := 33) rfl rfl (by decide) (by decide) ?_
      intro T935 h935 b935 g935 X935 e935 E935 A935
      have ga936 : n0 ≤ b935 := Nat.le_trans (Nat.le_trans (Nat.le_trans (Nat.le_trans (Nat.le_trans (Nat.le_trans (Nat.le_trans (Nat.le_trans (Nat.le_trans (Nat.le_trans (Nat.le_trans (Nat.le_trans (Nat.le_trans H0 (Keep.ext (Keep.refl _ []) E616).1) (Keep.of_wr W621).1) (Keep.of_wr W624).1) (Keep.of_wr W627).1) (Keep.of_wr W630).1) K886.1) K893.1) (Keep.ext (Keep.refl _ []) E912).1) (Keep.of_wr W917).1) (Keep.of_wr W920).1) (Keep.of_wr W923).1) (Keep.of_wr W926).1) (Nat.le_of_eq g935.symm)
      have gb937 : h0.size ≤ b935 := Nat.le_trans kp927.1 (Nat.le_of_eq g935.symm)
      have kp938 : Keep h0 h935 [] := kp927.trans (Keep.ext (Keep.refl _ []) E935) all0
      have f939 : AV Z h935 b935 .int [(.int (0 : Int32)), (.int (0 : Int32)), (.int (0 : Int32)), (.int (0 : Int32))] := A935
      refine go_dup K X935 at_229 rfl rfl ?_
      refine go_iconst K X935 (0 : Int32) at_230 rfl rfl ?_
      refine go_iconst K X935 (0 : Int32) at_231 rfl rfl ?_
      refine go_iastore K X935 e935 f939 (i := 0) rfl (Nat.le_of_ble_eq_true rfl) ga936 at_232 rfl ?_
      intro T940 h940 X940 e940 W940 A940
      have kp941 : Keep h0 h940 [] := kp938.trans (Keep.of_wr W940) (allS (Or.inr gb937) all0)
      have f942 : AV Z h940 b935 .int [(.int (0 : Int32)), (.int (0 : Int32)), (.int (0 : Int32)), (.int (0 : Int32))] := A940
      refine go_dup K X940 at_233 rfl rfl ?_
      refine go_iconst K X940 (1 : Int32) at_234 rfl rfl ?_
      refine go_iload K X940 at_235 rfl rfl ?_
      refine go_iastore K X940 e940 f942 (i := 1) rfl (Nat.le_of_ble_eq_true rfl) ga936 at_237 rfl ?_
      intro T943 h943 X943 e943 W943 A943
      have kp944 : Keep h0 h943 [] := kp941.trans (Keep.of_wr W943) (allS (Or.inr gb937) all0)
      have f945 : AV Z h943 b935 .int [(.int (0 : Int32)), (.int r1), (.int (0 : Int32)), (.int (0 : Int32))] := A943
      refine go_dup K X943 at_238 rfl rfl ?_
      refine go_iconst K X943 (2 : Int32) at_239 rfl rfl ?_
      refine go_iload K X943 at_240 rfl rfl ?_
      refine go_iastore K X943 e943 f945 (i := 2) rfl (Nat.le_of_ble_eq_true rfl) ga936 at_242 rfl ?_
      intro T946 h946 X946 e946 W946 A946
      have kp947 : Keep h0 h946 [] := kp944.trans (Keep.of_wr W946) (allS (Or.inr gb937) all0)
      have f948 : AV Z h946 b935 .int [(.int (0 : Int32)), (.int r1), (.int r2), (.int (0 : Int32))] := A946
      refine go_dup K X946 at_243 rfl rfl ?_
      refine go_iconst K X946 (3 : Int32) at_244 rfl rfl ?_
      refine go_iload K X946 at_245 rfl rfl ?_
      refine go_iastore K X946 e946 f948 (i := 3) rfl (Nat.le_of_ble_eq_true rfl) ga936 at_247 rfl ?_
      intro T949 h949 X949 e949 W949 A949
      have kp950 : Keep h0 h949 [] := kp947.trans (Keep.of_wr W949) (allS (Or.inr gb937) all0)
      have f951 : AV Z h949 b935 .int [(.int (0 : Int32)), (.int r1), (.int r2), (.int r3)] := A949
      refine go_astore K X949 #[.val (.int p1), .val (.int p2), .val (.int p3), .val (.int p4), .val (.int p5), .val (.int (4 : Int32)), .val (.long x0), .second, .val (.long x1), .second, .val (.long x2), .second, .val (.long x3), .second, .val (.ref b616), .val (.ref r887), .val (.ref r894), .val (.int t1), .val (.int t2), .val (.int t3), .val (.ref b912), .val (.int r1), .val (.int r2), .val (.int r3), .val (.ref b935)] at_248 rfl rfl rfl ?_
      refine go_aload K X949 at_250 rfl rfl rfl ?_
      have f952 : Fld Z h949 r894 "com/example/divided_duty/dividedduty/policy/Ranges" "bounds" "[I" (.ref b895) := ((((((((((f899.keep (Keep.ext (Keep.refl _ []) E912) nin0).keep (Keep.of_wr W917) (ninS (Nat.ne_of_lt (Nat.lt_of_lt_of_le f898.lt (Nat.le_of_eq g912.symm))) nin0)).keep (Keep.of_wr W920) (ninS (Nat.ne_of_lt (Nat.lt_of_lt_of_le f898.lt (Nat.le_of_eq g912.symm))) nin0)).keep (Keep.of_wr W923) (ninS (Nat.ne_of_lt (Nat.lt_of_lt_of_le f898.lt (Nat.le_of_eq g912.symm))) nin0)).keep (Keep.of_wr W926) (ninS (Nat.ne_of_lt (Nat.lt_of_lt_of_le f898.lt (Nat.le_of_eq g912.symm))) nin0)).keep (Keep.ext (Keep.refl _ []) E935) nin0).keep (Keep.of_wr W940) (ninS (Nat.ne_of_lt (Nat.lt_of_lt_of_le (Nat.lt_of_lt_of_le (Nat.lt_of_lt_of_le (Nat.lt_of_lt_of_le (Nat.lt_of_lt_of_le (Nat.lt_of_lt_of_le f898.lt (Keep.ext (Keep.refl _ []) E912).1) (Keep.of_wr W917).1) (Keep.of_wr W920).1) (Keep.of_wr W923).1) (Keep.of_wr W926).1) (Nat.le_of_eq g935.symm))) nin0)).keep (Keep.of_wr W943) (ninS (Nat.ne_of_lt (Nat.lt_of_lt_of_le (Nat.lt_of_lt_of_le (Nat.lt_of_lt_of_le (Nat.lt_of_lt_of_le (Nat.lt_of_lt_of_le (Nat.lt_of_lt_of_le f898.lt (Keep.ext (Keep.refl _ []) E912).1) (Keep.of_wr W917).1) (Keep.of_wr W920).1) (Keep.of_wr W923).1) (Keep.of_wr W926).1) (Nat.le_of_eq g935.symm))) nin0)).keep (Keep.of_wr W946) (ninS (Nat.ne_of_lt (Nat.lt_of_lt_of_le (Nat.lt_of_lt_of_le (Nat.lt_of_lt_of_le (Nat.lt_of_lt_of_le (Nat.lt_of_lt_of_le (Nat.lt_of_lt_of_le f898.lt (Keep.ext (Keep.refl _ []) E912).1) (Keep.of_wr W917).1) (Keep.of_wr W920).1) (Keep.of_wr W923).1) (Keep.of_wr W926).1) (Nat.le_of_eq g935.symm))) nin0)).keep (Keep.of_wr W949) (ninS (Nat.ne_of_lt (Nat.lt_of_lt_of_le (Nat.lt_of_lt_of_le (Nat.lt_of_lt_of_le (Nat.lt_of_lt_of_le (Nat.lt_of_lt_of_le (Nat.lt_of_lt_of_le f898.lt (Keep.ext (Keep.refl _ []) E912).1) (Keep.of_wr W917).1) (Keep.of_wr W920).1) (Keep.of_wr W923).1) (Keep.of_wr W926).1) (Nat.le_of_eq g935.symm))) nin0))
      have f953 : AV Z h949 b895 .int (own_runs [(x0.toInt32), (x1.toInt32), (x2.toInt32), (x3.toInt32)]) := ((((((((((f900.keep (Keep.ext (Keep.refl _ []) E912) nin0).keep (Keep.of_wr W917) (ninS (Nat.ne_of_lt (Nat.lt_of_lt_of_le f900.lt (Nat.le_of_eq g912.symm))) nin0)).keep (Keep.of_wr W920) (ninS (Nat.ne_of_lt (Nat.lt_of_lt_of_le f900.lt (Nat.le_of_eq g912.symm))) nin0)).keep (Keep.of_wr W923) (ninS (Nat.ne_of_lt (Nat.lt_of_lt_of_le f900.lt (Nat.le_of_eq g912.symm))) nin0)).keep (Keep.of_wr W926) (ninS (Nat.ne_of_lt (Nat.lt_of_lt_of_le f900.lt (Nat.le_of_eq g912.symm))) nin0)).keep (Keep.ext (Keep.refl _ []) E935) nin0).keep (Keep.of_wr W940) (ninS (Nat.ne_of_lt (Nat.lt_of_lt_of_le (Nat.lt_of_lt_of_le (Nat.lt_of_lt_of_le (Nat.lt_of_lt_of_le (Nat.lt_of_lt_of_le (Nat.lt_of_lt_of_le f900.lt (Keep.ext (Keep.refl _ []) E912).1) (Keep.of_wr W917).1) (Keep.of_wr W920).1) (Keep.of_wr W923).1) (Keep.of_wr W926).1) (Nat.le_of_eq g935.symm))) nin0)).keep (Keep.of_wr W943) (ninS (Nat.ne_of_lt (Nat.lt_of_lt_of_le (Nat.lt_of_lt_of_le (Nat.lt_of_lt_of_le (Nat.lt_of_lt_of_le (Nat.lt_of_lt_of_le (Nat.lt_of_lt_of_le f900.lt (Keep.ext (Keep.refl _ []) E912).1) (Keep.of_wr W917).1) (Keep.of_wr W920).1) (Keep.of_wr W923).1) (Keep.of_wr W926).1) (Nat.le_of_eq g935.symm))) nin0)).keep (Keep.of_wr W946) (ninS (Nat.ne_of_lt (Nat.lt_of_lt_of_le (Nat.lt_of_lt_of_le (Nat.lt_of_lt_of_le (Nat.lt_of_lt_of_le (Nat.lt_of_lt_of_le (Nat.lt_of_lt_of_le f900.lt (Keep.ext (Keep.refl _ []) E912).1) (Keep.of_wr W917).1) (Keep.of_wr W920).1) (Keep.of_wr W923).1) (Keep.of_wr W926).1) (Nat.le_of_eq g935.symm))) nin0)).keep (Keep.of_wr W949) (ninS (Nat.ne_of_lt (Nat.lt_of_lt_of_le (Nat.lt_of_lt_of_le (Nat.lt_of_lt_of_le (Nat.lt_of_lt_of_le (Nat.lt_of_lt_of_le (Nat.lt_of_lt_of_le f900.lt (Keep.ext (Keep.refl _ []) E912).1) (Keep.of_wr W917).1) (Keep.of_wr W920).1) (Keep.of_wr W923).1) (Keep.of_wr W926).1) (Nat.le_of_eq g935.symm))) nin0))
      have f954 : Exa Z h949 r894 "com/example/divided_duty/dividedduty/policy/Ranges" := ((((((((((f898.keep (Keep.ext (Keep.refl _ []) E912)).keep (Keep.of_wr W917)).keep (Keep.of_wr W920)).keep (Keep.of_wr W923)).keep (Keep.of_wr W926)).keep (Keep.ext (Keep.refl _ []) E935)).keep (Keep.of_wr W940)).keep (Keep.of_wr W943)).keep (Keep.of_wr W946)).keep (Keep.of_wr W949))
      refine go_virt K X949 (a := r894) (argsL := []) (stk := []) (wd hw 39 rfl) (wd hw 40 rfl) (wd hw 42 rfl) (wd hw 42 rfl) (wd hw 41 rfl) (wd hw 43 rfl) (wd hw 14 rfl) (by decide) (lenOf pd_7 rfl) e949 f954 (rmSize hw r894 b895 (own_runs [(x0.toInt32), (x1.toInt32), (x2.toInt32), (x3.toInt32)]) h949 f952 f953) rfl rfl at_252 rfl (by decide) (W := 0) (Nat.le_of_eq rfl) (by decide) (cells' := 7) (slots' := 33) rfl rfl (by decide) (by decide) ?_
      rintro T955 h955 _ X955 e955 ⟨rfl, qe955⟩
      show Go _ _ _ _ _ _ _ (T955.setTop (mkF m 255 #[.val (.int p1), .val (.int p2), .val (.int p3), .val (.int p4), .val (.int p5), .val (.int (4 : Int32)), .val (.long x0), .second, .val (.long x1), .second, .val (.long x2), .second, .val (.long x3), .second, .val (.ref b616), .val (.ref r887), .val (.ref r894), .val (.int t1), .val (.int t2), .val (.int t3), .val (.ref b912), .val (.int r1), .val (.int r2), .val (.int r3), .val (.ref b935)] [(.int ((own_runs [(x0.toInt32), (x1.toInt32), (x2.toInt32), (x3.toInt32)]).length.toInt32 / (2 : Int32)))]))
      replace e955 := e955.trans qe955
      refine go_aload K X955 at_255 rfl rfl rfl ?_
      refine go_iload K X955 at_257 rfl rfl ?_
      refine go_iconst K X955 (1 : Int32) at_259 rfl rfl ?_
      refine go_isub K X955 at_260 rfl ?_
      rw [show ((4 : Int32) - (1 : Int32)) = (3 : Int32) from by decide]
      refine go_iaload K X955 e955 f951 (i := 3) rfl rfl at_261 rfl ?_
      refine go_iconst K X955 (1 : Int32) at_262 rfl rfl ?_
      refine go_iadd K X955 at_263 rfl ?_
      refine go_icmpT K X955 at_264 (by decide) rfl (G.1 : ((own_runs [(x0.toInt32), (x1.toInt32), (x2.toInt32), (x3.toInt32)]).length.toInt32 / (2 : Int32)) = (r3 + (1 : Int32))) ?_
      refine go_aload K X955 at_269 rfl rfl rfl ?_
      refine go_iconst K X955 (0 : Int32) at_271 rfl rfl ?_
      refine go_iload K X955 at_272 rfl rfl ?_
      refine go_aload K X955 at_274 rfl rfl rfl ?_
      refine go_aload K X955 at_276 rfl rfl rfl ?_
      refine go_aload K X955 at_278 rfl rfl rfl ?_
      have f956 : AV Z h949 b616 .long [(.long x0), (.long x1), (.long x2), (.long x3)] := ((((((((((((f632.keep K886 nin0).keep K893 nin0).keep (Keep.ext (Keep.refl _ []) E912) nin0).keep (Keep.of_wr W917) (ninS (Nat.ne_of_lt (Nat.lt_of_lt_of_le (Nat.lt_of_lt_of_le (Nat.lt_of_lt_of_le (Nat.lt_of_lt_of_le (Nat.lt_of_lt_of_le (Nat.lt_of_lt_of_le (Nat.lt_of_lt_of_le f620.lt (Keep.of_wr W621).1) (Keep.of_wr W624).1) (Keep.of_wr W627).1) (Keep.of_wr W630).1) K886.1) K893.1) (Nat.le_of_eq g912.symm))) nin0)).keep (Keep.of_wr W920) (ninS (Nat.ne_of_lt (Nat.lt_of_lt_of_le (Nat.lt_of_lt_of_le (Nat.lt_of_lt_of_le (Nat.lt_of_lt_of_le (Nat.lt_of_lt_of_le (Nat.lt_of_lt_of_le (Nat.lt_of_lt_of_le f620.lt (Keep.of_wr W621).1) (Keep.of_wr W624).1) (Keep.of_wr W627).1) (Keep.of_wr W630).1) K886.1) K893.1) (Nat.le_of_eq g912.symm))) nin0)).keep (Keep.of_wr W923) (ninS (Nat.ne_of_lt (Nat.lt_of_lt_of_le (Nat.lt_of_lt_of_le (Nat.lt_of_lt_of_le (Nat.lt_of_lt_of_le (Nat.lt_of_lt_of_le (Nat.lt_of_lt_of_le (Nat.lt_of_lt_of_le f620.lt (Keep.of_wr W621).1) (Keep.of_wr W624).1) (Keep.of_wr W627).1) (Keep.of_wr W630).1) K886.1) K893.1) (Nat.le_of_eq g912.symm))) nin0)).keep (Keep.of_wr W926) (ninS (Nat.ne_of_lt (Nat.lt_of_lt_of_le (Nat.lt_of_lt_of_le (Nat.lt_of_lt_of_le (Nat.lt_of_lt_of_le (Nat.lt_of_lt_of_le (Nat.lt_of_lt_of_le (Nat.lt_of_lt_of_le f620.lt (Keep.of_wr W621).1) (Keep.of_wr W624).1) (Keep.of_wr W627).1) (Keep.of_wr W630).1) K886.1) K893.1) (Nat.le_of_eq g912.symm))) nin0)).keep (Keep.ext (Keep.refl _ []) E935) nin0).keep (Keep.of_wr W940) (ninS (Nat.ne_of_lt (Nat.lt_of_lt_of_le (Nat.lt_of_lt_of_le (Nat.lt_of_lt_of_le (Nat.lt_of_lt_of_le (Nat.lt_of_lt_of_le (Nat.lt_of_lt_of_le (Nat.lt_of_lt_of_le (Nat.lt_of_lt_of_le (Nat.lt_of_lt_of_le (Nat.lt_of_lt_of_le (Nat.lt_of_lt_of_le (Nat.lt_of_lt_of_le f620.lt (Keep.of_wr W621).1) (Keep.of_wr W624).1) (Keep.of_wr W627).1) (Keep.of_wr W630).1) K886.1) K893.1) (Keep.ext (Keep.refl _ []) E912).1) (Keep.of_wr W917).1) (Keep.of_wr W920).1) (Keep.of_wr W923).1) (Keep.of_wr W926).1) (Nat.le_of_eq g935.symm))) nin0)).keep (Keep.of_wr W943) (ninS (Nat.ne_of_lt (Nat.lt_of_lt_of_le (Nat.lt_of_lt_of_le (Nat.lt_of_lt_of_le (Nat.lt_of_lt_of_le (Nat.lt_of_lt_of_le (Nat.lt_of_lt_of_le (Nat.lt_of_lt_of_le (Nat.lt_of_lt_of_le (Nat.lt_of_lt_of_le (Nat.lt_of_lt_of_le (Nat.lt_of_lt_of_le (Nat.lt_of_lt_of_le f620.lt (Keep.of_wr W621).1) (Keep.of_wr W624).1) (Keep.of_wr W627).1) (Keep.of_wr W630).1) K886.1) K893.1) (Keep.ext (Keep.refl _ []) E912).1) (Keep.of_wr W917).1) (Keep.of_wr W920).1) (Keep.of_wr W923).1) (Keep.of_wr W926).1) (Nat.le_of_eq g935.symm))) nin0)).keep (Keep.of_wr W946) (ninS (Nat.ne_of_lt (Nat.lt_of_lt_of_le (Nat.lt_of_lt_of_le (Nat.lt_of_lt_of_le (Nat.lt_of_lt_of_le (Nat.lt_of_lt_of_le (Nat.lt_of_lt_of_le (Nat.lt_of_lt_of_le (Nat.lt_of_lt_of_le (Nat.lt_of_lt_of_le (Nat.lt_of_lt_of_le (Nat.lt_of_lt_of_le (Nat.lt_of_lt_of_le f620.lt (Keep.of_wr W621).1) (Keep.of_wr W624).1) (Keep.of_wr W627).1) (Keep.of_wr W630).1) K886.1) K893.1) (Keep.ext (Keep.refl _ []) E912).1) (Keep.of_wr W917).1) (Keep.of_wr W920).1) (Keep.of_wr W923).1) (Keep.of_wr W926).1) (Nat.le_of_eq g935.symm))) nin0)).keep (Keep.of_wr W949) (ninS (Nat.ne_of_lt (Nat.lt_of_lt_of_le (Nat.lt_of_lt_of_le (Nat.lt_of_lt_of_le (Nat.lt_of_lt_of_le (Nat.lt_of_lt_of_le (Nat.lt_of_lt_of_le (Nat.lt_of_lt_of_le (Nat.lt_of_lt_of_le (Nat.lt_of_lt_of_le (Nat.lt_of_lt_of_le (Nat.lt_of_lt_of_le (Nat.lt_of_lt_of_le f620.lt (Keep.of_wr W621).1) (Keep.of_wr W624).1) (Keep.of_wr W627).1) (Keep.of_wr W630).1) K886.1) K893.1) (Keep.ext (Keep.refl _ []) E912).1) (Keep.of_wr W917).1) (Keep.of_wr W920).1) (Keep.of_wr W923).1) (Keep.of_wr W926).1) (Nat.le_of_eq g935.symm))) nin0))
      have f957 : AV Z h949 b912 .boolean [(.int (0 : Int32)), (.int t1), (.int t2), (.int t3)] := (((((f928.keep (Keep.ext (Keep.refl _ []) E935) nin0).keep (Keep.of_wr W940) (ninS (Nat.ne_of_lt (Nat.lt_of_lt_of_le (Nat.lt_of_lt_of_le (Nat.lt_of_lt_of_le (Nat.lt_of_lt_of_le (Nat.lt_of_lt_of_le f916.lt (Keep.of_wr W917).1) (Keep.of_wr W920).1) (Keep.of_wr W923).1) (Keep.of_wr W926).1) (Nat.le_of_eq g935.symm))) nin0)).keep (Keep.of_wr W943) (ninS (Nat.ne_of_lt (Nat.lt_of_lt_of_le (Nat.lt_of_lt_of_le (Nat.lt_of_lt_of_le (Nat.lt_of_lt_of_le (Nat.lt_of_lt_of_le f916.lt (Keep.of_wr W917).1) (Keep.of_wr W920).1) (Keep.of_wr W923).1) (Keep.of_wr W926).1) (Nat.le_of_eq g935.symm))) nin0)).keep (Keep.of_wr W946) (ninS (Nat.ne_of_lt (Nat.lt_of_lt_of_le (Nat.lt_of_lt_of_le (Nat.lt_of_lt_of_le (Nat.lt_of_lt_of_le (Nat.lt_of_lt_of_le f916.lt (Keep.of_wr W917).1) (Keep.of_wr W920).1) (Keep.of_wr W923).1) (Keep.of_wr W926).1) (Nat.le_of_eq g935.symm))) nin0)).keep (Keep.of_wr W949) (ninS (Nat.ne_of_lt (Nat.lt_of_lt_of_le (Nat.lt_of_lt_of_le (Nat.lt_of_lt_of_le (Nat.lt_of_lt_of_le (Nat.lt_of_lt_of_le f916.lt (Keep.of_wr W917).1) (Keep.of_wr W920).1) (Keep.of_wr W923).1) (Keep.of_wr W926).1) (Nat.le_of_eq g935.symm))) nin0))
      refine go_static K X955 (argsL := [(.ref r894), (.int (0 : Int32)), (.int (4 : Int32)), (.ref b616), (.ref b935), (.ref b912)]) (stk := []) (wd hw 54 rfl) (wd hw 55 rfl) (wd hw 3 rfl) (wd hw 56 rfl) (by decide) (lenOf pd_8 rfl) e955 (rmChk4_0 hw r894 b616 b935 b912 x0 x1 x2 x3 r1 r2 r3 t1 t2 t3 b895 (own_runs [(x0.toInt32), (x1.toInt32), (x2.toInt32), (x3.toInt32)]) h949 f954 f952 f953 f956 f951 f957 G.2.1 G.2.2.1) rfl rfl at_280 rfl (by decide) (W := 0) (Nat.le_of_eq rfl) (by decide) (cells' := 7) (slots' := 33) rfl rfl (by decide) (by decide) ?_
      rintro T958 h958 _ X958 e958 ⟨rfl, qe958⟩
      show Go _ _ _ _ _ _ _ (T958.setTop (mkF m 283 #[.val (.int p1), .val (.int p2), .val (.int p3), .val (.int p4), .val (.int p5), .val (.int (4 : Int32)), .val (.long x0), .second, .val (.long x1), .second, .val (.long x2), .second, .val (.long x3), .second, .val (.ref b616), .val (.ref r887), .val (.ref r894), .val (.int t1), .val (.int t2), .val (.int t3), .val (.ref b912), .val (.int r1), .val (.int r2), .val (.int r3), .val (.ref b935)] [(.int (1 : Int32))]))
      replace e958 := e958.trans qe958
      refine go_ifF K X958 at_283 rfl (by decide : ¬ (1 : Int32) = (0 : Int32)) ?_
      refine go_aload K X958 at_286 rfl rfl rfl ?_
      refine go_iconst K X958 (1 : Int32) at_288 rfl rfl ?_
      refine go_iload K X958 at_289 rfl rfl ?_
      refine go_aload K X958 at_291 rfl rfl rfl ?_
      refine go_aload K X958 at_293 rfl rfl rfl ?_
      refine go_aload K X958 at_295 rfl rfl rfl ?_
      refine go_static K X958 (argsL := [(.ref r894), (.int (1 : Int32)), (.int (4 : Int32)), (.ref b616), (.ref b935), (.ref b912)]) (stk := []) (wd hw 54 rfl) (wd hw 55 rfl) (wd hw 3 rfl) (wd hw 56 rfl) (by decide) (lenOf pd_8 rfl) e958 (rmChk4_1 hw r894 b616 b935 b912 x0 x1 x2 x3 r1 r2 r3 t1 t2 t3 b895 (own_runs [(x0.toInt32), (x1.toInt32), (x2.toInt32), (x3.toInt32)]) h949 f954 f952 f953 f956 f951 f957 G.2.2.2.1 G.2.2.2.2.1) rfl rfl at_297 rfl (by decide) (W := 0) (Nat.le_of_eq rfl) (by decide) (cells' := 7) (slots' := 33) rfl rfl (by decide) (by decide) ?_
      rintro T959 h959 _ X959 e959 ⟨rfl, qe959⟩
      show Go _ _ _ _ _ _ _ (T959.setTop (mkF m 300 #[.val (.int p1), .val (.int p2), .val (.int p3), .val (.int p4), .val (.int p5), .val (.int (4 : Int32)), .val (.long x0), .second, .val (.long x1), .second, .val (.long x2), .second, .val (.long x3), .second, .val (.ref b616), .val (.ref r887), .val (.ref r894), .val (.int t1), .val (.int t2), .val (.int t3), .val (.ref b912), .val (.int r1), .val (.int r2), .val (.int r3), .val (.ref b935)] [(.int (1 : Int32))]))
      replace e959 := e959.trans qe959
      refine go_ifF K X959 at_300 rfl (by decide : ¬ (1 : Int32) = (0 : Int32)) ?_
      refine go_aload K X959 at_303 rfl rfl rfl ?_
      refine go_iconst K X959 (2 : Int32) at_305 rfl rfl ?_
      refine go_iload K X959 at_306 rfl rfl ?_
      refine go_aload K X959 at_308 rfl rfl rfl ?_
      refine go_aload K X959 at_310 rfl rfl rfl ?_
      refine go_aload K X959 at_312 rfl rfl rfl ?_
      refine go_static K X959 (argsL := [(.ref r894), (.int (2 : Int32)), (.int (4 : Int32)), (.ref b616), (.ref b935), (.ref b912)]) (stk := []) (wd hw 54 rfl) (wd hw 55 rfl) (wd hw 3 rfl) (wd hw 56 rfl) (by decide) (lenOf pd_8 rfl) e959 (rmChk4_2 hw r894 b616 b935 b912 x0 x1 x2 x3 r1 r2 r3 t1 t2 t3 b895 (own_runs [(x0.toInt32), (x1.toInt32), (x2.toInt32), (x3.toInt32)]) h949 f954 f952 f953 f956 f951 f957 G.2.2.2.2.2.1 G.2.2.2.2.2.2.1) rfl rfl at_314 rfl (by decide) (W := 0) (Nat.le_of_eq rfl) (by decide) (cells' := 7) (slots' := 33) rfl rfl (by decide) (by decide) ?_
      rintro T960 h960 _ X960 e960 ⟨rfl, qe960⟩
      show Go _ _ _ _ _ _ _ (T960.setTop (mkF m 317 #[.val (.int p1), .val (.int p2), .val (.int p3), .val (.int p4), .val (.int p5), .val (.int (4 : Int32)), .val (.long x0), .second, .val (.long x1), .second, .val (.long x2), .second, .val (.long x3), .second, .val (.ref b616), .val (.ref r887), .val (.ref r894), .val (.int t1), .val (.int t2), .val (.int t3), .val (.ref b912), .val (.int r1), .val (.int r2), .val (.int r3), .val (.ref b935)] [(.int (1 : Int32))]))
      replace e960 := e960.trans qe960
      refine go_ifF K X960 at_317 rfl (by decide : ¬ (1 : Int32) = (0 : Int32)) ?_
      refine go_aload K X960 at_320 rfl rfl rfl ?_
      refine go_iconst K X960 (3 : Int32) at_322 rfl rfl ?_
      refine go_iload K X960 at_323 rfl rfl ?_
      refine go_aload K X960 at_325 rfl rfl rfl ?_
      refine go_aload K X960 at_327 rfl rfl rfl ?_
      refine go_aload K X960 at_329 rfl rfl rfl ?_
      refine go_static K X960 (argsL := [(.ref r894), (.int (3 : Int32)), (.int (4 : Int32)), (.ref b616), (.ref b935), (.ref b912)]) (stk := []) (wd hw 54 rfl) (wd hw 55 rfl) (wd hw 3 rfl) (wd hw 56 rfl) (by decide) (lenOf pd_8 rfl) e960 (rmChk4_3 hw r894 b616 b935 b912 x0 x1 x2 x3 r1 r2 r3 t1 t2 t3 b895 (own_runs [(x0.toInt32), (x1.toInt32), (x2.toInt32), (x3.toInt32)]) h949 f954 f952 f953 f956 f951 f957 G.2.2.2.2.2.2.2.1 G.2.2.2.2.2.2.2.2) rfl rfl at_331 rfl (by decide) (W := 0) (Nat.le_of_eq rfl) (by decide) (cells' := 7) (slots' := 33) rfl rfl (by decide) (by decide) ?_
      rintro T961 h961 _ X961 e961 ⟨rfl, qe961⟩
      show Go _ _ _ _ _ _ _ (T961.setTop (mkF m 334 #[.val (.int p1), .val (.int p2), .val (.int p3), .val (.int p4), .val (.int p5), .val (.int (4 : Int32)), .val (.long x0), .second, .val (.long x1), .second, .val (.long x2), .second, .val (.long x3), .second, .val (.ref b616), .val (.ref r887), .val (.ref r894), .val (.int t1), .val (.int t2), .val (.int t3), .val (.ref b912), .val (.int r1), .val (.int r2), .val (.int r3), .val (.ref b935)] [(.int (1 : Int32))]))
      replace e961 := e961.trans qe961
      refine go_ifF K X961 at_334 rfl (by decide : ¬ (1 : Int32) = (0 : Int32)) ?_
      refine go_iconst K X961 (1 : Int32) at_337 rfl rfl ?_
      refine go_goto K X961 at_338 (by decide) rfl ?_
      refine go_retZ K X961 (Or.inr rfl) at_342 (by decide) (by decide) ?_
      rw [e961]
      exact ⟨rfl, kp950⟩
    · intro (hc885 : ¬ x3 < (2147483647 : Int64))
      refine go_iconst K X630 (1 : Int32) at_84 rfl rfl ?_
      refine go_retZ K X630 (Or.inr rfl) at_85 (by decide) (by decide) ?_
      rw [e630]
      exact ⟨rfl, kp631⟩
set_option maxRecDepth 65536 in
set_option maxHeartbeats 40000000 in
theorem comes_1 {Post : Tables → Env → Array Value → State → Outcome → State → Prop} (hpost : ∀ tb e args s v u, (limb_1_1.after args s (.returned v) u = true ∧ limb_1_2.after args s (.returned v) u = true ∧ True) → FrameEnd s (.returned v) u (Jvm.fieldLocs frame_1_writes args s ++ Jvm.arrayLocs frame_1_arrays args s ++ Jvm.staticLocs frame_1_statics s) 24 192 → Post tb e args s (.returned v) u) :
    ArmFor flags0 classFile x code maxLocals ret World_1 tables_1 room_1 Calls_1 rest_1 Pre_1 Post := by
  intro l hfl _ _ p e ha hc hk s m args below hf hA hF happ hP
  obtain ⟨hcalls, hrest, hpre⟩ := hP
  obtain ⟨-, -, -, hnamed, -, -, -, hat⟩ := (Spec.applies_iff hf).mp happ
  obtain ⟨hg, hn⟩ := and_e (Cond.before_iff.mp (show (Jvm.Cond.and given_1 narrow_1).before args s = true from hpre))
  obtain ⟨g1, g2⟩ := and_e hg
  obtain ⟨g3, g4⟩ := and_e g2
  obtain ⟨g5, g6⟩ := and_e g4
  obtain ⟨g7, g8⟩ := and_e g6
  obtain ⟨g9, g10⟩ := and_e g8
  obtain ⟨w0, w1, w2, w3, w4, rfl⟩ : ∃ w0 w1 w2 w3 w4 : Value, args = #[w0, w1, w2, w3, w4] := by
    have hs : args.size = 5 := by simpa [Cond.value, given_1] using g1
    obtain ⟨L⟩ := args
    match L, hs with
    | [w0, w1, w2, w3, w4], _ => exact ⟨w0, w1, w2, w3, w4, rfl⟩
  have hw := fun d (hd : d ∈ tables_1) => atoms_spec (ws := Jvm.Cond.code x code maxLocals ret :: tables_1) hat d (List.mem_cons_of_mem _ hd)
  have hfit : Fit s := fun {y c} hc i hi => by
    obtain ⟨ha, rfl⟩ := Array.getElem?_eq_some_iff.mp hc
    have q := List.all_eq_true.mp ((Array.all_eq_true_iff_forall_mem.mp hF) _ (Array.getElem_mem ha)) i (List.mem_range.mpr hi)
    simpa [Array.getElem?_eq_getElem hi] using q
  obtain ⟨i0, ei0⟩ := is_v g3
  obtain rfl : w0 = (.int i0) := Option.some.inj ei0
  obtain ⟨i1, ei1⟩ := is_v g5
  obtain rfl : w1 = (.int i1) := Option.some.inj ei1
  obtain ⟨i2, ei2⟩ := is_v g7
  obtain rfl : w2 = (.int i2) := Option.some.inj ei2
  obtain ⟨i3, ei3⟩ := is_v g9
  obtain rfl : w3 = (.int i3) := Option.some.inj ei3
  obtain ⟨i4, ei4⟩ := is_v g10
  obtain rfl : w4 = (.int i4) := Option.some.inj ei4
  obtain ⟨n, o, h1, h2, h3, _, L, rfl, ⟨⟨rfl, -⟩, N⟩, hq⟩ := rmLaw (l := l) (n0 := s.heap.size) hw i0 i1 i2 i3 i4 s.heap (Nat.le_refl _) tables_1 p e ha hc hk s m _ below hf ((Spec.applies_iff_loose hf).mp happ).1 ⟨rfl, State.Warmed39.refl s, rfl⟩ trivial
  refine ⟨n, _, h1, h2, h3, hpost _ _ _ _ _ _ ⟨Cond.after_iff.mpr rfl, Cond.after_iff.mpr (eq_i res_at (Term.int_eval (1)) rfl), trivial⟩ ⟨hq.1, hq.2.1, (hq.2.2.sift fun y hy => Or.inr (N y hy)).mono (by decide) (by decide)⟩⟩
theorem main_1_1 : Claimed_1_1 := comes_1 fun _ _ _ _ _ _ h hF => ⟨h.1, hF⟩
theorem main_1_2 : Claimed_1_2 := comes_1 fun _ _ _ _ _ _ h hF => ⟨h.2.1, hF⟩
end Jvm.Pilot.@@N@@
namespace Jvm.Pilot.@@N@@
open Jvm Jvm.ClassFile Sem Op Lib Jvm.Free Jvm.Stand Jvm.Pilot.@@N@@.Jvm.D
/-! MADE BY PROGRAM (witnessworld.py) out of the Statement's table words and the real class files: 16 classes; the members and pool entries that the words name. The judged class is class 1, her method 4. -/
namespace start1
open Jvm.ClassFile
def u (s : String) : CpInfo := .utf8 (stringToUtf16 s)
/-- a pool by its gaps: so many unusable entries, then the entry; so many at the end -/
def gap : Nat → List CpInfo → List CpInfo
  | 0, r => r
  | n + 1, r => .unusable :: gap n r
def poolList (es : List (Nat × CpInfo)) (last : Nat) : List CpInfo := es.foldr (fun e r => gap e.1 (e.2 :: r)) (gap last [])
def pool (es : List (Nat × CpInfo)) (last : Nat) : Array CpInfo := ⟨poolList es last⟩
def fileOf (pool : Array CpInfo) (this : Nat) (attrs : Array Attribute := #[]) (ms : Array MethodInfo := #[]) (fl : Nat := 33) (sup : Nat := 0) (ifs : Array Nat := #[]) (fds : Array FieldInfo := #[]) : ClassFile where
  minorVersion := 0
  majorVersion := 65
  constantPool := pool
  accessFlags := fl
  thisClass := this
  superClass := sup
  interfaces := ifs
  fields := fds
  methods := ms
  attributes := attrs
def plain (name : String) (sup : Option ClassId) : Class where
  name := name
  kind := .ordinary
  loader := none
  accessFlags := 33
  super := sup
  interfaces := #[]
  cf := none
  fields := #[]
  methods := #[]
  instanceTypes := #[]
  staticTypes := #[]
  resolved := #[]
  callSites := []
  init := .initialized
  statics := none
  mirror := none

def pool0 : Array CpInfo := pool [(5, u "<init>"), (0, u "()V"), (1, .class_ 10), (1, u "java/lang/Object"), (85, u "clone"), (0, u "()Ljava/lang/Object;")] 26

def k0c0 : Code := { maxStack := 0, maxLocals := 1, code := object_method_1_code, exceptionTable := #[], attributes := #[] }
def k0m0 : Method := { name := "<init>", desc := "()V", sig := { parameters := [], returnType := none }, accessFlags := 1, code := some k0c0 }
def k0m1 : Method := { name := "clone", desc := "()Ljava/lang/Object;", sig := { parameters := [], returnType := some (.object "java/lang/Object") }, accessFlags := 260, code := none }
/-- java/lang/Object -/
def k0 : Class := { plain "java/lang/Object" none with
  accessFlags := 33
  interfaces := #[]
  cf := some (fileOf pool0 8 #[] #[{ accessFlags := 1, nameIndex := 5, descriptorIndex := 6, attributes := #[] }, { accessFlags := 260, nameIndex := 96, descriptorIndex := 97, attributes := #[] }] 33 0 #[] #[])
  fields := #[]
  methods := #[k0m0, k0m1]
  instanceTypes := #[]
  staticTypes := #[]
  resolved := Array.replicate 124 none
  statics := none }

def pool1 : Array CpInfo := pool [(2, .class_ 4), (1, u "java/lang/Object"), (0, u "<init>"), (0, u "()V"), (0, .long 2), (1, .integer 1073741823), (0, .methodref 11 12), (0, .class_ 13), (0, .nameAndType 14 15), (0, u "com/example/divided_duty/dividedduty/policy/Ranges"), (0, u "first"), (0, u "(I)I"), (0, .methodref 11 17), (0, .nameAndType 18 15), (0, u "end"), (0, .integer 2147483647), (0, .methodref 21 22), (0, .class_ 23), (0, .nameAndType 24 25), (0, u "com/example/divided_duty/dividedduty/policy/RangesOfSortedPinLaw"), (0, u "gap"), (0, u "(I)J"), (2, .long 2147483647), (1, .methodref 21 31), (0, .nameAndType 32 33), (0, u "make"), (0, u "(I[J)[I"), (0, .methodref 11 35), (0, .nameAndType 36 37), (0, u "ofSorted"), (0, u "([I)Lcom/example/divided_duty/dividedduty/policy/Ranges;"), (0, .methodref 11 39), (0, .nameAndType 40 41), (0, u "size"), (0, u "()I"), (0, .methodref 21 43), (0, .nameAndType 44 45), (0, u "check"), (0, u "(Lcom/example/divided_duty/dividedduty/policy/Ranges;II[J[I[Z)Z"), (3, u "law"), (0, u "(IIIII)Z")] 8

def k1m0 : Method := { name := "<init>", desc := "()V", sig := { parameters := [], returnType := none }, accessFlags := 1, code := none }
def k1c1 : Code := { maxStack := 4, maxLocals := 1, code := method_2_code, exceptionTable := #[], attributes := #[] }
def k1m1 : Method := { name := "gap", desc := "(I)J", sig := { parameters := [.int], returnType := some .long }, accessFlags := 10, code := some k1c1 }
def k1c2 : Code := { maxStack := 5, maxLocals := 2, code := method_3_code, exceptionTable := #[], attributes := #[] }
def k1m2 : Method := { name := "make", desc := "(I[J)[I", sig := { parameters := [.int, (.array .long)], returnType := some (.array .int) }, accessFlags := 10, code := some k1c2 }
def k1c3 : Code := { maxStack := 5, maxLocals := 7, code := method_4_code, exceptionTable := #[], attributes := #[] }
def k1m3 : Method := { name := "check", desc := "(Lcom/example/divided_duty/dividedduty/policy/Ranges;II[J[I[Z)Z", sig := { parameters := [(.object "com/example/divided_duty/dividedduty/policy/Ranges"), .int, .int, (.array .long), (.array .int), (.array .boolean)], returnType := some .boolean }, accessFlags := 10, code := some k1c3 }
def k1c4 : Code := { maxStack := 6, maxLocals := 25, code := code, exceptionTable := #[], attributes := #[] }
def k1m4 : Method := { name := "law", desc := "(IIIII)Z", sig := { parameters := [.int, .int, .int, .int, .int], returnType := some .boolean }, accessFlags := 9, code := some k1c4 }
/-- com/example/divided_duty/dividedduty/policy/RangesOfSortedPinLaw -/
def k1 : Class := { plain "com/example/divided_duty/dividedduty/policy/RangesOfSortedPinLaw" (some 0) with
  accessFlags := 49
  interfaces := #[]
  cf := some (fileOf pool1 21 #[] #[{ accessFlags := 1, nameIndex := 5, descriptorIndex := 6, attributes := #[] }, { accessFlags := 10, nameIndex := 24, descriptorIndex := 25, attributes := #[] }, { accessFlags := 10, nameIndex := 32, descriptorIndex := 33, attributes := #[] }, { accessFlags := 10, nameIndex := 44, descriptorIndex := 45, attributes := #[] }, { accessFlags := 9, nameIndex := 49, descriptorIndex := 50, attributes := #[] }] 49 2 #[] #[])
  fields := #[]
  methods := #[k1m0, k1m1, k1m2, k1m3, k1m4]
  instanceTypes := #[]
  staticTypes := #[]
  resolved := Array.replicate 59 none
  statics := none }

def pool2 : Array CpInfo := pool [(1, .methodref 2 3), (0, .class_ 4), (0, .nameAndType 5 6), (0, u "java/lang/Object"), (0, u "<init>"), (0, u "()V"), (0, .fieldref 8 9), (0, .class_ 10), (0, .nameAndType 11 12), (0, u "com/example/divided_duty/dividedduty/policy/Ranges"), (0, u "bounds"), (0, u "[I"), (0, .methodref 14 15), (0, .class_ 16), (0, .nameAndType 17 18), (0, u "java/util/Arrays"), (0, u "copyOf"), (0, u "([II)[I"), (0, .methodref 8 20), (0, .nameAndType 5 21), (0, u "([I)V"), (2, u "NONE"), (0, u "Lcom/example/divided_duty/dividedduty/policy/Ranges;"), (4, u "size"), (0, u "()I"), (31, u "end"), (15, u "ofSorted"), (0, u "([I)Lcom/example/divided_duty/dividedduty/policy/Ranges;"), (16, u "first"), (0, u "(I)I")] 3

def k2c0 : Code := { maxStack := 2, maxLocals := 2, code := prog_29_method_1_code, exceptionTable := #[], attributes := #[] }
def k2m0 : Method := { name := "<init>", desc := "([I)V", sig := { parameters := [(.array .int)], returnType := none }, accessFlags := 2, code := some k2c0 }
def k2c1 : Code := { maxStack := 4, maxLocals := 7, code := prog_29_method_2_code, exceptionTable := #[], attributes := #[] }
def k2m1 : Method := { name := "ofSorted", desc := "([I)Lcom/example/divided_duty/dividedduty/policy/Ranges;", sig := { parameters := [(.array .int)], returnType := some (.object "com/example/divided_duty/dividedduty/policy/Ranges") }, accessFlags := 8, code := some k2c1 }
def k2c2 : Code := { maxStack := 2, maxLocals := 1, code := prog_29_method_10_code, exceptionTable := #[], attributes := #[] }
def k2m2 : Method := { name := "size", desc := "()I", sig := { parameters := [], returnType := some .int }, accessFlags := 0, code := some k2c2 }
def k2c3 : Code := { maxStack := 3, maxLocals := 2, code := prog_29_method_11_code, exceptionTable := #[], attributes := #[] }
def k2m3 : Method := { name := "first", desc := "(I)I", sig := { parameters := [.int], returnType := some .int }, accessFlags := 0, code := some k2c3 }
def k2c4 : Code := { maxStack := 3, maxLocals := 2, code := prog_29_method_12_code, exceptionTable := #[], attributes := #[] }
def k2m4 : Method := { name := "end", desc := "(I)I", sig := { parameters := [.int], returnType := some .int }, accessFlags := 0, code := some k2c4 }
/-- com/example/divided_duty/dividedduty/policy/Ranges -/
def k2 : Class := { plain "com/example/divided_duty/dividedduty/policy/Ranges" (some 0) with
  accessFlags := 48
  interfaces := #[]
  cf := some (fileOf pool2 8 #[] #[{ accessFlags := 2, nameIndex := 5, descriptorIndex := 21, attributes := #[] }, { accessFlags := 8, nameIndex := 79, descriptorIndex := 80, attributes := #[] }, { accessFlags := 0, nameIndex := 30, descriptorIndex := 31, attributes := #[] }, { accessFlags := 0, nameIndex := 97, descriptorIndex := 98, attributes := #[] }, { accessFlags := 0, nameIndex := 63, descriptorIndex := 98, attributes := #[] }] 48 2 #[] #[{ accessFlags := 24, nameIndex := 24, descriptorIndex := 25, attributes := #[] }, { accessFlags := 18, nameIndex := 11, descriptorIndex := 12, attributes := #[] }])
  fields := #[{ name := "NONE", type := (.object "com/example/divided_duty/dividedduty/policy/Ranges"), accessFlags := 24, slot := 0, constantValue := 0 }, { name := "bounds", type := (.array .int), accessFlags := 18, slot := 0, constantValue := 0 }]
  methods := #[k2m0, k2m1, k2m2, k2m3, k2m4]
  instanceTypes := #[(.array .int)]
  staticTypes := #[(.object "com/example/divided_duty/dividedduty/policy/Ranges")]
  resolved := Array.replicate 102 none
  statics := none }

def pool3 : Array CpInfo := pool [(2, .class_ 4), (1, u "java/lang/Object"), (0, u "<init>"), (0, u "()V"), (7, .class_ 16), (1, u "java/util/Arrays"), (57, .class_ 76), (1, u "java/util/Arrays$NaturalOrder"), (32, u "()Ljava/lang/Object;"), (3, .class_ 115), (1, u "java/util/Arrays$LegacyMergeSort"), (1, u "Z"), (10, .nameAndType 129 109), (0, u "clone"), (20, .methodref 151 152), (0, .class_ 153), (0, .nameAndType 154 155), (0, u "java/lang/System"), (0, u "arraycopy"), (0, u "(Ljava/lang/Object;ILjava/lang/Object;II)V"), (146, u "copyOf"), (1, .methodref 305 306), (0, .class_ 307), (0, .nameAndType 308 309), (0, u "java/lang/Math"), (0, u "min"), (0, u "(II)I"), (6, .methodref 317 128), (0, .class_ 318), (0, u "[I"), (56, .class_ 376), (0, u "java/util/Arrays$ArrayList"), (68, u "$assertionsDisabled"), (269, u "MIN_ARRAY_SORT_GRAN"), (0, u "I"), (2, u "INSERTIONSORT_THRESHOLD"), (151, u "([II)[I"), (103, .class_ 976), (0, u "java/util/Arrays$ArrayItr")] 52

def k3m0 : Method := { name := "<init>", desc := "()V", sig := { parameters := [], returnType := none }, accessFlags := 2, code := none }
def k3c1 : Code := { maxStack := 6, maxLocals := 3, code := jdk_65_method_123_code, exceptionTable := #[], attributes := #[] }
def k3m1 : Method := { name := "copyOf", desc := "([II)[I", sig := { parameters := [(.array .int), .int], returnType := some (.array .int) }, accessFlags := 9, code := some k3c1 }
/-- java/util/Arrays -/
def k3 : Class := { plain "java/util/Arrays" (some 0) with
  accessFlags := 49
  interfaces := #[]
  cf := some (fileOf pool3 14 #[.nestMembers #[975, 375, 113, 74]] #[{ accessFlags := 2, nameIndex := 5, descriptorIndex := 6, attributes := #[] }, { accessFlags := 9, nameIndex := 302, descriptorIndex := 871, attributes := #[] }] 49 2 #[] #[{ accessFlags := 26, nameIndex := 715, descriptorIndex := 716, attributes := #[] }, { accessFlags := 26, nameIndex := 719, descriptorIndex := 716, attributes := #[] }, { accessFlags := 4120, nameIndex := 445, descriptorIndex := 117, attributes := #[] }])
  fields := #[{ name := "MIN_ARRAY_SORT_GRAN", type := .int, accessFlags := 26, slot := 0, constantValue := 0 }, { name := "INSERTIONSORT_THRESHOLD", type := .int, accessFlags := 26, slot := 1, constantValue := 0 }, { name := "$assertionsDisabled", type := .boolean, accessFlags := 4120, slot := 2, constantValue := 0 }]
  methods := #[k3m0, k3m1]
  instanceTypes := #[]
  staticTypes := #[.int, .int, .boolean]
  resolved := Array.replicate 1029 none
  statics := none }

def pool4 : Array CpInfo := pool [(1, .class_ 2), (0, u "java/lang/Cloneable"), (0, .class_ 4), (0, u "java/lang/Object")] 2

/-- java/lang/Cloneable -/
def k4 : Class := { plain "java/lang/Cloneable" (some 0) with
  accessFlags := 1537
  interfaces := #[]
  cf := some (fileOf pool4 1 #[] #[] 1537 3 #[] #[])
  fields := #[]
  methods := #[]
  instanceTypes := #[]
  staticTypes := #[]
  resolved := Array.replicate 7 none
  statics := none }

def pool5 : Array CpInfo := pool [(1, .class_ 2), (0, u "java/lang/Math"), (1, .class_ 6), (1, u "java/lang/Object"), (0, u "<init>"), (0, u "()V"), (89, .class_ 100), (1, u "java/lang/Math$RandomNumberGeneratorHolder"), (71, u "negativeZeroFloatBits"), (0, u "J"), (2, u "negativeZeroDoubleBits"), (24, u "min"), (43, u "$assertionsDisabled"), (0, u "Z"), (88, u "(II)I"), (2, u "twoToTheDoubleScaleDown"), (0, u "D"), (4, u "twoToTheDoubleScaleUp"), (9, u "E"), (3, u "PI"), (2, u "TAU"), (2, u "DEGREES_TO_RADIANS"), (0, u "RADIANS_TO_DEGREES")] 94

def k5m0 : Method := { name := "<init>", desc := "()V", sig := { parameters := [], returnType := none }, accessFlags := 2, code := none }
def k5c1 : Code := { maxStack := 2, maxLocals := 2, code := jdk_29_method_69_code, exceptionTable := #[], attributes := #[] }
def k5m1 : Method := { name := "min", desc := "(II)I", sig := { parameters := [.int, .int], returnType := some .int }, accessFlags := 9, code := some k5c1 }
/-- java/lang/Math -/
def k5 : Class := { plain "java/lang/Math" (some 0) with
  accessFlags := 49
  interfaces := #[]
  cf := some (fileOf pool5 1 #[.nestMembers #[98]] #[{ accessFlags := 2, nameIndex := 7, descriptorIndex := 8, attributes := #[] }, { accessFlags := 9, nameIndex := 201, descriptorIndex := 335, attributes := #[] }] 49 4 #[] #[{ accessFlags := 25, nameIndex := 354, descriptorIndex := 339, attributes := #[] }, { accessFlags := 25, nameIndex := 358, descriptorIndex := 339, attributes := #[] }, { accessFlags := 25, nameIndex := 361, descriptorIndex := 339, attributes := #[] }, { accessFlags := 26, nameIndex := 364, descriptorIndex := 339, attributes := #[] }, { accessFlags := 26, nameIndex := 365, descriptorIndex := 339, attributes := #[] }, { accessFlags := 26, nameIndex := 172, descriptorIndex := 173, attributes := #[] }, { accessFlags := 26, nameIndex := 176, descriptorIndex := 173, attributes := #[] }, { accessFlags := 8, nameIndex := 344, descriptorIndex := 339, attributes := #[] }, { accessFlags := 8, nameIndex := 338, descriptorIndex := 339, attributes := #[] }, { accessFlags := 4120, nameIndex := 245, descriptorIndex := 246, attributes := #[] }])
  fields := #[{ name := "E", type := .double, accessFlags := 25, slot := 0, constantValue := 0 }, { name := "PI", type := .double, accessFlags := 25, slot := 1, constantValue := 0 }, { name := "TAU", type := .double, accessFlags := 25, slot := 2, constantValue := 0 }, { name := "DEGREES_TO_RADIANS", type := .double, accessFlags := 26, slot := 3, constantValue := 0 }, { name := "RADIANS_TO_DEGREES", type := .double, accessFlags := 26, slot := 4, constantValue := 0 }, { name := "negativeZeroFloatBits", type := .long, accessFlags := 26, slot := 5, constantValue := 0 }, { name := "negativeZeroDoubleBits", type := .long, accessFlags := 26, slot := 6, constantValue := 0 }, { name := "twoToTheDoubleScaleUp", type := .double, accessFlags := 8, slot := 7, constantValue := 0 }, { name := "twoToTheDoubleScaleDown", type := .double, accessFlags := 8, slot := 8, constantValue := 0 }, { name := "$assertionsDisabled", type := .boolean, accessFlags := 4120, slot := 9, constantValue := 0 }]
  methods := #[k5m0, k5m1]
  instanceTypes := #[]
  staticTypes := #[.double, .double, .double, .double, .double, .long, .long, .double, .double, .boolean]
  resolved := Array.replicate 460 none
  statics := none }

def pool6 : Array CpInfo := pool [(2, .class_ 4), (1, u "java/lang/Object"), (0, u "<init>"), (0, u "()V"), (1, .class_ 10), (1, u "java/lang/System"), (0, u "allowSecurityManager"), (0, u "I"), (16, u "cons"), (0, u "Ljava/io/Console;"), (77, .class_ 110), (1, u "java/lang/System$CallersHolder"), (43, u "initialErrStream"), (0, u "Ljava/io/PrintStream;"), (19, u "security"), (0, u "Ljava/lang/SecurityManager;"), (31, .class_ 209), (0, u "java/lang/System$1"), (7, u "props"), (0, u "Ljava/util/Properties;"), (2, u "lineSeparator"), (0, u "Ljava/lang/String;"), (96, .class_ 321), (1, u "java/lang/System$LoggerFinder"), (5, .class_ 328), (0, u "java/lang/System$Logger"), (67, u "err"), (2, u "out"), (91, u "notSupportedJnuEncoding"), (15, u "in"), (17, u "initialIn"), (0, u "Ljava/io/InputStream;"), (35, u "bootLayer"), (0, u "Ljava/lang/ModuleLayer;"), (99, .class_ 664), (0, u "java/lang/System$2"), (9, u "NEVER"), (2, u "MAYBE"), (49, u "arraycopy"), (0, u "(Ljava/lang/Object;ILjava/lang/Object;II)V"), (72, .class_ 802), (0, u "java/lang/System$Logger$Level")] 31

def k6m0 : Method := { name := "<init>", desc := "()V", sig := { parameters := [], returnType := none }, accessFlags := 2, code := none }
def k6m1 : Method := { name := "arraycopy", desc := "(Ljava/lang/Object;ILjava/lang/Object;II)V", sig := { parameters := [(.object "java/lang/Object"), .int, (.object "java/lang/Object"), .int, .int], returnType := none }, accessFlags := 265, code := none }
/-- java/lang/System -/
def k6 : Class := { plain "java/lang/System" (some 0) with
  accessFlags := 49
  interfaces := #[]
  cf := some (fileOf pool6 8 #[.nestMembers #[319, 327, 801, 108, 663, 208]] #[{ accessFlags := 2, nameIndex := 5, descriptorIndex := 6, attributes := #[] }, { accessFlags := 265, nameIndex := 727, descriptorIndex := 728, attributes := #[] }] 49 2 #[] #[{ accessFlags := 25, nameIndex := 507, descriptorIndex := 526, attributes := #[] }, { accessFlags := 25, nameIndex := 399, descriptorIndex := 155, attributes := #[] }, { accessFlags := 25, nameIndex := 396, descriptorIndex := 155, attributes := #[] }, { accessFlags := 10, nameIndex := 525, descriptorIndex := 526, attributes := #[] }, { accessFlags := 26, nameIndex := 674, descriptorIndex := 12, attributes := #[] }, { accessFlags := 26, nameIndex := 677, descriptorIndex := 12, attributes := #[] }, { accessFlags := 10, nameIndex := 11, descriptorIndex := 12, attributes := #[] }, { accessFlags := 74, nameIndex := 175, descriptorIndex := 176, attributes := #[] }, { accessFlags := 10, nameIndex := 491, descriptorIndex := 222, attributes := #[] }, { accessFlags := 74, nameIndex := 29, descriptorIndex := 30, attributes := #[] }, { accessFlags := 74, nameIndex := 154, descriptorIndex := 155, attributes := #[] }, { accessFlags := 10, nameIndex := 217, descriptorIndex := 218, attributes := #[] }, { accessFlags := 10, nameIndex := 221, descriptorIndex := 222, attributes := #[] }, { accessFlags := 8, nameIndex := 562, descriptorIndex := 563, attributes := #[] }])
  fields := #[{ name := "in", type := (.object "java/io/InputStream"), accessFlags := 25, slot := 0, constantValue := 0 }, { name := "out", type := (.object "java/io/PrintStream"), accessFlags := 25, slot := 1, constantValue := 0 }, { name := "err", type := (.object "java/io/PrintStream"), accessFlags := 25, slot := 2, constantValue := 0 }, { name := "initialIn", type := (.object "java/io/InputStream"), accessFlags := 10, slot := 3, constantValue := 0 }, { name := "NEVER", type := .int, accessFlags := 26, slot := 4, constantValue := 0 }, { name := "MAYBE", type := .int, accessFlags := 26, slot := 5, constantValue := 0 }, { name := "allowSecurityManager", type := .int, accessFlags := 10, slot := 6, constantValue := 0 }, { name := "security", type := (.object "java/lang/SecurityManager"), accessFlags := 74, slot := 7, constantValue := 0 }, { name := "notSupportedJnuEncoding", type := (.object "java/lang/String"), accessFlags := 10, slot := 8, constantValue := 0 }, { name := "cons", type := (.object "java/io/Console"), accessFlags := 74, slot := 9, constantValue := 0 }, { name := "initialErrStream", type := (.object "java/io/PrintStream"), accessFlags := 74, slot := 10, constantValue := 0 }, { name := "props", type := (.object "java/util/Properties"), accessFlags := 10, slot := 11, constantValue := 0 }, { name := "lineSeparator", type := (.object "java/lang/String"), accessFlags := 10, slot := 12, constantValue := 0 }, { name := "bootLayer", type := (.object "java/lang/ModuleLayer"), accessFlags := 8, slot := 13, constantValue := 0 }]
  methods := #[k6m0, k6m1]
  instanceTypes := #[]
  staticTypes := #[(.object "java/io/InputStream"), (.object "java/io/PrintStream"), (.object "java/io/PrintStream"), (.object "java/io/InputStream"), .int, .int, .int, (.object "java/lang/SecurityManager"), (.object "java/lang/String"), (.object "java/io/Console"), (.object "java/io/PrintStream"), (.object "java/util/Properties"), (.object "java/lang/String"), (.object "java/lang/ModuleLayer")]
  resolved := Array.replicate 834 none
  statics := none }

def pool7 : Array CpInfo := pool [(1, u "java/io/Serializable"), (0, .class_ 1), (0, u "java/lang/Object"), (0, .class_ 3)] 3

/-- java/io/Serializable -/
def k7 : Class := { plain "java/io/Serializable" (some 0) with
  accessFlags := 1537
  interfaces := #[]
  cf := some (fileOf pool7 2 #[] #[] 1537 4 #[] #[])
  fields := #[]
  methods := #[]
  instanceTypes := #[]
  staticTypes := #[]
  resolved := Array.replicate 8 none
  statics := none }

/-- the primitive boolean -/
def k8 : Class := { plain "boolean" none with kind := .primitive 'Z', accessFlags := 0x411 }
/-- [Z -/
def k9 : Class := { plain "[Z" (some 0) with kind := .array 8 .boolean, interfaces := #[4, 7], accessFlags := 1041 }

/-- the primitive byte -/
def k10 : Class := { plain "byte" none with kind := .primitive 'B', accessFlags := 0x411 }
/-- [B -/
def k11 : Class := { plain "[B" (some 0) with kind := .array 10 .byte, interfaces := #[4, 7], accessFlags := 1041 }

/-- the primitive int -/
def k12 : Class := { plain "int" none with kind := .primitive 'I', accessFlags := 0x411 }
/-- [I -/
def k13 : Class := { plain "[I" (some 0) with kind := .array 12 .int, interfaces := #[4, 7], accessFlags := 1041 }

/-- the primitive long -/
def k14 : Class := { plain "long" none with kind := .primitive 'J', accessFlags := 0x411 }
/-- [J -/
def k15 : Class := { plain "[J" (some 0) with kind := .array 14 .long, interfaces := #[4, 7], accessFlags := 1041 }

def heap : Heap := #[]
def classes : Array Class := #[k0, k1, k2, k3, k4, k5, k6, k7, k8, k9, k10, k11, k12, k13, k14, k15]
def interned : List (Array UInt16 × Addr) := []
def slotsUsed : Nat := 0
def theMethod : MethodId := ⟨1, 4⟩
def args0 : Array Value := #[.int 5, .int 7, .int 3, .int 4, .int 3]
def aboutOver (below : List Frame) : State where
  vm := { classes := classes, interned := interned.toArray }
  heap := heap
  slotsUsed := slotsUsed
  threads := #[{ frames := .invoking theMethod args0 :: below }]
def below0 : List Frame := [.native { method := ⟨0, 0⟩, args := #[] }]
def about1 : State := aboutOver below0
def p0 : Program := .bare "" "" ""
def e0 : Env := launch0.env 0 0 0
theorem w_frames : about1.frames = Frame.invoking theMethod args0 :: below0 := rfl
set_option maxRecDepth 65536 in
theorem w_args : argsFit about1.vm theMethod args0 = true := by decide +kernel
set_option maxRecDepth 65536 in
theorem w_heap : heapFits about1 = true := by decide +kernel
set_option maxRecDepth 65536 in
theorem w_runnable : about1.curStatus? = some .runnable := by decide +kernel
set_option maxRecDepth 65536 in
theorem w_alone : about1.alone = true := by decide +kernel
set_option maxRecDepth 65536 in
theorem w_named : about1.methodNamed? x = some theMethod := by decide +kernel
set_option maxRecDepth 65536 in
theorem w_hears : about1.hears theMethod below0 = true := by decide +kernel
set_option maxRecDepth 65536 in
theorem w_ripe : about1.ripe theMethod args0 below0 = true := by decide +kernel
theorem w_running : about1.status = .running := rfl
set_option maxRecDepth 65536 in
theorem w_room : about1.hasRoom e0.platform room_1 = true :=
  launch0.hasRoom_least _ room_1 (by decide +kernel) (by decide +kernel) (by decide +kernel) (by decide +kernel) (by decide +kernel) (by decide +kernel)
theorem allAtoms_all (ts : List Jvm.Cond) (a : Array Jvm.Value) (st : Jvm.State) : (allAtoms ts).before a st = ts.all (fun c => c.before a st) := by
  induction ts with
  | nil => rfl
  | cons c t ih =>
    show (Jvm.Cond.and c (allAtoms t)).before a st = _
    rw [Jvm.Cond.before_and, ih, List.all_cons]
def words1 : List Jvm.Cond := Jvm.Cond.code x code maxLocals ret :: tables_1
/-- a 'code' word, met by the world's own term for the bytes: nothing is compared byte by byte -/
theorem code_word {y : MethodName} {bytes : ByteArray} {mx : Nat} {rt : Option FieldType} {a : Array Value} {s : State} {m : MethodId} {meth : Method} {c : Code} (h1 : s.methodNamed? y = some m) (h2 : s.vm.method? m = some meth) (h3 : meth.code = some c) (h4 : c.code = bytes)
    (h5 : (c.maxLocals == mx && c.exceptionTable.isEmpty && decide (c.maxStack ≤ mostOperands) && decide (meth.sig.returnType = rt) && !meth.locks && decide (parseMethodDescriptor y.desc = some meth.sig)) = true) : (Jvm.Cond.code y bytes mx rt).before a s = true := by
  simp only [Bool.and_eq_true, beq_iff_eq, Bool.not_eq_true', decide_eq_true_eq] at h5
  obtain ⟨⟨⟨⟨⟨g1, g2⟩, g3⟩, g4⟩, g5⟩, g6⟩ := h5
  simp [Cond.before, Cond.holds, Cond.value, h1, h2, h3, h4, g1, g2, g3, g4, g5, g6]
def isCode : Jvm.Cond → Bool
  | .code _ _ _ _ => true
  | _ => false
theorem all_split {L : List Jvm.Cond} {P : Jvm.Cond → Bool} (h1 : L.all (fun c => isCode c || P c) = true) (h2 : ∀ c ∈ L.filter isCode, P c = true) : L.all P = true := by
  refine List.all_eq_true.mpr fun c hc => ?_
  have h := List.all_eq_true.mp h1 c hc
  rcases Bool.eq_false_or_eq_true (isCode c) with hi | hi
  · exact h2 c (List.mem_filter.mpr ⟨hc, hi⟩)
  · simpa [hi] using h
set_option maxRecDepth 65536 in
theorem w_c0 : (Jvm.Cond.code x code maxLocals ret).before args0 about1 = true := code_word (m := ⟨1, 4⟩) (meth := k1m4) (c := k1c4) (by decide +kernel) rfl rfl rfl (by decide +kernel)
set_option maxRecDepth 65536 in
theorem w_c1 : (Jvm.Cond.code ({ cls := "com/example/divided_duty/dividedduty/policy/RangesOfSortedPinLaw", name := "gap", desc := "(I)J" } : Jvm.MethodName) method_2_code (1 : Nat) (Option.some Jvm.ClassFile.FieldType.long)).before args0 about1 = true := code_word (m := ⟨1, 1⟩) (meth := k1m1) (c := k1c1) (by decide +kernel) rfl rfl rfl (by decide +kernel)
set_option maxRecDepth 65536 in
theorem w_c2 : (Jvm.Cond.code ({ cls := "com/example/divided_duty/dividedduty/policy/RangesOfSortedPinLaw", name := "make", desc := "(I[J)[I" } : Jvm.MethodName) method_3_code (2 : Nat) (Option.some (Jvm.ClassFile.FieldType.array Jvm.ClassFile.FieldType.int))).before args0 about1 = true := code_word (m := ⟨1, 2⟩) (meth := k1m2) (c := k1c2) (by decide +kernel) rfl rfl rfl (by decide +kernel)
set_option maxRecDepth 65536 in
theorem w_c3 : (Jvm.Cond.code ({ cls := "com/example/divided_duty/dividedduty/policy/Ranges", name := "ofSorted", desc := "([I)Lcom/example/divided_duty/dividedduty/policy/Ranges;" } : Jvm.MethodName) prog_29_method_2_code (7 : Nat) (Option.some (Jvm.ClassFile.FieldType.object "com/example/divided_duty/dividedduty/policy/Ranges"))).before args0 about1 = true := code_word (m := ⟨2, 1⟩) (meth := k2m1) (c := k2c1) (by decide +kernel) rfl rfl rfl (by decide +kernel)
set_option maxRecDepth 65536 in
theorem w_c4 : (Jvm.Cond.code ({ cls := "java/util/Arrays", name := "copyOf", desc := "([II)[I" } : Jvm.MethodName) jdk_65_method_123_code (3 : Nat) (Option.some (Jvm.ClassFile.FieldType.array Jvm.ClassFile.FieldType.int))).before args0 about1 = true := code_word (m := ⟨3, 1⟩) (meth := k3m1) (c := k3c1) (by decide +kernel) rfl rfl rfl (by decide +kernel)
set_option maxRecDepth 65536 in
theorem w_c5 : (Jvm.Cond.code ({ cls := "com/example/divided_duty/dividedduty/policy/Ranges", name := "<init>", desc := "([I)V" } : Jvm.MethodName) prog_29_method_1_code (2 : Nat) (Option.none : Option Jvm.ClassFile.FieldType)).before args0 about1 = true := code_word (m := ⟨2, 0⟩) (meth := k2m0) (c := k2c0) (by decide +kernel) rfl rfl rfl (by decide +kernel)
set_option maxRecDepth 65536 in
theorem w_c6 : (Jvm.Cond.code ({ cls := "java/lang/Object", name := "<init>", desc := "()V" } : Jvm.MethodName) object_method_1_code (1 : Nat) (Option.none : Option Jvm.ClassFile.FieldType)).before args0 about1 = true := code_word (m := ⟨0, 0⟩) (meth := k0m0) (c := k0c0) (by decide +kernel) rfl rfl rfl (by decide +kernel)
set_option maxRecDepth 65536 in
theorem w_c7 : (Jvm.Cond.code ({ cls := "com/example/divided_duty/dividedduty/policy/Ranges", name := "size", desc := "()I" } : Jvm.MethodName) prog_29_method_10_code (1 : Nat) (Option.some Jvm.ClassFile.FieldType.int)).before args0 about1 = true := code_word (m := ⟨2, 2⟩) (meth := k2m2) (c := k2c2) (by decide +kernel) rfl rfl rfl (by decide +kernel)
set_option maxRecDepth 65536 in
theorem w_c8 : (Jvm.Cond.code ({ cls := "java/lang/Math", name := "min", desc := "(II)I" } : Jvm.MethodName) jdk_29_method_69_code (2 : Nat) (Option.some Jvm.ClassFile.FieldType.int)).before args0 about1 = true := code_word (m := ⟨5, 1⟩) (meth := k5m1) (c := k5c1) (by decide +kernel) rfl rfl rfl (by decide +kernel)
set_option maxRecDepth 65536 in
theorem w_c9 : (Jvm.Cond.code ({ cls := "com/example/divided_duty/dividedduty/policy/RangesOfSortedPinLaw", name := "check", desc := "(Lcom/example/divided_duty/dividedduty/policy/Ranges;II[J[I[Z)Z" } : Jvm.MethodName) method_4_code (7 : Nat) (Option.some Jvm.ClassFile.FieldType.boolean)).before args0 about1 = true := code_word (m := ⟨1, 3⟩) (meth := k1m3) (c := k1c3) (by decide +kernel) rfl rfl rfl (by decide +kernel)
set_option maxRecDepth 65536 in
theorem w_c10 : (Jvm.Cond.code ({ cls := "com/example/divided_duty/dividedduty/policy/Ranges", name := "first", desc := "(I)I" } : Jvm.MethodName) prog_29_method_11_code (2 : Nat) (Option.some Jvm.ClassFile.FieldType.int)).before args0 about1 = true := code_word (m := ⟨2, 3⟩) (meth := k2m3) (c := k2c3) (by decide +kernel) rfl rfl rfl (by decide +kernel)
set_option maxRecDepth 65536 in
theorem w_c11 : (Jvm.Cond.code ({ cls := "com/example/divided_duty/dividedduty/policy/Ranges", name := "end", desc := "(I)I" } : Jvm.MethodName) prog_29_method_12_code (2 : Nat) (Option.some Jvm.ClassFile.FieldType.int)).before args0 about1 = true := code_word (m := ⟨2, 4⟩) (meth := k2m4) (c := k2c4) (by decide +kernel) rfl rfl rfl (by decide +kernel)
def codes1 : List Jvm.Cond := [Jvm.Cond.code x code maxLocals ret, Jvm.Cond.code ({ cls := "com/example/divided_duty/dividedduty/policy/RangesOfSortedPinLaw", name := "gap", desc := "(I)J" } : Jvm.MethodName) method_2_code (1 : Nat) (Option.some Jvm.ClassFile.FieldType.long), Jvm.Cond.code ({ cls := "com/example/divided_duty/dividedduty/policy/RangesOfSortedPinLaw", name := "make", desc := "(I[J)[I" } : Jvm.MethodName) method_3_code (2 : Nat) (Option.some (Jvm.ClassFile.FieldType.array Jvm.ClassFile.FieldType.int)), Jvm.Cond.code ({ cls := "com/example/divided_duty/dividedduty/policy/Ranges", name := "ofSorted", desc := "([I)Lcom/example/divided_duty/dividedduty/policy/Ranges;" } : Jvm.MethodName) prog_29_method_2_code (7 : Nat) (Option.some (Jvm.ClassFile.FieldType.object "com/example/divided_duty/dividedduty/policy/Ranges")), Jvm.Cond.code ({ cls := "java/util/Arrays", name := "copyOf", desc := "([II)[I" } : Jvm.MethodName) jdk_65_method_123_code (3 : Nat) (Option.some (Jvm.ClassFile.FieldType.array Jvm.ClassFile.FieldType.int)), Jvm.Cond.code ({ cls := "com/example/divided_duty/dividedduty/policy/Ranges", name := "<init>", desc := "([I)V" } : Jvm.MethodName) prog_29_method_1_code (2 : Nat) (Option.none : Option Jvm.ClassFile.FieldType), Jvm.Cond.code ({ cls := "java/lang/Object", name := "<init>", desc := "()V" } : Jvm.MethodName) object_method_1_code (1 : Nat) (Option.none : Option Jvm.ClassFile.FieldType), Jvm.Cond.code ({ cls := "com/example/divided_duty/dividedduty/policy/Ranges", name := "size", desc := "()I" } : Jvm.MethodName) prog_29_method_10_code (1 : Nat) (Option.some Jvm.ClassFile.FieldType.int), Jvm.Cond.code ({ cls := "java/lang/Math", name := "min", desc := "(II)I" } : Jvm.MethodName) jdk_29_method_69_code (2 : Nat) (Option.some Jvm.ClassFile.FieldType.int), Jvm.Cond.code ({ cls := "com/example/divided_duty/dividedduty/policy/RangesOfSortedPinLaw", name := "check", desc := "(Lcom/example/divided_duty/dividedduty/policy/Ranges;II[J[I[Z)Z" } : Jvm.MethodName) method_4_code (7 : Nat) (Option.some Jvm.ClassFile.FieldType.boolean), Jvm.Cond.code ({ cls := "com/example/divided_duty/dividedduty/policy/Ranges", name := "first", desc := "(I)I" } : Jvm.MethodName) prog_29_method_11_code (2 : Nat) (Option.some Jvm.ClassFile.FieldType.int), Jvm.Cond.code ({ cls := "com/example/divided_duty/dividedduty/policy/Ranges", name := "end", desc := "(I)I" } : Jvm.MethodName) prog_29_method_12_code (2 : Nat) (Option.some Jvm.ClassFile.FieldType.int)]
set_option maxRecDepth 65536 in
theorem codes_eq : words1.filter isCode = codes1 := rfl
theorem w_codes : ∀ c ∈ words1.filter isCode, c.before args0 about1 = true := by
  rw [codes_eq]
  intro c hc
  simp only [codes1, List.mem_cons, List.not_mem_nil, or_false] at hc
  rcases hc with rfl | rfl | rfl | rfl | rfl | rfl | rfl | rfl | rfl | rfl | rfl | rfl
  · exact w_c0
  · exact w_c1
  · exact w_c2
  · exact w_c3
  · exact w_c4
  · exact w_c5
  · exact w_c6
  · exact w_c7
  · exact w_c8
  · exact w_c9
  · exact w_c10
  · exact w_c11
set_option maxRecDepth 65536 in
theorem w_t1 : (words1.take 24).all (fun c => isCode c || c.before args0 about1) = true := by decide +kernel
set_option maxRecDepth 65536 in
theorem w_t2 : ((words1.drop 24).take 24).all (fun c => isCode c || c.before args0 about1) = true := by decide +kernel
set_option maxRecDepth 65536 in
theorem w_t3 : ((words1.drop 24).drop 24).all (fun c => isCode c || c.before args0 about1) = true := by decide +kernel
theorem w_tables : (allAtoms (Jvm.Cond.code x code maxLocals ret :: tables_1)).before args0 about1 = true := by
  rw [allAtoms_all]
  show words1.all (fun c => c.before args0 about1) = true
  refine all_split ?_ w_codes
  rw [← List.take_append_drop 24 words1, List.all_append, w_t1, ← List.take_append_drop 24 (words1.drop 24), List.all_append, w_t2, w_t3]
  rfl
set_option maxRecDepth 65536 in
theorem w_case : (Jvm.Cond.and given_1 narrow_1).before args0 about1 = true := by decide +kernel
theorem w_applies : (headSpec (Jvm.Cond.code x code maxLocals ret :: tables_1) room_1).applies x e0.platform about1 = true :=
  (Spec.applies_iff w_frames).mpr ⟨w_running, w_runnable, w_alone, w_named, w_hears, w_ripe, w_room, w_tables⟩
theorem atStart : AtStart classFile x code maxLocals ret World_1 tables_1 room_1 Calls_1 rest_1 Pre_1 launch0 p0 e0 about1 theMethod args0 below0 :=
  ⟨lists_1, trivial, launch0.admits_env _ _ _, launch0.least_env, fairChoices_fair.cas, fairChoices_fair.clock, w_frames, w_args, w_heap, w_applies, trivial, trivial, w_case⟩
end start1
theorem witness_1 : WitnessClaimed_1 := ⟨start1.p0, start1.e0, start1.about1, start1.theMethod, start1.args0, start1.below0, start1.atStart⟩
end Jvm.Pilot.@@N@@
