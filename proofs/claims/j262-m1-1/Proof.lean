import JvmDerived
import JvmDerived.Pilot.@@N@@Statement
import JvmDerived.Pilot.@@N@@Code
set_option linter.unusedVariables false
set_option linter.unusedSimpArgs false
namespace Jvm.Pilot.@@N@@
open Jvm Jvm.ClassFile Sem Op Lib Jvm.Free Jvm.Stand Jvm.LawKit Jvm.RoadKit Bundle Jvm.Pilot.@@N@@.Jvm.D
section OwnKit
variable {p : Program} {l : Launch} {e : Env} {R : Room} {s : State} {m : MethodId} {args : Array Value} {below : List Frame} {meth : Method} {c : Code} {T : State} {cells slots cells' slots' : Nat} {Z : State} {a0 : Array Value} {h h' : Heap} {n0 : Nat} {Q : Option Value → Heap → Prop} {own nm : String} {bytes : ByteArray} {maxL : Nat} {ret : Option FieldType} {pc pc' pt : Nat} {Ls : Array Slot} {stk : List Value}

/-- what stays true all through a body's walk -/
def Ctx (p : Program) (s : State) (m : MethodId) (meth : Method) (c : Code) (Z : State) (own nm : String) (bytes : ByteArray) (maxL : Nat) (ret : Option FieldType) : Prop :=
  (p.tables.exec = Jvm.exec ∧ Z.Warmed39 s.vm) ∧ (c.code = bytes ∧ c.maxLocals = maxL) ∧ (s.vm.findClass own = some m.cls ∧ meth.name = nm) ∧ (meth.sig.returnType = ret ∧ meth.locks = false)
theorem Ctx.hx (K : Ctx p s m meth c Z own nm bytes maxL ret) : p.tables.exec = Jvm.exec := K.1.1
theorem Ctx.hZ (K : Ctx p s m meth c Z own nm bytes maxL ret) : Z.Warmed39 s.vm := K.1.2
theorem Ctx.by' (K : Ctx p s m meth c Z own nm bytes maxL ret) : c.code = bytes := K.2.1.1
theorem Ctx.ml (K : Ctx p s m meth c Z own nm bytes maxL ret) : c.maxLocals = maxL := K.2.1.2
theorem Ctx.own' (K : Ctx p s m meth c Z own nm bytes maxL ret) : s.vm.findClass own = some m.cls := K.2.2.1.1
theorem Ctx.nm' (K : Ctx p s m meth c Z own nm bytes maxL ret) : meth.name = nm := K.2.2.1.2
theorem Ctx.ret' (K : Ctx p s m meth c Z own nm bytes maxL ret) : meth.sig.returnType = ret := K.2.2.2.1
theorem Ctx.locks (K : Ctx p s m meth c Z own nm bytes maxL ret) : meth.locks = false := K.2.2.2.2

/-- where the walk stands; what it has written lies at or above n0 -/
def St (p : Program) (l : Launch) (e : Env) (R : Room) (s : State) (m : MethodId) (args : Array Value) (below : List Frame) (meth : Method) (c : Code) (n0 : Nat) (T : State) (cells slots : Nat) : Prop :=
  ∃ locs, Stand p l e R s m args below meth c T locs cells slots ∧ Fr n0 locs
theorem St.mono (X : St p l e R s m args below meth c n0 T cells slots) (hc : cells ≤ cells') (hs : slots ≤ slots') : St p l e R s m args below meth c n0 T cells' slots' := by
  obtain ⟨locs, X, N⟩ := X
  exact ⟨locs, { X with same := X.same.mono hc hs }, N⟩

/-- from the state st the body returns, and what it leaves is as Q says -/
def Go (p : Program) (e : Env) (below : List Frame) (s : State) (R : Room) (n0 : Nat) (Q : Option Value → Heap → Prop) (st : State) : Prop :=
  ∃ s₂ o, Steps p.tables e below st s₂ ∧ s₂.status = .running ∧ Ended s₂ below o ∧ ∃ v L, o = .returned v ∧ (Q v s₂.heap ∧ Fr n0 L) ∧ FrameEnd s o s₂ L R.cells R.slots
theorem go_by {st st' : State} (h : ∀ t, Steps p.tables e below st' t → Steps p.tables e below st t) (k : Go p e below s R n0 Q st') : Go p e below s R n0 Q st := by
  obtain ⟨s₂, o, h1, h2⟩ := k
  exact ⟨s₂, o, h _ h1, h2⟩
theorem own_cut {α : Sort _} {P : α → Prop} {S : α → State} {st : State} (h1 : (∀ b, P b → Go p e below s R n0 Q (S b)) → Go p e below s R n0 Q st) (h2 : ∀ b, P b → Go p e below s R n0 Q (S b)) : Go p e below s R n0 Q st := h1 h2
theorem go_mono {Q' : Option Value → Heap → Prop} {st : State} (k : Go p e below s R n0 Q st) (h : ∀ v u, Q v u → Q' v u) : Go p e below s R n0 Q' st := by
  obtain ⟨s₂, o, h1, h2, h3, v, L, h4, h5, h6⟩ := k
  exact ⟨s₂, o, h1, h2, h3, v, L, h4, ⟨h _ _ h5.1, h5.2⟩, h6⟩

/-- a body's contract at the arguments as' and the heap h0 -/
def Con (l : Launch) (Z : State) (n0 : Nat) (y : MethodName) (bytes : ByteArray) (maxL : Nat) (ret : Option FieldType) (rm : Room) (as' : Array Value) (h0 : Heap) (Q : Option Value → Heap → Prop) : Prop :=
  ∀ ws : List Jvm.Cond, MetFree l y (head1 (Jvm.Cond.code y bytes maxL ret :: ws) rm) (fun a U => a = as' ∧ Z.Warmed39 U.vm ∧ U.heap = h0) (fun _ _ _ _ _ => True) (fun _ U o U' => ∃ v L, o = .returned v ∧ (Q v U'.heap ∧ Fr n0 L) ∧ FrameEnd U o U' L rm.cells rm.slots)
theorem con_of {y : MethodName} {rm : Room} {as' : Array Value} {h0 : Heap} (hx : plainFor y = true)
    (body : ∀ p e s m below meth c T, Ctx p s m meth c Z y.cls y.name bytes maxL ret → St p l e rm s m as' below meth c n0 T 0 0 → T.heap = h0 → Go p e below s rm n0 Q (T.setTop (entryFrame m as' maxL))) :
    Con l Z n0 y bytes maxL ret rm as' h0 Q := by
  intro ws
  refine MetFree.of_bodySF hx hisR ?_
  intro p e s m args below meth c s₁ Bd hml0 hP hK
  obtain ⟨hargs, hZ, hh⟩ := hP
  have X0 := Stand.of_body Bd
  have hnm := (name_of_methodNamed Bd.named Bd.method).1
  rw [hargs] at X0 ⊢
  obtain ⟨s₂, o, h1, h2, h3, v, L, h4, h5, h6⟩ := body p e s m below meth c s₁ ⟨⟨Bd.exec, hZ⟩, ⟨Bd.bytes, hml0⟩, ⟨findClass_of_methodNamed Bd.named, hnm⟩, ⟨Bd.returns, BodyLoose.notSynchronized Bd⟩⟩ ⟨[], X0, Fr.nil n0⟩ (by rw [← hh, Bd.state]; rfl)
  exact ⟨s₂, o, h1, h2, h3, v, L, h4, h5, h6⟩
theorem con_mono {y : MethodName} {rm : Room} {as' : Array Value} {h0 : Heap} {Q' : Option Value → Heap → Prop} (C : Con l Z n0 y bytes maxL ret rm as' h0 Q) (h : ∀ v u, Q v u → Q' v u) : Con l Z n0 y bytes maxL ret rm as' h0 Q' := by
  intro ws p e ha hc hk s m args below hf happ hP hK
  obtain ⟨n, o, h1, h2, h3, v, L, h4, h5, h6⟩ := C ws p e ha hc hk s m args below hf happ hP hK
  exact ⟨n, o, h1, h2, h3, v, L, h4, ⟨h _ _ h5.1, h5.2⟩, h6⟩
theorem go_entry {as' : Array Value} {g : JFrame} (q : entryFrame m as' maxL = g) (k : Go p e below s R n0 Q (T.setTop g)) : Go p e below s R n0 Q (T.setTop (entryFrame m as' maxL)) := by rw [q]; exact k
theorem wd (hw : ∀ d ∈ tables_1, d.before a0 Z = true) (i : Nat) {d : Jvm.Cond} (q : tables_1[i]? = some d) : d.before a0 Z = true := hw d (List.mem_of_getElem? q)

theorem go_iloadN (K : Ctx p s m meth c Z own nm bytes maxL ret) (X : St p l e R s m args below meth c n0 T cells slots) {k0 : Fin 4} {v : Int32} (hd : decode bytes pc = .ok (.iload_n k0, 1)) (hl : Ls[k0.val]? = some (.val (.int v))) (hp : pc + 1 = pc')
    (k : Go p e below s R n0 Q (T.setTop (mkF m pc' Ls (.int v :: stk)))) : Go p e below s R n0 Q (T.setTop (mkF m pc Ls (stk))) := by
  subst hp; obtain ⟨locs, X, N⟩ := X
  exact go_by (fun t k => XS.iloadN X.here K.hx rfl (hb K.by' hd) hl k) k

theorem go_iload (K : Ctx p s m meth c Z own nm bytes maxL ret) (X : St p l e R s m args below meth c n0 T cells slots) {k0 : Nat} {v : Int32} (hd : decode bytes pc = .ok (.iload k0, 2)) (hl : Ls[k0]? = some (.val (.int v))) (hp : pc + 2 = pc')
    (k : Go p e below s R n0 Q (T.setTop (mkF m pc' Ls (.int v :: stk)))) : Go p e below s R n0 Q (T.setTop (mkF m pc Ls (stk))) := by
  subst hp; obtain ⟨locs, X, N⟩ := X
  exact go_by (fun t k => XS.iload X.here K.hx rfl (hb K.by' hd) hl k) k

theorem go_lloadN (K : Ctx p s m meth c Z own nm bytes maxL ret) (X : St p l e R s m args below meth c n0 T cells slots) {k0 : Fin 4} {v : Int64} (hd : decode bytes pc = .ok (.lload_n k0, 1)) (hl : Ls[k0.val]? = some (.val (.long v))) (hp : pc + 1 = pc')
    (k : Go p e below s R n0 Q (T.setTop (mkF m pc' Ls (.long v :: stk)))) : Go p e below s R n0 Q (T.setTop (mkF m pc Ls (stk))) := by
  subst hp; obtain ⟨locs, X, N⟩ := X
  exact go_by (fun t k => XS.lloadN X.here K.hx rfl (hb K.by' hd) hl k) k

theorem go_lload (K : Ctx p s m meth c Z own nm bytes maxL ret) (X : St p l e R s m args below meth c n0 T cells slots) {k0 : Nat} {v : Int64} (hd : decode bytes pc = .ok (.lload k0, 2)) (hl : Ls[k0]? = some (.val (.long v))) (hp : pc + 2 = pc')
    (k : Go p e below s R n0 Q (T.setTop (mkF m pc' Ls (.long v :: stk)))) : Go p e below s R n0 Q (T.setTop (mkF m pc Ls (stk))) := by
  subst hp; obtain ⟨locs, X, N⟩ := X
  exact go_by (fun t k => XS.lload X.here K.hx rfl (hb K.by' hd) hl k) k

theorem go_aloadN (K : Ctx p s m meth c Z own nm bytes maxL ret) (X : St p l e R s m args below meth c n0 T cells slots) {k0 : Fin 4} {v : Value} (hd : decode bytes pc = .ok (.aload_n k0, 1)) (hl : Ls[k0.val]? = some (.val v)) (hv : v.isRef = true) (hp : pc + 1 = pc')
    (k : Go p e below s R n0 Q (T.setTop (mkF m pc' Ls (v :: stk)))) : Go p e below s R n0 Q (T.setTop (mkF m pc Ls (stk))) := by
  subst hp; obtain ⟨locs, X, N⟩ := X
  exact go_by (fun t k => XS.aloadN X.here K.hx rfl (hb K.by' hd) hl hv k) k

theorem go_aload (K : Ctx p s m meth c Z own nm bytes maxL ret) (X : St p l e R s m args below meth c n0 T cells slots) {k0 : Nat} {v : Value} (hd : decode bytes pc = .ok (.aload k0, 2)) (hl : Ls[k0]? = some (.val v)) (hv : v.isRef = true) (hp : pc + 2 = pc')
    (k : Go p e below s R n0 Q (T.setTop (mkF m pc' Ls (v :: stk)))) : Go p e below s R n0 Q (T.setTop (mkF m pc Ls (stk))) := by
  subst hp; obtain ⟨locs, X, N⟩ := X
  exact go_by (fun t k => XS.aload X.here K.hx rfl (hb K.by' hd) hl hv k) k

theorem go_iconst (K : Ctx p s m meth c Z own nm bytes maxL ret) (X : St p l e R s m args below meth c n0 T cells slots) {i : Int} (v : Int32) (hd : decode bytes pc = .ok (.iconst i, 1)) (hv : Int32.ofInt i = v) (hp : pc + 1 = pc')
    (k : Go p e below s R n0 Q (T.setTop (mkF m pc' Ls (.int v :: stk)))) : Go p e below s R n0 Q (T.setTop (mkF m pc Ls (stk))) := by
  subst hp; obtain ⟨locs, X, N⟩ := X
  exact go_by (fun t k => XT.iconstV X.here K.hx rfl v (hb K.by' hd) hv k) k

theorem go_bipush (K : Ctx p s m meth c Z own nm bytes maxL ret) (X : St p l e R s m args below meth c n0 T cells slots) {i : Int} (v : Int32) (hd : decode bytes pc = .ok (.bipush i, 2)) (hv : (Int8.ofInt i).toInt32 = v) (hp : pc + 2 = pc')
    (k : Go p e below s R n0 Q (T.setTop (mkF m pc' Ls (.int v :: stk)))) : Go p e below s R n0 Q (T.setTop (mkF m pc Ls (stk))) := by
  subst hp; obtain ⟨locs, X, N⟩ := X
  exact go_by (fun t k => XT.bipushV X.here K.hx rfl v (hb K.by' hd) hv k) k

theorem go_sipush (K : Ctx p s m meth c Z own nm bytes maxL ret) (X : St p l e R s m args below meth c n0 T cells slots) {i : Int} (v : Int32) (hd : decode bytes pc = .ok (.sipush i, 3)) (hv : (Int16.ofInt i).toInt32 = v) (hp : pc + 3 = pc')
    (k : Go p e below s R n0 Q (T.setTop (mkF m pc' Ls (.int v :: stk)))) : Go p e below s R n0 Q (T.setTop (mkF m pc Ls (stk))) := by
  subst hp; obtain ⟨locs, X, N⟩ := X
  exact go_by (fun t k => XT.sipushV X.here K.hx rfl v (hb K.by' hd) hv k) k

theorem go_lconst (K : Ctx p s m meth c Z own nm bytes maxL ret) (X : St p l e R s m args below meth c n0 T cells slots) {i : Fin 2} (v : Int64) (hd : decode bytes pc = .ok (.lconst i, 1)) (hv : Int64.ofNat i = v) (hp : pc + 1 = pc')
    (k : Go p e below s R n0 Q (T.setTop (mkF m pc' Ls (.long v :: stk)))) : Go p e below s R n0 Q (T.setTop (mkF m pc Ls (stk))) := by
  subst hp; obtain ⟨locs, X, N⟩ := X
  exact go_by (fun t k => XT.lconstV X.here K.hx rfl v (hb K.by' hd) hv k) k

theorem go_null (K : Ctx p s m meth c Z own nm bytes maxL ret) (X : St p l e R s m args below meth c n0 T cells slots)  (hd : decode bytes pc = .ok (.aconst_null, 1)) (hp : pc + 1 = pc')
    (k : Go p e below s R n0 Q (T.setTop (mkF m pc' Ls (.null :: stk)))) : Go p e below s R n0 Q (T.setTop (mkF m pc Ls (stk))) := by
  subst hp; obtain ⟨locs, X, N⟩ := X
  exact go_by (fun t k => XS.aconstNull X.here K.hx rfl (hb K.by' hd) k) k

theorem go_ldcI (K : Ctx p s m meth c Z own nm bytes maxL ret) (X : St p l e R s m args below meth c n0 T cells slots) {index : Nat} {v : Int32} (w : (Cond.constant own index v).before a0 Z = true) (hd : decode bytes pc = .ok (.ldc index, 2)) (hp : pc + 2 = pc')
    (k : Go p e below s R n0 Q (T.setTop (mkF m pc' Ls (.int v :: stk)))) : Go p e below s R n0 Q (T.setTop (mkF m pc Ls (stk))) := by
  subst hp; obtain ⟨locs, X, N⟩ := X
  exact go_by (fun t k => X.ldcI K.hx K.own' (mvT K.hZ w) rfl (hb K.by' hd) k) k

theorem go_ldcWI (K : Ctx p s m meth c Z own nm bytes maxL ret) (X : St p l e R s m args below meth c n0 T cells slots) {index : Nat} {v : Int32} (w : (Cond.constant own index v).before a0 Z = true) (hd : decode bytes pc = .ok (.ldc_w index, 3)) (hp : pc + 3 = pc')
    (k : Go p e below s R n0 Q (T.setTop (mkF m pc' Ls (.int v :: stk)))) : Go p e below s R n0 Q (T.setTop (mkF m pc Ls (stk))) := by
  subst hp; obtain ⟨locs, X, N⟩ := X
  exact go_by (fun t k => X.ldcWI K.hx K.own' (mvT K.hZ w) rfl (hb K.by' hd) k) k

theorem go_ldc2J (K : Ctx p s m meth c Z own nm bytes maxL ret) (X : St p l e R s m args below meth c n0 T cells slots) {index : Nat} {v : Int64} (w : (Cond.constantLong own index v).before a0 Z = true) (hd : decode bytes pc = .ok (.ldc2_w index, 3)) (hp : pc + 3 = pc')
    (k : Go p e below s R n0 Q (T.setTop (mkF m pc' Ls (.long v :: stk)))) : Go p e below s R n0 Q (T.setTop (mkF m pc Ls (stk))) := by
  subst hp; obtain ⟨locs, X, N⟩ := X
  exact go_by (fun t k => X.ldc2J K.hx K.own' (mvT K.hZ w) rfl (hb K.by' hd) k) k

theorem go_iadd (K : Ctx p s m meth c Z own nm bytes maxL ret) (X : St p l e R s m args below meth c n0 T cells slots) {x y : Int32} (hd : decode bytes pc = .ok (.iadd, 1)) (hp : pc + 1 = pc')
    (k : Go p e below s R n0 Q (T.setTop (mkF m pc' Ls (.int (x + y) :: stk)))) : Go p e below s R n0 Q (T.setTop (mkF m pc Ls (.int y :: .int x :: stk))) := by
  subst hp; obtain ⟨locs, X, N⟩ := X
  exact go_by (fun t k => XS.iadd X.here K.hx rfl (hb K.by' hd) rfl k) k

theorem go_isub (K : Ctx p s m meth c Z own nm bytes maxL ret) (X : St p l e R s m args below meth c n0 T cells slots) {x y : Int32} (hd : decode bytes pc = .ok (.isub, 1)) (hp : pc + 1 = pc')
    (k : Go p e below s R n0 Q (T.setTop (mkF m pc' Ls (.int (x - y) :: stk)))) : Go p e below s R n0 Q (T.setTop (mkF m pc Ls (.int y :: .int x :: stk))) := by
  subst hp; obtain ⟨locs, X, N⟩ := X
  exact go_by (fun t k => XS.isub X.here K.hx rfl (hb K.by' hd) rfl k) k

theorem go_imul (K : Ctx p s m meth c Z own nm bytes maxL ret) (X : St p l e R s m args below meth c n0 T cells slots) {x y : Int32} (hd : decode bytes pc = .ok (.imul, 1)) (hp : pc + 1 = pc')
    (k : Go p e below s R n0 Q (T.setTop (mkF m pc' Ls (.int (x * y) :: stk)))) : Go p e below s R n0 Q (T.setTop (mkF m pc Ls (.int y :: .int x :: stk))) := by
  subst hp; obtain ⟨locs, X, N⟩ := X
  exact go_by (fun t k => XS.imul X.here K.hx rfl (hb K.by' hd) rfl k) k

theorem go_iand (K : Ctx p s m meth c Z own nm bytes maxL ret) (X : St p l e R s m args below meth c n0 T cells slots) {x y : Int32} (hd : decode bytes pc = .ok (.iand, 1)) (hp : pc + 1 = pc')
    (k : Go p e below s R n0 Q (T.setTop (mkF m pc' Ls (.int (x &&& y) :: stk)))) : Go p e below s R n0 Q (T.setTop (mkF m pc Ls (.int y :: .int x :: stk))) := by
  subst hp; obtain ⟨locs, X, N⟩ := X
  exact go_by (fun t k => XS.iand X.here K.hx rfl (hb K.by' hd) rfl k) k

theorem go_ior (K : Ctx p s m meth c Z own nm bytes maxL ret) (X : St p l e R s m args below meth c n0 T cells slots) {x y : Int32} (hd : decode bytes pc = .ok (.ior, 1)) (hp : pc + 1 = pc')
    (k : Go p e below s R n0 Q (T.setTop (mkF m pc' Ls (.int (x ||| y) :: stk)))) : Go p e below s R n0 Q (T.setTop (mkF m pc Ls (.int y :: .int x :: stk))) := by
  subst hp; obtain ⟨locs, X, N⟩ := X
  exact go_by (fun t k => XS.ior X.here K.hx rfl (hb K.by' hd) rfl k) k

theorem go_ixor (K : Ctx p s m meth c Z own nm bytes maxL ret) (X : St p l e R s m args below meth c n0 T cells slots) {x y : Int32} (hd : decode bytes pc = .ok (.ixor, 1)) (hp : pc + 1 = pc')
    (k : Go p e below s R n0 Q (T.setTop (mkF m pc' Ls (.int (x ^^^ y) :: stk)))) : Go p e below s R n0 Q (T.setTop (mkF m pc Ls (.int y :: .int x :: stk))) := by
  subst hp; obtain ⟨locs, X, N⟩ := X
  exact go_by (fun t k => XS.ixor X.here K.hx rfl (hb K.by' hd) rfl k) k

theorem go_ishl (K : Ctx p s m meth c Z own nm bytes maxL ret) (X : St p l e R s m args below meth c n0 T cells slots) {x y : Int32} (hd : decode bytes pc = .ok (.ishl, 1)) (hp : pc + 1 = pc')
    (k : Go p e below s R n0 Q (T.setTop (mkF m pc' Ls (.int (x <<< (y &&& 31)) :: stk)))) : Go p e below s R n0 Q (T.setTop (mkF m pc Ls (.int y :: .int x :: stk))) := by
  subst hp; obtain ⟨locs, X, N⟩ := X
  exact go_by (fun t k => XS.ishl X.here K.hx rfl (hb K.by' hd) rfl k) k

theorem go_ishr (K : Ctx p s m meth c Z own nm bytes maxL ret) (X : St p l e R s m args below meth c n0 T cells slots) {x y : Int32} (hd : decode bytes pc = .ok (.ishr, 1)) (hp : pc + 1 = pc')
    (k : Go p e below s R n0 Q (T.setTop (mkF m pc' Ls (.int (x >>> (y &&& 31)) :: stk)))) : Go p e below s R n0 Q (T.setTop (mkF m pc Ls (.int y :: .int x :: stk))) := by
  subst hp; obtain ⟨locs, X, N⟩ := X
  exact go_by (fun t k => XS.ishr X.here K.hx rfl (hb K.by' hd) rfl k) k

theorem go_iushr (K : Ctx p s m meth c Z own nm bytes maxL ret) (X : St p l e R s m args below meth c n0 T cells slots) {x y : Int32} (hd : decode bytes pc = .ok (.iushr, 1)) (hp : pc + 1 = pc')
    (k : Go p e below s R n0 Q (T.setTop (mkF m pc' Ls (.int ((x.toUInt32 >>> (y &&& 31).toUInt32).toInt32) :: stk)))) : Go p e below s R n0 Q (T.setTop (mkF m pc Ls (.int y :: .int x :: stk))) := by
  subst hp; obtain ⟨locs, X, N⟩ := X
  exact go_by (fun t k => XS.iushr X.here K.hx rfl (hb K.by' hd) rfl k) k

theorem go_ladd (K : Ctx p s m meth c Z own nm bytes maxL ret) (X : St p l e R s m args below meth c n0 T cells slots) {x y : Int64} (hd : decode bytes pc = .ok (.ladd, 1)) (hp : pc + 1 = pc')
    (k : Go p e below s R n0 Q (T.setTop (mkF m pc' Ls (.long (x + y) :: stk)))) : Go p e below s R n0 Q (T.setTop (mkF m pc Ls (.long y :: .long x :: stk))) := by
  subst hp; obtain ⟨locs, X, N⟩ := X
  exact go_by (fun t k => XS.ladd X.here K.hx rfl (hb K.by' hd) rfl k) k

theorem go_lsub (K : Ctx p s m meth c Z own nm bytes maxL ret) (X : St p l e R s m args below meth c n0 T cells slots) {x y : Int64} (hd : decode bytes pc = .ok (.lsub, 1)) (hp : pc + 1 = pc')
    (k : Go p e below s R n0 Q (T.setTop (mkF m pc' Ls (.long (x - y) :: stk)))) : Go p e below s R n0 Q (T.setTop (mkF m pc Ls (.long y :: .long x :: stk))) := by
  subst hp; obtain ⟨locs, X, N⟩ := X
  exact go_by (fun t k => XS.lsub X.here K.hx rfl (hb K.by' hd) rfl k) k

theorem go_lmul (K : Ctx p s m meth c Z own nm bytes maxL ret) (X : St p l e R s m args below meth c n0 T cells slots) {x y : Int64} (hd : decode bytes pc = .ok (.lmul, 1)) (hp : pc + 1 = pc')
    (k : Go p e below s R n0 Q (T.setTop (mkF m pc' Ls (.long (x * y) :: stk)))) : Go p e below s R n0 Q (T.setTop (mkF m pc Ls (.long y :: .long x :: stk))) := by
  subst hp; obtain ⟨locs, X, N⟩ := X
  exact go_by (fun t k => XS.lmul X.here K.hx rfl (hb K.by' hd) rfl k) k

theorem go_land (K : Ctx p s m meth c Z own nm bytes maxL ret) (X : St p l e R s m args below meth c n0 T cells slots) {x y : Int64} (hd : decode bytes pc = .ok (.land, 1)) (hp : pc + 1 = pc')
    (k : Go p e below s R n0 Q (T.setTop (mkF m pc' Ls (.long (x &&& y) :: stk)))) : Go p e below s R n0 Q (T.setTop (mkF m pc Ls (.long y :: .long x :: stk))) := by
  subst hp; obtain ⟨locs, X, N⟩ := X
  exact go_by (fun t k => XS.land X.here K.hx rfl (hb K.by' hd) rfl k) k

theorem go_lor (K : Ctx p s m meth c Z own nm bytes maxL ret) (X : St p l e R s m args below meth c n0 T cells slots) {x y : Int64} (hd : decode bytes pc = .ok (.lor, 1)) (hp : pc + 1 = pc')
    (k : Go p e below s R n0 Q (T.setTop (mkF m pc' Ls (.long (x ||| y) :: stk)))) : Go p e below s R n0 Q (T.setTop (mkF m pc Ls (.long y :: .long x :: stk))) := by
  subst hp; obtain ⟨locs, X, N⟩ := X
  exact go_by (fun t k => XS.lor X.here K.hx rfl (hb K.by' hd) rfl k) k

theorem go_lxor (K : Ctx p s m meth c Z own nm bytes maxL ret) (X : St p l e R s m args below meth c n0 T cells slots) {x y : Int64} (hd : decode bytes pc = .ok (.lxor, 1)) (hp : pc + 1 = pc')
    (k : Go p e below s R n0 Q (T.setTop (mkF m pc' Ls (.long (x ^^^ y) :: stk)))) : Go p e below s R n0 Q (T.setTop (mkF m pc Ls (.long y :: .long x :: stk))) := by
  subst hp; obtain ⟨locs, X, N⟩ := X
  exact go_by (fun t k => XS.lxor X.here K.hx rfl (hb K.by' hd) rfl k) k

theorem go_lshl (K : Ctx p s m meth c Z own nm bytes maxL ret) (X : St p l e R s m args below meth c n0 T cells slots) {x : Int64} {y : Int32} (hd : decode bytes pc = .ok (.lshl, 1)) (hp : pc + 1 = pc')
    (k : Go p e below s R n0 Q (T.setTop (mkF m pc' Ls (.long (x <<< (y &&& 0x3f).toInt64) :: stk)))) : Go p e below s R n0 Q (T.setTop (mkF m pc Ls (.int y :: .long x :: stk))) := by
  subst hp; obtain ⟨locs, X, N⟩ := X
  exact go_by (fun t k => XS.lshl X.here K.hx rfl (hb K.by' hd) rfl k) k

theorem go_lshr (K : Ctx p s m meth c Z own nm bytes maxL ret) (X : St p l e R s m args below meth c n0 T cells slots) {x : Int64} {y : Int32} (hd : decode bytes pc = .ok (.lshr, 1)) (hp : pc + 1 = pc')
    (k : Go p e below s R n0 Q (T.setTop (mkF m pc' Ls (.long (x >>> (y &&& 0x3f).toInt64) :: stk)))) : Go p e below s R n0 Q (T.setTop (mkF m pc Ls (.int y :: .long x :: stk))) := by
  subst hp; obtain ⟨locs, X, N⟩ := X
  exact go_by (fun t k => XS.lshr X.here K.hx rfl (hb K.by' hd) rfl k) k

theorem go_lushr (K : Ctx p s m meth c Z own nm bytes maxL ret) (X : St p l e R s m args below meth c n0 T cells slots) {x : Int64} {y : Int32} (hd : decode bytes pc = .ok (.lushr, 1)) (hp : pc + 1 = pc')
    (k : Go p e below s R n0 Q (T.setTop (mkF m pc' Ls (.long ((x.toUInt64 >>> (y &&& 0x3f).toInt64.toUInt64).toInt64) :: stk)))) : Go p e below s R n0 Q (T.setTop (mkF m pc Ls (.int y :: .long x :: stk))) := by
  subst hp; obtain ⟨locs, X, N⟩ := X
  exact go_by (fun t k => XS.lushr X.here K.hx rfl (hb K.by' hd) rfl k) k

theorem go_idiv (K : Ctx p s m meth c Z own nm bytes maxL ret) (X : St p l e R s m args below meth c n0 T cells slots) {x y : Int32} (hd : decode bytes pc = .ok (.idiv, 1)) (hy : y ≠ 0) (hp : pc + 1 = pc')
    (k : Go p e below s R n0 Q (T.setTop (mkF m pc' Ls (.int (x / y) :: stk)))) : Go p e below s R n0 Q (T.setTop (mkF m pc Ls (.int y :: .int x :: stk))) := by
  subst hp; obtain ⟨locs, X, N⟩ := X
  exact go_by (fun t k => XS.idiv X.here K.hx rfl (hb K.by' hd) rfl hy k) k

theorem go_irem (K : Ctx p s m meth c Z own nm bytes maxL ret) (X : St p l e R s m args below meth c n0 T cells slots) {x y : Int32} (hd : decode bytes pc = .ok (.irem, 1)) (hy : y ≠ 0) (hp : pc + 1 = pc')
    (k : Go p e below s R n0 Q (T.setTop (mkF m pc' Ls (.int (x % y) :: stk)))) : Go p e below s R n0 Q (T.setTop (mkF m pc Ls (.int y :: .int x :: stk))) := by
  subst hp; obtain ⟨locs, X, N⟩ := X
  exact go_by (fun t k => iremM X K.hx rfl (hb K.by' hd) rfl hy k) k

theorem go_ldiv (K : Ctx p s m meth c Z own nm bytes maxL ret) (X : St p l e R s m args below meth c n0 T cells slots) {x y : Int64} (hd : decode bytes pc = .ok (.ldiv, 1)) (hy : y ≠ 0) (hp : pc + 1 = pc')
    (k : Go p e below s R n0 Q (T.setTop (mkF m pc' Ls (.long (x / y) :: stk)))) : Go p e below s R n0 Q (T.setTop (mkF m pc Ls (.long y :: .long x :: stk))) := by
  subst hp; obtain ⟨locs, X, N⟩ := X
  exact go_by (fun t k => XS.ldiv X.here K.hx rfl (hb K.by' hd) rfl hy k) k

theorem go_lrem (K : Ctx p s m meth c Z own nm bytes maxL ret) (X : St p l e R s m args below meth c n0 T cells slots) {x y : Int64} (hd : decode bytes pc = .ok (.lrem, 1)) (hy : y ≠ 0) (hp : pc + 1 = pc')
    (k : Go p e below s R n0 Q (T.setTop (mkF m pc' Ls (.long (x - (x / y) * y) :: stk)))) : Go p e below s R n0 Q (T.setTop (mkF m pc Ls (.long y :: .long x :: stk))) := by
  subst hp; obtain ⟨locs, X, N⟩ := X
  exact go_by (fun t k => XS.lrem X.here K.hx rfl (hb K.by' hd) rfl hy k) k

theorem go_ineg (K : Ctx p s m meth c Z own nm bytes maxL ret) (X : St p l e R s m args below meth c n0 T cells slots) {x : Int32} (hd : decode bytes pc = .ok (.ineg, 1)) (hp : pc + 1 = pc')
    (k : Go p e below s R n0 Q (T.setTop (mkF m pc' Ls (.int (-x) :: stk)))) : Go p e below s R n0 Q (T.setTop (mkF m pc Ls (.int x :: stk))) := by
  subst hp; obtain ⟨locs, X, N⟩ := X
  exact go_by (fun t k => XS.ineg X.here K.hx rfl (hb K.by' hd) rfl k) k

theorem go_lneg (K : Ctx p s m meth c Z own nm bytes maxL ret) (X : St p l e R s m args below meth c n0 T cells slots) {x : Int64} (hd : decode bytes pc = .ok (.lneg, 1)) (hp : pc + 1 = pc')
    (k : Go p e below s R n0 Q (T.setTop (mkF m pc' Ls (.long (-x) :: stk)))) : Go p e below s R n0 Q (T.setTop (mkF m pc Ls (.long x :: stk))) := by
  subst hp; obtain ⟨locs, X, N⟩ := X
  exact go_by (fun t k => XS.lneg X.here K.hx rfl (hb K.by' hd) rfl k) k

theorem go_i2b (K : Ctx p s m meth c Z own nm bytes maxL ret) (X : St p l e R s m args below meth c n0 T cells slots) {x : Int32} (hd : decode bytes pc = .ok (.i2b, 1)) (hp : pc + 1 = pc')
    (k : Go p e below s R n0 Q (T.setTop (mkF m pc' Ls (.int (x.toInt8.toInt32) :: stk)))) : Go p e below s R n0 Q (T.setTop (mkF m pc Ls (.int x :: stk))) := by
  subst hp; obtain ⟨locs, X, N⟩ := X
  exact go_by (fun t k => XS.i2b X.here K.hx rfl (hb K.by' hd) rfl k) k

theorem go_i2c (K : Ctx p s m meth c Z own nm bytes maxL ret) (X : St p l e R s m args below meth c n0 T cells slots) {x : Int32} (hd : decode bytes pc = .ok (.i2c, 1)) (hp : pc + 1 = pc')
    (k : Go p e below s R n0 Q (T.setTop (mkF m pc' Ls (.int (x.toUInt32.toUInt16.toUInt32.toInt32) :: stk)))) : Go p e below s R n0 Q (T.setTop (mkF m pc Ls (.int x :: stk))) := by
  subst hp; obtain ⟨locs, X, N⟩ := X
  exact go_by (fun t k => XS.i2c X.here K.hx rfl (hb K.by' hd) rfl k) k

theorem go_i2s (K : Ctx p s m meth c Z own nm bytes maxL ret) (X : St p l e R s m args below meth c n0 T cells slots) {x : Int32} (hd : decode bytes pc = .ok (.i2s, 1)) (hp : pc + 1 = pc')
    (k : Go p e below s R n0 Q (T.setTop (mkF m pc' Ls (.int (x.toInt16.toInt32) :: stk)))) : Go p e below s R n0 Q (T.setTop (mkF m pc Ls (.int x :: stk))) := by
  subst hp; obtain ⟨locs, X, N⟩ := X
  exact go_by (fun t k => XS.i2s X.here K.hx rfl (hb K.by' hd) rfl k) k

theorem go_i2l (K : Ctx p s m meth c Z own nm bytes maxL ret) (X : St p l e R s m args below meth c n0 T cells slots) {x : Int32} (hd : decode bytes pc = .ok (.i2l, 1)) (hp : pc + 1 = pc')
    (k : Go p e below s R n0 Q (T.setTop (mkF m pc' Ls (.long x.toInt64 :: stk)))) : Go p e below s R n0 Q (T.setTop (mkF m pc Ls (.int x :: stk))) := by
  subst hp; obtain ⟨locs, X, N⟩ := X
  exact go_by (fun t k => XS.i2l X.here K.hx rfl (hb K.by' hd) rfl k) k

theorem go_l2i (K : Ctx p s m meth c Z own nm bytes maxL ret) (X : St p l e R s m args below meth c n0 T cells slots) {x : Int64} (hd : decode bytes pc = .ok (.l2i, 1)) (hp : pc + 1 = pc')
    (k : Go p e below s R n0 Q (T.setTop (mkF m pc' Ls (.int x.toInt32 :: stk)))) : Go p e below s R n0 Q (T.setTop (mkF m pc Ls (.long x :: stk))) := by
  subst hp; obtain ⟨locs, X, N⟩ := X
  exact go_by (fun t k => XS.l2i X.here K.hx rfl (hb K.by' hd) rfl k) k

theorem go_istoreN (K : Ctx p s m meth c Z own nm bytes maxL ret) (X : St p l e R s m args below meth c n0 T cells slots) {k0 : Fin 4} {v : Int32} (Ls' : Array Slot) (hd : decode bytes pc = .ok (.istore_n k0, 1)) (hl : storeLocals Ls k0.val (.int v) = some Ls') (hp : pc + 1 = pc')
    (k : Go p e below s R n0 Q (T.setTop (mkF m pc' Ls' (stk)))) : Go p e below s R n0 Q (T.setTop (mkF m pc Ls (.int v :: stk))) := by
  subst hp; obtain ⟨locs, X, N⟩ := X
  exact go_by (fun t k => XS.istoreN X.here K.hx rfl (hb K.by' hd) rfl hl k) k

theorem go_istore (K : Ctx p s m meth c Z own nm bytes maxL ret) (X : St p l e R s m args below meth c n0 T cells slots) {k0 : Nat} {v : Int32} (Ls' : Array Slot) (hd : decode bytes pc = .ok (.istore k0, 2)) (hl : storeLocals Ls k0 (.int v) = some Ls') (hp : pc + 2 = pc')
    (k : Go p e below s R n0 Q (T.setTop (mkF m pc' Ls' (stk)))) : Go p e below s R n0 Q (T.setTop (mkF m pc Ls (.int v :: stk))) := by
  subst hp; obtain ⟨locs, X, N⟩ := X
  exact go_by (fun t k => XS.istore X.here K.hx rfl (hb K.by' hd) rfl hl k) k

theorem go_lstoreN (K : Ctx p s m meth c Z own nm bytes maxL ret) (X : St p l e R s m args below meth c n0 T cells slots) {k0 : Fin 4} {v : Int64} (Ls' : Array Slot) (hd : decode bytes pc = .ok (.lstore_n k0, 1)) (hl : storeLocals Ls k0.val (.long v) = some Ls') (hp : pc + 1 = pc')
    (k : Go p e below s R n0 Q (T.setTop (mkF m pc' Ls' (stk)))) : Go p e below s R n0 Q (T.setTop (mkF m pc Ls (.long v :: stk))) := by
  subst hp; obtain ⟨locs, X, N⟩ := X
  exact go_by (fun t k => XS.lstoreN X.here K.hx rfl (hb K.by' hd) rfl hl k) k

theorem go_lstore (K : Ctx p s m meth c Z own nm bytes maxL ret) (X : St p l e R s m args below meth c n0 T cells slots) {k0 : Nat} {v : Int64} (Ls' : Array Slot) (hd : decode bytes pc = .ok (.lstore k0, 2)) (hl : storeLocals Ls k0 (.long v) = some Ls') (hp : pc + 2 = pc')
    (k : Go p e below s R n0 Q (T.setTop (mkF m pc' Ls' (stk)))) : Go p e below s R n0 Q (T.setTop (mkF m pc Ls (.long v :: stk))) := by
  subst hp; obtain ⟨locs, X, N⟩ := X
  exact go_by (fun t k => XS.lstore X.here K.hx rfl (hb K.by' hd) rfl hl k) k

theorem go_astoreN (K : Ctx p s m meth c Z own nm bytes maxL ret) (X : St p l e R s m args below meth c n0 T cells slots) {k0 : Fin 4} {v : Value} (Ls' : Array Slot) (hd : decode bytes pc = .ok (.astore_n k0, 1)) (hv : v.isRef = true) (hl : storeLocals Ls k0.val v = some Ls') (hp : pc + 1 = pc')
    (k : Go p e below s R n0 Q (T.setTop (mkF m pc' Ls' (stk)))) : Go p e below s R n0 Q (T.setTop (mkF m pc Ls (v :: stk))) := by
  subst hp; obtain ⟨locs, X, N⟩ := X
  exact go_by (fun t k => XS.astoreN X.here K.hx rfl (hb K.by' hd) rfl hv hl k) k

theorem go_astore (K : Ctx p s m meth c Z own nm bytes maxL ret) (X : St p l e R s m args below meth c n0 T cells slots) {k0 : Nat} {v : Value} (Ls' : Array Slot) (hd : decode bytes pc = .ok (.astore k0, 2)) (hv : v.isRef = true) (hl : storeLocals Ls k0 v = some Ls') (hp : pc + 2 = pc')
    (k : Go p e below s R n0 Q (T.setTop (mkF m pc' Ls' (stk)))) : Go p e below s R n0 Q (T.setTop (mkF m pc Ls (v :: stk))) := by
  subst hp; obtain ⟨locs, X, N⟩ := X
  exact go_by (fun t k => XS.astore X.here K.hx rfl (hb K.by' hd) rfl hv hl k) k

theorem go_iinc (K : Ctx p s m meth c Z own nm bytes maxL ret) (X : St p l e R s m args below meth c n0 T cells slots) {k0 : Nat} {cst : Int} {x : Int32} (v : Int32) (Ls' : Array Slot) (hd : decode bytes pc = .ok (.iinc k0 cst, 3)) (hv : Int32.ofInt cst = v) (hl : Ls[k0]? = some (.val (.int x))) (hl' : storeLocals Ls k0 (.int (x + v)) = some Ls') (hp : pc + 3 = pc')
    (k : Go p e below s R n0 Q (T.setTop (mkF m pc' Ls' (stk)))) : Go p e below s R n0 Q (T.setTop (mkF m pc Ls (stk))) := by
  subst hp; obtain ⟨locs, X, N⟩ := X
  exact go_by (fun t k => XT.iincV X.here K.hx rfl v (hb K.by' hd) hv hl hl' k) k

theorem go_dup (K : Ctx p s m meth c Z own nm bytes maxL ret) (X : St p l e R s m args below meth c n0 T cells slots) {x : Value} (hd : decode bytes pc = .ok (.dup, 1)) (hc : x.category = 1) (hp : pc + 1 = pc')
    (k : Go p e below s R n0 Q (T.setTop (mkF m pc' Ls (x :: x :: stk)))) : Go p e below s R n0 Q (T.setTop (mkF m pc Ls (x :: stk))) := by
  subst hp; obtain ⟨locs, X, N⟩ := X
  exact go_by (fun t k => XS.dup X.here K.hx rfl (hb K.by' hd) rfl hc k) k

theorem go_pop (K : Ctx p s m meth c Z own nm bytes maxL ret) (X : St p l e R s m args below meth c n0 T cells slots) {x : Value} (hd : decode bytes pc = .ok (.pop, 1)) (hc : x.category = 1) (hp : pc + 1 = pc')
    (k : Go p e below s R n0 Q (T.setTop (mkF m pc' Ls (stk)))) : Go p e below s R n0 Q (T.setTop (mkF m pc Ls (x :: stk))) := by
  subst hp; obtain ⟨locs, X, N⟩ := X
  exact go_by (fun t k => XS.pop X.here K.hx rfl (hb K.by' hd) rfl hc k) k

theorem go_dupX1 (K : Ctx p s m meth c Z own nm bytes maxL ret) (X : St p l e R s m args below meth c n0 T cells slots) {x y : Value} (hd : decode bytes pc = .ok (.dup_x1, 1)) (hc : x.category = 1) (hc' : y.category = 1) (hp : pc + 1 = pc')
    (k : Go p e below s R n0 Q (T.setTop (mkF m pc' Ls (x :: y :: x :: stk)))) : Go p e below s R n0 Q (T.setTop (mkF m pc Ls (x :: y :: stk))) := by
  subst hp; obtain ⟨locs, X, N⟩ := X
  exact go_by (fun t k => XS.dupX1 X.here K.hx rfl (hb K.by' hd) rfl hc hc' k) k

theorem go_dup2 (K : Ctx p s m meth c Z own nm bytes maxL ret) (X : St p l e R s m args below meth c n0 T cells slots) {x y : Value} (hd : decode bytes pc = .ok (.dup2, 1)) (hc : x.category = 1) (hc' : y.category = 1) (hp : pc + 1 = pc')
    (k : Go p e below s R n0 Q (T.setTop (mkF m pc' Ls (x :: y :: x :: y :: stk)))) : Go p e below s R n0 Q (T.setTop (mkF m pc Ls (x :: y :: stk))) := by
  subst hp; obtain ⟨locs, X, N⟩ := X
  exact go_by (fun t k => XT.dup2 X.here K.hx rfl (hb K.by' hd) rfl hc hc' k) k

theorem go_dup2L (K : Ctx p s m meth c Z own nm bytes maxL ret) (X : St p l e R s m args below meth c n0 T cells slots) {x : Int64} (hd : decode bytes pc = .ok (.dup2, 1)) (hp : pc + 1 = pc')
    (k : Go p e below s R n0 Q (T.setTop (mkF m pc' Ls (.long x :: .long x :: stk)))) : Go p e below s R n0 Q (T.setTop (mkF m pc Ls (.long x :: stk))) := by
  subst hp; obtain ⟨locs, X, N⟩ := X
  exact go_by (fun t k => XT.dup2L X.here K.hx rfl (hb K.by' hd) rfl k) k

theorem go_goto (K : Ctx p s m meth c Z own nm bytes maxL ret) (X : St p l e R s m args below meth c n0 T cells slots) {o : Int} (hd : decode bytes pc = .ok (.goto o, 3)) (ho : 0 ≤ (pc : Int) + o) (hp : ((pc : Int) + o).toNat = pt)
    (k : Go p e below s R n0 Q (T.setTop (mkF m pt Ls stk))) : Go p e below s R n0 Q (T.setTop (mkF m pc Ls stk)) := by
  obtain ⟨locs, X, N⟩ := X
  exact go_by (fun t k => XS.goto X.here K.hx rfl (pc0 := pc) rfl (hb K.by' hd) ho hp k) k
/-- what a taken branch says, and what one says that isn't -/
def cT : ClassFile.Cond → Int32 → Int32 → Prop
  | .eq, x, y => x = y | .ne, x, y => ¬ x = y | .lt, x, y => x < y | .ge, x, y => ¬ x < y | .gt, x, y => y < x | .le, x, y => ¬ y < x
def cF : ClassFile.Cond → Int32 → Int32 → Prop
  | .eq, x, y => ¬ x = y | .ne, x, y => x = y | .lt, x, y => ¬ x < y | .ge, x, y => x < y | .gt, x, y => ¬ y < x | .le, x, y => y < x
theorem cT_or (cd : ClassFile.Cond) (x y : Int32) : cT cd x y ∨ cF cd x y := by
  cases cd <;> simp only [cT, cF] <;> first | exact Decidable.em _ | exact (Decidable.em _).symm
theorem cT_holds {cd : ClassFile.Cond} {x y : Int32} (q : cT cd x y) : if_icmp.holds cd x y = true := by
  cases cd
  · exact XT.ii_eq_t q
  · exact XT.ii_ne_t q
  · exact XT.ii_lt_t q
  · exact XT.ii_ge_t q
  · exact XT.ii_gt_t q
  · exact XT.ii_le_t q
theorem cF_holds {cd : ClassFile.Cond} {x y : Int32} (q : cF cd x y) : if_icmp.holds cd x y = false := by
  cases cd
  · exact XT.ii_eq_f q
  · exact XT.ii_ne_f q
  · exact XT.ii_lt_f q
  · exact XT.ii_ge_f q
  · exact XT.ii_gt_f q
  · exact XT.ii_le_f q
def lT : ClassFile.Cond → Int64 → Int64 → Prop
  | .eq, x, y => x = y | .ne, x, y => ¬ x = y | .lt, x, y => x < y | .ge, x, y => ¬ x < y | .gt, x, y => y < x | .le, x, y => ¬ y < x
def lF : ClassFile.Cond → Int64 → Int64 → Prop
  | .eq, x, y => ¬ x = y | .ne, x, y => x = y | .lt, x, y => ¬ x < y | .ge, x, y => x < y | .gt, x, y => ¬ y < x | .le, x, y => y < x
theorem lT_or (cd : ClassFile.Cond) (x y : Int64) : lT cd x y ∨ lF cd x y := by
  cases cd <;> simp only [lT, lF] <;> first | exact Decidable.em _ | exact (Decidable.em _).symm
theorem lT_holds {cd : ClassFile.Cond} {x y : Int64} (q : lT cd x y) : ifCond.holds cd (XT.cmpL x y) = true := by
  cases cd
  · exact XT.ll_eq_t q
  · exact XT.ll_ne_t q
  · exact XT.ll_lt_t q
  · exact XT.ll_ge_t q
  · exact XT.ll_gt_t q
  · exact XT.ll_le_t q
theorem lF_holds {cd : ClassFile.Cond} {x y : Int64} (q : lF cd x y) : ifCond.holds cd (XT.cmpL x y) = false := by
  cases cd
  · exact XT.ll_eq_f q
  · exact XT.ll_ne_f q
  · exact XT.ll_lt_f q
  · exact XT.ll_ge_f q
  · exact XT.ll_gt_f q
  · exact XT.ll_le_f q

theorem go_icmpT (K : Ctx p s m meth c Z own nm bytes maxL ret) (X : St p l e R s m args below meth c n0 T cells slots) {cd : ClassFile.Cond} {o : Int} {x y : Int32} (hd : decode bytes pc = .ok (.if_icmp cd o, 3)) (ho : 0 ≤ (pc : Int) + o) (hp : ((pc : Int) + o).toNat = pt) (q : cT cd x y)
    (k : Go p e below s R n0 Q (T.setTop (mkF m pt Ls stk))) : Go p e below s R n0 Q (T.setTop (mkF m pc Ls (.int y :: .int x :: stk))) := by
  obtain ⟨locs, X, N⟩ := X
  exact go_by (fun t k => XS.icmpYes X.here K.hx rfl (pc0 := pc) rfl (hb K.by' hd) rfl (cT_holds q) ho hp k) k
theorem go_icmpF (K : Ctx p s m meth c Z own nm bytes maxL ret) (X : St p l e R s m args below meth c n0 T cells slots) {cd : ClassFile.Cond} {o : Int} {x y : Int32} (hd : decode bytes pc = .ok (.if_icmp cd o, 3)) (hp : pc + 3 = pc') (q : cF cd x y)
    (k : Go p e below s R n0 Q (T.setTop (mkF m pc' Ls stk))) : Go p e below s R n0 Q (T.setTop (mkF m pc Ls (.int y :: .int x :: stk))) := by
  subst hp; obtain ⟨locs, X, N⟩ := X
  exact go_by (fun t k => XS.icmpNo X.here K.hx rfl (hb K.by' hd) rfl (cF_holds q) k) k
theorem go_icmp (K : Ctx p s m meth c Z own nm bytes maxL ret) (X : St p l e R s m args below meth c n0 T cells slots) {cd : ClassFile.Cond} {o : Int} {x y : Int32} (hd : decode bytes pc = .ok (.if_icmp cd o, 3)) (ho : 0 ≤ (pc : Int) + o) (ht : ((pc : Int) + o).toNat = pt) (hp : pc + 3 = pc')
    (k1 : cT cd x y → Go p e below s R n0 Q (T.setTop (mkF m pt Ls stk))) (k2 : cF cd x y → Go p e below s R n0 Q (T.setTop (mkF m pc' Ls stk))) : Go p e below s R n0 Q (T.setTop (mkF m pc Ls (.int y :: .int x :: stk))) :=
  (cT_or cd _ _).elim (fun q => go_icmpT K X hd ho ht q (k1 q)) (fun q => go_icmpF K X hd hp q (k2 q))

theorem go_ifT (K : Ctx p s m meth c Z own nm bytes maxL ret) (X : St p l e R s m args below meth c n0 T cells slots) {cd : ClassFile.Cond} {o : Int} {x : Int32} (hd : decode bytes pc = .ok (.ifCond cd o, 3)) (ho : 0 ≤ (pc : Int) + o) (hp : ((pc : Int) + o).toNat = pt) (q : cT cd x 0)
    (k : Go p e below s R n0 Q (T.setTop (mkF m pt Ls stk))) : Go p e below s R n0 Q (T.setTop (mkF m pc Ls (.int x :: stk))) := by
  obtain ⟨locs, X, N⟩ := X
  exact go_by (fun t k => XS.ifYes X.here K.hx rfl (pc0 := pc) rfl (hb K.by' hd) rfl ((if0 _ _).trans (cT_holds q)) ho hp k) k
theorem go_ifF (K : Ctx p s m meth c Z own nm bytes maxL ret) (X : St p l e R s m args below meth c n0 T cells slots) {cd : ClassFile.Cond} {o : Int} {x : Int32} (hd : decode bytes pc = .ok (.ifCond cd o, 3)) (hp : pc + 3 = pc') (q : cF cd x 0)
    (k : Go p e below s R n0 Q (T.setTop (mkF m pc' Ls stk))) : Go p e below s R n0 Q (T.setTop (mkF m pc Ls (.int x :: stk))) := by
  subst hp; obtain ⟨locs, X, N⟩ := X
  exact go_by (fun t k => XS.ifNo X.here K.hx rfl (hb K.by' hd) rfl ((if0 _ _).trans (cF_holds q)) k) k
theorem go_if (K : Ctx p s m meth c Z own nm bytes maxL ret) (X : St p l e R s m args below meth c n0 T cells slots) {cd : ClassFile.Cond} {o : Int} {x : Int32} (hd : decode bytes pc = .ok (.ifCond cd o, 3)) (ho : 0 ≤ (pc : Int) + o) (ht : ((pc : Int) + o).toNat = pt) (hp : pc + 3 = pc')
    (k1 : cT cd x 0 → Go p e below s R n0 Q (T.setTop (mkF m pt Ls stk))) (k2 : cF cd x 0 → Go p e below s R n0 Q (T.setTop (mkF m pc' Ls stk))) : Go p e below s R n0 Q (T.setTop (mkF m pc Ls (.int x :: stk))) :=
  (cT_or cd _ _).elim (fun q => go_ifT K X hd ho ht q (k1 q)) (fun q => go_ifF K X hd hp q (k2 q))

theorem go_lifT (K : Ctx p s m meth c Z own nm bytes maxL ret) (X : St p l e R s m args below meth c n0 T cells slots) {cd : ClassFile.Cond} {o : Int} {x y : Int64} (hd1 : decode bytes pc = .ok (.lcmp, 1)) (hp : pc + 1 = pc') (hd : decode bytes pc' = .ok (.ifCond cd o, 3)) (ho : 0 ≤ (pc' : Int) + o) (ht : ((pc' : Int) + o).toNat = pt) (q : lT cd x y)
    (k : Go p e below s R n0 Q (T.setTop (mkF m pt Ls stk))) : Go p e below s R n0 Q (T.setTop (mkF m pc Ls (.long y :: .long x :: stk))) := by
  subst hp; obtain ⟨locs, X, N⟩ := X
  exact go_by (fun t k => XT.lcmp X.here K.hx rfl (hb K.by' hd1) rfl (XS.ifYes X.here K.hx rfl (pc0 := pc + 1) rfl (hb K.by' hd) rfl (lT_holds q) ho ht k)) k
theorem go_lifF (K : Ctx p s m meth c Z own nm bytes maxL ret) (X : St p l e R s m args below meth c n0 T cells slots) {cd : ClassFile.Cond} {o : Int} {x y : Int64} {pn : Nat} (hd1 : decode bytes pc = .ok (.lcmp, 1)) (hp : pc + 1 = pc') (hd : decode bytes pc' = .ok (.ifCond cd o, 3)) (hn : pc' + 3 = pn) (q : lF cd x y)
    (k : Go p e below s R n0 Q (T.setTop (mkF m pn Ls stk))) : Go p e below s R n0 Q (T.setTop (mkF m pc Ls (.long y :: .long x :: stk))) := by
  subst hp hn; obtain ⟨locs, X, N⟩ := X
  exact go_by (fun t k => XT.lcmp X.here K.hx rfl (hb K.by' hd1) rfl (XS.ifNo X.here K.hx rfl (hb K.by' hd) rfl (lF_holds q) k)) k
theorem go_lif (K : Ctx p s m meth c Z own nm bytes maxL ret) (X : St p l e R s m args below meth c n0 T cells slots) {cd : ClassFile.Cond} {o : Int} {x y : Int64} {pn : Nat} (hd1 : decode bytes pc = .ok (.lcmp, 1)) (hp : pc + 1 = pc') (hd : decode bytes pc' = .ok (.ifCond cd o, 3)) (ho : 0 ≤ (pc' : Int) + o) (ht : ((pc' : Int) + o).toNat = pt) (hn : pc' + 3 = pn)
    (k1 : lT cd x y → Go p e below s R n0 Q (T.setTop (mkF m pt Ls stk))) (k2 : lF cd x y → Go p e below s R n0 Q (T.setTop (mkF m pn Ls stk))) : Go p e below s R n0 Q (T.setTop (mkF m pc Ls (.long y :: .long x :: stk))) :=
  (lT_or cd _ _).elim (fun q => go_lifT K X hd1 hp hd ho ht q (k1 q)) (fun q => go_lifF K X hd1 hp hd hn q (k2 q))
theorem go_nullT (K : Ctx p s m meth c Z own nm bytes maxL ret) (X : St p l e R s m args below meth c n0 T cells slots) {o : Int} (hd : decode bytes pc = .ok (.ifnull o, 3)) (ho : 0 ≤ (pc : Int) + o) (hp : ((pc : Int) + o).toNat = pt)
    (k : Go p e below s R n0 Q (T.setTop (mkF m pt Ls stk))) : Go p e below s R n0 Q (T.setTop (mkF m pc Ls (.null :: stk))) := by
  obtain ⟨locs, X, N⟩ := X
  exact go_by (fun t k => XS.ifnullYes X.here K.hx rfl (pc0 := pc) rfl (hb K.by' hd) rfl ho hp k) k
theorem go_nullF (K : Ctx p s m meth c Z own nm bytes maxL ret) (X : St p l e R s m args below meth c n0 T cells slots) {o : Int} {a : Addr} (hd : decode bytes pc = .ok (.ifnull o, 3)) (hp : pc + 3 = pc')
    (k : Go p e below s R n0 Q (T.setTop (mkF m pc' Ls stk))) : Go p e below s R n0 Q (T.setTop (mkF m pc Ls (.ref a :: stk))) := by
  subst hp; obtain ⟨locs, X, N⟩ := X
  exact go_by (fun t k => XS.ifnullNo X.here K.hx rfl (hb K.by' hd) rfl k) k
theorem go_nonnullT (K : Ctx p s m meth c Z own nm bytes maxL ret) (X : St p l e R s m args below meth c n0 T cells slots) {o : Int} {a : Addr} (hd : decode bytes pc = .ok (.ifnonnull o, 3)) (ho : 0 ≤ (pc : Int) + o) (hp : ((pc : Int) + o).toNat = pt)
    (k : Go p e below s R n0 Q (T.setTop (mkF m pt Ls stk))) : Go p e below s R n0 Q (T.setTop (mkF m pc Ls (.ref a :: stk))) := by
  obtain ⟨locs, X, N⟩ := X
  exact go_by (fun t k => XS.ifnonnullYes X.here K.hx rfl (pc0 := pc) rfl (hb K.by' hd) rfl ho hp k) k
theorem go_nonnullF (K : Ctx p s m meth c Z own nm bytes maxL ret) (X : St p l e R s m args below meth c n0 T cells slots) {o : Int} (hd : decode bytes pc = .ok (.ifnonnull o, 3)) (hp : pc + 3 = pc')
    (k : Go p e below s R n0 Q (T.setTop (mkF m pc' Ls stk))) : Go p e below s R n0 Q (T.setTop (mkF m pc Ls (.null :: stk))) := by
  subst hp; obtain ⟨locs, X, N⟩ := X
  exact go_by (fun t k => XS.ifnonnullNo X.here K.hx rfl (hb K.by' hd) rfl k) k
theorem go_acmpT (K : Ctx p s m meth c Z own nm bytes maxL ret) (X : St p l e R s m args below meth c n0 T cells slots) {cd : ClassFile.ACond} {o : Int} {x y : Value} (hd : decode bytes pc = .ok (.if_acmp cd o, 3)) (ho : 0 ≤ (pc : Int) + o) (hp : ((pc : Int) + o).toNat = pt) (h1 : x.isRef = true) (h2 : y.isRef = true) (q : XT.acmp cd x y = true)
    (k : Go p e below s R n0 Q (T.setTop (mkF m pt Ls stk))) : Go p e below s R n0 Q (T.setTop (mkF m pc Ls (y :: x :: stk))) := by
  obtain ⟨locs, X, N⟩ := X
  exact go_by (fun t k => XT.acmpYes X.here K.hx rfl (pc0 := pc) rfl (hb K.by' hd) rfl h1 h2 q ho hp k) k
theorem go_acmpF (K : Ctx p s m meth c Z own nm bytes maxL ret) (X : St p l e R s m args below meth c n0 T cells slots) {cd : ClassFile.ACond} {o : Int} {x y : Value} (hd : decode bytes pc = .ok (.if_acmp cd o, 3)) (hp : pc + 3 = pc') (h1 : x.isRef = true) (h2 : y.isRef = true) (q : XT.acmp cd x y = false)
    (k : Go p e below s R n0 Q (T.setTop (mkF m pc' Ls stk))) : Go p e below s R n0 Q (T.setTop (mkF m pc Ls (y :: x :: stk))) := by
  subst hp; obtain ⟨locs, X, N⟩ := X
  exact go_by (fun t k => XT.acmpNo X.here K.hx rfl (hb K.by' hd) rfl h1 h2 q k) k
/-- the return -/
theorem go_retV (K : Ctx p s m meth c Z own nm bytes maxL ret) (X : St p l e R s m args below meth c n0 T cells slots) {w : Value} {t : FieldType} {i : Instr} (hret : ret = some t) (hn : narrow t w = w)
    (hi : (i = .ireturn ∧ (t = .int ∨ t = .boolean ∨ t = .byte ∨ t = .char ∨ t = .short) ∧ ∃ z, w = .int z) ∨ (i = .lreturn ∧ t = .long ∧ ∃ z, w = .long z) ∨ (i = .dreturn ∧ t = .double ∧ ∃ z, w = .double z) ∨ (i = .freturn ∧ t = .float ∧ ∃ z, w = .float z) ∨ (i = .areturn ∧ t.isReference = true ∧ w.isRef = true))
    (hd : decode bytes pc = .ok (i, 1)) (hc : cells ≤ R.cells) (hs : slots ≤ R.slots) (q : Q (some w) T.heap) : Go p e below s R n0 Q (T.setTop (mkF m pc Ls (w :: stk))) := by
  obtain ⟨locs, X, N⟩ := X
  obtain ⟨fs, hr, hrun, hended, hW, hsame⟩ := X.leave (v := some w) (fun h => by rw [K.ret', hret] at h; cases h) K.locks
  exact ⟨_, _, retOut X K.hx (K.ret'.trans hret) hn hi (hb K.by' hd) hr, hrun, hended, _, _, rfl, ⟨q, N⟩, ⟨_, rfl⟩, hW, hsame.mono hc hs⟩
theorem go_retI (K : Ctx p s m meth c Z own nm bytes maxL (some .int)) (X : St p l e R s m args below meth c n0 T cells slots) {z : Int32} (hd : decode bytes pc = .ok (.ireturn, 1)) (hc : cells ≤ R.cells) (hs : slots ≤ R.slots) (q : Q (some (.int z)) T.heap) : Go p e below s R n0 Q (T.setTop (mkF m pc Ls (.int z :: stk))) :=
  go_retV K X rfl rfl (Or.inl ⟨rfl, Or.inl rfl, z, rfl⟩) hd hc hs q
theorem go_retZ (K : Ctx p s m meth c Z own nm bytes maxL (some .boolean)) (X : St p l e R s m args below meth c n0 T cells slots) {z : Int32} (hz : z = 0 ∨ z = 1) (hd : decode bytes pc = .ok (.ireturn, 1)) (hc : cells ≤ R.cells) (hs : slots ≤ R.slots) (q : Q (some (.int z)) T.heap) : Go p e below s R n0 Q (T.setTop (mkF m pc Ls (.int z :: stk))) :=
  go_retV K X rfl (by rcases hz with rfl | rfl <;> rfl) (Or.inl ⟨rfl, Or.inr (Or.inl rfl), z, rfl⟩) hd hc hs q
theorem go_retJ (K : Ctx p s m meth c Z own nm bytes maxL (some .long)) (X : St p l e R s m args below meth c n0 T cells slots) {z : Int64} (hd : decode bytes pc = .ok (.lreturn, 1)) (hc : cells ≤ R.cells) (hs : slots ≤ R.slots) (q : Q (some (.long z)) T.heap) : Go p e below s R n0 Q (T.setTop (mkF m pc Ls (.long z :: stk))) :=
  go_retV K X rfl rfl (Or.inr (Or.inl ⟨rfl, rfl, z, rfl⟩)) hd hc hs q
theorem go_retA (K : Ctx p s m meth c Z own nm bytes maxL (some t)) (X : St p l e R s m args below meth c n0 T cells slots) {w : Value} (ht : t.isReference = true) (hw : w.isRef = true) (hn : narrow t w = w) (hd : decode bytes pc = .ok (.areturn, 1)) (hc : cells ≤ R.cells) (hs : slots ≤ R.slots) (q : Q (some w) T.heap) : Go p e below s R n0 Q (T.setTop (mkF m pc Ls (w :: stk))) :=
  go_retV K X rfl hn (Or.inr (Or.inr (Or.inr (Or.inr ⟨rfl, ht, hw⟩)))) hd hc hs q
theorem go_ret (K : Ctx p s m meth c Z own nm bytes maxL none) (X : St p l e R s m args below meth c n0 T cells slots) (hd : decode bytes pc = .ok (.return_, 1)) (hc : cells ≤ R.cells) (hs : slots ≤ R.slots) (q : Q none T.heap) : Go p e below s R n0 Q (T.setTop (mkF m pc Ls [])) := by
  obtain ⟨locs, X, N⟩ := X
  obtain ⟨fs, hr, hrun, hended, hW, hsame⟩ := X.leave (v := none) (fun _ => rfl) K.locks
  exact ⟨_, _, X.returnOut K.hx K.ret' (hb K.by' hd) hr, hrun, hended, _, _, rfl, ⟨q, N⟩, ⟨_, rfl⟩, hW, hsame.mono hc hs⟩

/-! ## the heap -/
theorem go_getF (K : Ctx p s m meth c Z own nm bytes maxL ret) (X : St p l e R s m args below meth c n0 T cells slots) {R0 O n d host : String} {index : Nat} (w : (Cond.fieldLink own index R0 n d).before a0 Z = true ∨ (Cond.fieldLinkNest own index R0 n d host).before a0 Z = true) (via : Via Z R0 O n d) (eT : T.heap = h) {a : Addr} {v : Value} (F : Fld Z h a O n d v) (hd : decode bytes pc = .ok (.getfield index, 3)) (hp : pc + 3 = pc')
    (k : ∀ T', St p l e R s m args below meth c n0 T' cells slots → T'.heap = h → Go p e below s R n0 Q (T'.setTop (mkF m pc' Ls (v :: stk)))) : Go p e below s R n0 Q (T.setTop (mkF m pc Ls (.ref a :: stk))) := by
  subst hp; obtain ⟨locs, X, N⟩ := X
  obtain ⟨T', X', e', st⟩ := getF X K.hx K.hZ K.own' w via eT F (g := mkF m pc Ls (.ref a :: stk)) rfl rfl (hb K.by' hd)
  exact go_by st (k T' ⟨locs, X', N⟩ e')
theorem go_getS (K : Ctx p s m meth c Z own nm bytes maxL ret) (X : St p l e R s m args below meth c n0 T cells slots) {R0 O n d host : String} {index : Nat} (w : (Cond.fieldLink own index R0 n d).before a0 Z = true ∨ (Cond.fieldLinkNest own index R0 n d host).before a0 Z = true) (via : Via Z R0 O n d) (eT : T.heap = h) {v : Value} (F : Sta Z h O n d v) (hd : decode bytes pc = .ok (.getstatic index, 3)) (hp : pc + 3 = pc')
    (k : ∀ T', St p l e R s m args below meth c n0 T' cells slots → T'.heap = h → Go p e below s R n0 Q (T'.setTop (mkF m pc' Ls (v :: stk)))) : Go p e below s R n0 Q (T.setTop (mkF m pc Ls stk)) := by
  subst hp; obtain ⟨locs, X, N⟩ := X
  obtain ⟨T', X', e', st⟩ := getS2 X K.hx K.hZ K.own' w via eT F (g := mkF m pc Ls stk) rfl (hb K.by' hd)
  exact go_by st (k T' ⟨locs, X', N⟩ e')
theorem go_putF (K : Ctx p s m meth c Z own nm bytes maxL ret) (X : St p l e R s m args below meth c n0 T cells slots) {R0 O n d host C : String} {index kk : Nat} {ty : FieldType} (w : (Cond.fieldLink own index R0 n d).before a0 Z = true ∨ (Cond.fieldLinkNest own index R0 n d host).before a0 Z = true) (via : Via Z R0 O n d) (eT : T.heap = h) {a : Addr} {v old : Value} (F : Fld Z h a O n d old) (E : Exa Z h a C)
    (L : (Cond.lays C O n d).before a0 Z = true ∨ ((Cond.laysFinal C O n d).before a0 Z = true ∧ own = O ∧ nm = "<init>")) (wi : (Cond.instantiable C kk).before a0 Z = true) (hty : parseFieldDescriptor d = some ty) (hn : narrow ty v = v) (hf : fits ty v = true) (ge : n0 ≤ a) (hd : decode bytes pc = .ok (.putfield index, 3)) (hp : pc + 3 = pc')
    (k : ∀ T' h', St p l e R s m args below meth c n0 T' cells slots → T'.heap = h' → Wr h h' a (Jvm.RoadKit.slotOf Z O n d) v → Go p e below s R n0 Q (T'.setTop (mkF m pc' Ls stk))) : Go p e below s R n0 Q (T.setTop (mkF m pc Ls (v :: .ref a :: stk))) := by
  subst hp; obtain ⟨locs, X, N⟩ := X
  obtain ⟨T', h', X', e', W', st⟩ := putF X K.hx K.hZ K.own' w via eT F E (L.imp id fun q => ⟨q.1, q.2.1, K.nm'.trans q.2.2⟩) wi hty hn hf (g := mkF m pc Ls (v :: .ref a :: stk)) rfl rfl (hb K.by' hd)
  exact go_by st (k T' h' ⟨_, X', Fr.snoc X' N ge⟩ e' W')
theorem go_new (K : Ctx p s m meth c Z own nm bytes maxL ret) (X : St p l e R s m args below meth c n0 T cells slots) {C : String} {index n : Nat} (w : (Cond.classLink own index C).before a0 Z = true) (wi : (Cond.instantiable C n).before a0 Z = true) (wz : (Cond.initialized C).before a0 Z = true) (eT : T.heap = h) (hd : decode bytes pc = .ok (.new index, 3)) (hp : pc + 3 = pc') (hc' : cells + 1 = cells') (hs' : slots + n = slots') (hc : cells' ≤ R.cells) (hs : slots' ≤ R.slots)
    (k : ∀ T' h' a, a = h.size → St p l e R s m args below meth c n0 T' cells' slots' → T'.heap = h' → Ext h h' → Exa Z h' a C → (∀ {O nm d : String} {ty : FieldType}, Laid Z a0 C O nm d → parseFieldDescriptor d = some ty → Fld Z h' a O nm d (defaultValue ty)) → Go p e below s R n0 Q (T'.setTop (mkF m pc' Ls (.ref a :: stk)))) : Go p e below s R n0 Q (T.setTop (mkF m pc Ls stk)) := by
  subst hp hc' hs'; obtain ⟨locs, X, N⟩ := X
  obtain ⟨T', h', X', e', E', A', D', -, st⟩ := newO X K.hx K.hZ K.own' w wi wz eT (g := mkF m pc Ls stk) rfl (hb K.by' hd) hc hs
  exact go_by st (k T' h' _ rfl ⟨_, X', N⟩ e' E' A' D')
theorem go_initO (K : Ctx p s m meth c Z own nm bytes maxL ret) (X : St p l e R s m args below meth c n0 T cells slots) {idx : Nat} {a : Addr} (w1 : (Cond.methodLink own idx Lib.objectInit).before a0 Z = true) (w2 : (Cond.instanceMethod Lib.objectInit).before a0 Z = true) (w3 : (Cond.code Lib.objectInit ⟨#[0xb1]⟩ 1 none).before a0 Z = true) (eT : T.heap = h) (hsize : Ls.size = maxL) (hd : decode bytes pc = .ok (.invokespecial idx, 3)) (hp : pc + 3 = pc')
    (hf : 1 ≤ R.frames) {W : Nat} (hW : (stk.map fun v => v.category).sum ≤ W) (hl : W + 12 ≤ R.locals)
    (k : ∀ T', St p l e R s m args below meth c n0 T' cells slots → T'.heap = h → Go p e below s R n0 Q (T'.setTop (mkF m pc' Ls stk))) : Go p e below s R n0 Q (T.setTop (mkF m pc Ls (.ref a :: stk))) := by
  subst hp; obtain ⟨locs, X, N⟩ := X
  obtain ⟨T', X', e', st⟩ := initO X K.hx K.hZ K.own' w1 w2 w3 eT (g := mkF m pc Ls (.ref a :: stk)) rfl (by rw [K.ml]; exact hsize) rfl (hb K.by' hd) hf (W := W) (by show 2 * 0 + _ ≤ _; omega) hl
  exact go_by st (k T' ⟨_, X', N⟩ e')
theorem go_cast (K : Ctx p s m meth c Z own nm bytes maxL ret) (X : St p l e R s m args below meth c n0 T cells slots) {C : String} {index : Nat} (w : (Cond.classLink own index C).before a0 Z = true) (eT : T.heap = h) {a : Addr} (F : Ins Z h a C true) (hd : decode bytes pc = .ok (.checkcast index, 3)) (hp : pc + 3 = pc')
    (k : ∀ T', St p l e R s m args below meth c n0 T' cells slots → T'.heap = h → Go p e below s R n0 Q (T'.setTop (mkF m pc' Ls (.ref a :: stk)))) : Go p e below s R n0 Q (T.setTop (mkF m pc Ls (.ref a :: stk))) := by
  subst hp; obtain ⟨locs, X, N⟩ := X
  obtain ⟨T', X', e', st⟩ := castY X K.hx K.hZ K.own' w eT F (g := mkF m pc Ls (.ref a :: stk)) rfl rfl (hb K.by' hd)
  exact go_by st (k T' ⟨_, X', N⟩ e')
theorem go_instY (K : Ctx p s m meth c Z own nm bytes maxL ret) (X : St p l e R s m args below meth c n0 T cells slots) {C : String} {index : Nat} (w : (Cond.classLink own index C).before a0 Z = true) (eT : T.heap = h) {a : Addr} (F : Ins Z h a C true) (hd : decode bytes pc = .ok (.instanceof index, 3)) (hp : pc + 3 = pc')
    (k : ∀ T', St p l e R s m args below meth c n0 T' cells slots → T'.heap = h → Go p e below s R n0 Q (T'.setTop (mkF m pc' Ls (.int 1 :: stk)))) : Go p e below s R n0 Q (T.setTop (mkF m pc Ls (.ref a :: stk))) := by
  subst hp; obtain ⟨locs, X, N⟩ := X
  obtain ⟨T', X', e', st⟩ := instY X K.hx K.hZ K.own' w eT F (g := mkF m pc Ls (.ref a :: stk)) rfl rfl (hb K.by' hd)
  exact go_by st (k T' ⟨_, X', N⟩ e')
theorem go_instN (K : Ctx p s m meth c Z own nm bytes maxL ret) (X : St p l e R s m args below meth c n0 T cells slots) {C C' : String} {index : Nat} (w : (Cond.classLink own index C).before a0 Z = true) (eT : T.heap = h) {a : Addr} (E : Exa Z h a C') (F : ∃ c t, Z.vm.findClass C' = some c ∧ Z.vm.findClass C = some t ∧ Z.vm.assignable c t = false) (hd : decode bytes pc = .ok (.instanceof index, 3)) (hp : pc + 3 = pc')
    (k : ∀ T', St p l e R s m args below meth c n0 T' cells slots → T'.heap = h → Go p e below s R n0 Q (T'.setTop (mkF m pc' Ls (.int 0 :: stk)))) : Go p e below s R n0 Q (T.setTop (mkF m pc Ls (.ref a :: stk))) := by
  subst hp; obtain ⟨locs, X, N⟩ := X
  obtain ⟨T', X', e', st⟩ := instNo X K.hx K.hZ K.own' w eT E F (g := mkF m pc Ls (.ref a :: stk)) rfl rfl (hb K.by' hd)
  exact go_by st (k T' ⟨_, X', N⟩ e')

/-! ## arrays -/
/-- at a lies an array of ty that holds just vs -/
def AV (Z : State) (h : Heap) (a : Addr) (ty : FieldType) (vs : List Value) : Prop := ∃ cl : Cell, Arr Z h a cl ty ∧ cl.slots = vs.toArray ∧ vs.length < 2 ^ 31
theorem AV.lt {a : Addr} {ty : FieldType} {vs : List Value} (F : AV Z h a ty vs) : a < h.size := by obtain ⟨cl, A, -⟩ := F; exact A.lt
theorem AV.keep {a : Addr} {ty : FieldType} {vs : List Value} {ws : List Addr} (F : AV Z h a ty vs) (K : Keep h h' ws) (q : a ∉ ws) : AV Z h' a ty vs := by
  obtain ⟨cl, A, r⟩ := F; exact ⟨cl, ⟨K.2.1 _ _ A.1 q, A.2⟩, r⟩
theorem AV.ext {a : Addr} {ty : FieldType} {vs : List Value} (F : AV Z h a ty vs) (E : Ext h h') : AV Z h' a ty vs := by
  obtain ⟨cl, A, r⟩ := F; exact ⟨cl, A.ext E, r⟩
theorem AV.len {a : Addr} {ty : FieldType} {vs : List Value} (F : AV Z h a ty vs) : vs.length < 2 ^ 31 := by obtain ⟨cl, -, -, r⟩ := F; exact r
theorem idx_nat {j : Int32} {i : Nat} (hj : j.toInt = (i : Int)) : j.toNatClampNeg = i ∧ ¬ j < 0 := by
  have h1 : j.toNatClampNeg = j.toInt.toNat := rfl
  have h2 : ¬ j < 0 := by rw [XT.negI32]; omega
  exact ⟨by rw [h1, hj]; rfl, h2⟩
theorem AV.in {a : Addr} {ty : FieldType} {vs : List Value} {cl : Cell} {j : Int32} {i : Nat} (hs : cl.slots = vs.toArray) (hj : j.toInt = (i : Int)) (hi : i < vs.length) : ¬ (j < 0 ∨ cl.slots.size ≤ j.toNatClampNeg) := by
  obtain ⟨h1, h2⟩ := idx_nat hj
  rintro (q | q)
  · exact h2 q
  · rw [h1, hs] at q
    simp at q
    omega
theorem AV.get {vs : List Value} {cl : Cell} {j : Int32} {i : Nat} {v : Value} (hs : cl.slots = vs.toArray) (hj : j.toInt = (i : Int)) (hv : vs[i]? = some v) : cl.slots[j.toNatClampNeg]? = some v := by
  rw [(idx_nat hj).1, hs]; simpa using hv
theorem AV.set {a : Addr} {ty : FieldType} {vs : List Value} {cl : Cell} {i : Nat} {v : Value} (A : Arr Z h a cl ty) (hs : cl.slots = vs.toArray) (hl : vs.length < 2 ^ 31) (W : Wr h h' a i v) : AV Z h' a ty (vs.set i v) := by
  refine ⟨_, A.same W, ?_, by simpa using hl⟩
  show cl.slots.setIfInBounds i v = _
  rw [hs]; simp
theorem lt_of_get {vs : List Value} {i : Nat} {v : Value} (hv : vs[i]? = some v) : i < vs.length := (List.getElem?_eq_some_iff.mp hv).1

theorem go_iaload (K : Ctx p s m meth c Z own nm bytes maxL ret) (X : St p l e R s m args below meth c n0 T cells slots) (eT : T.heap = h) {a : Addr} {vs : List Value} {j : Int32} {i : Nat} {v : Value} (F : AV Z h a .int vs) (hj : j.toInt = (i : Int)) (hv : vs[i]? = some v) (hd : decode bytes pc = .ok (.iaload, 1)) (hp : pc + 1 = pc')
    (k : Go p e below s R n0 Q (T.setTop (mkF m pc' Ls (v :: stk)))) : Go p e below s R n0 Q (T.setTop (mkF m pc Ls (.int j :: .ref a :: stk))) := by
  subst hp; obtain ⟨locs, X, N⟩ := X; obtain ⟨cl, A, hs, hl⟩ := F
  exact go_by (fun t k => X.iaload K.hx (by rw [eT]; exact A.1) (State.isArrayOf_alike K.hZ.alike A.2.1) A.2.2 (AV.in (a := a) (ty := .int) hs hj (lt_of_get hv)) (AV.get hs hj hv) (g := mkF m pc Ls (.int j :: .ref a :: stk)) rfl rfl (hb K.by' hd) t k) k

theorem go_laload (K : Ctx p s m meth c Z own nm bytes maxL ret) (X : St p l e R s m args below meth c n0 T cells slots) (eT : T.heap = h) {a : Addr} {vs : List Value} {j : Int32} {i : Nat} {v : Value} (F : AV Z h a .long vs) (hj : j.toInt = (i : Int)) (hv : vs[i]? = some v) (hd : decode bytes pc = .ok (.laload, 1)) (hp : pc + 1 = pc')
    (k : Go p e below s R n0 Q (T.setTop (mkF m pc' Ls (v :: stk)))) : Go p e below s R n0 Q (T.setTop (mkF m pc Ls (.int j :: .ref a :: stk))) := by
  subst hp; obtain ⟨locs, X, N⟩ := X; obtain ⟨cl, A, hs, hl⟩ := F
  exact go_by (fun t k => X.laload K.hx (by rw [eT]; exact A.1) (State.isArrayOf_alike K.hZ.alike A.2.1) A.2.2 (AV.in (a := a) (ty := .long) hs hj (lt_of_get hv)) (AV.get hs hj hv) (g := mkF m pc Ls (.int j :: .ref a :: stk)) rfl rfl (hb K.by' hd) t k) k

theorem go_caload (K : Ctx p s m meth c Z own nm bytes maxL ret) (X : St p l e R s m args below meth c n0 T cells slots) (eT : T.heap = h) {a : Addr} {vs : List Value} {j : Int32} {i : Nat} {v : Value} (F : AV Z h a .char vs) (hj : j.toInt = (i : Int)) (hv : vs[i]? = some v) (hd : decode bytes pc = .ok (.caload, 1)) (hp : pc + 1 = pc')
    (k : Go p e below s R n0 Q (T.setTop (mkF m pc' Ls (v :: stk)))) : Go p e below s R n0 Q (T.setTop (mkF m pc Ls (.int j :: .ref a :: stk))) := by
  subst hp; obtain ⟨locs, X, N⟩ := X; obtain ⟨cl, A, hs, hl⟩ := F
  exact go_by (fun t k => X.caload K.hx (by rw [eT]; exact A.1) (State.isArrayOf_alike K.hZ.alike A.2.1) A.2.2 (AV.in (a := a) (ty := .char) hs hj (lt_of_get hv)) (AV.get hs hj hv) (g := mkF m pc Ls (.int j :: .ref a :: stk)) rfl rfl (hb K.by' hd) t k) k

theorem go_baloadB (K : Ctx p s m meth c Z own nm bytes maxL ret) (X : St p l e R s m args below meth c n0 T cells slots) (eT : T.heap = h) {a : Addr} {vs : List Value} {j : Int32} {i : Nat} {v : Value} (F : AV Z h a .byte vs) (hj : j.toInt = (i : Int)) (hv : vs[i]? = some v) (hd : decode bytes pc = .ok (.baload, 1)) (hp : pc + 1 = pc')
    (k : Go p e below s R n0 Q (T.setTop (mkF m pc' Ls (v :: stk)))) : Go p e below s R n0 Q (T.setTop (mkF m pc Ls (.int j :: .ref a :: stk))) := by
  subst hp; obtain ⟨locs, X, N⟩ := X; obtain ⟨cl, A, hs, hl⟩ := F
  exact go_by (fun t k => X.baloadBytes K.hx (by rw [eT]; exact A.1) (State.isArrayOf_alike K.hZ.alike A.2.1) A.2.2 (AV.in (a := a) (ty := .byte) hs hj (lt_of_get hv)) (AV.get hs hj hv) (g := mkF m pc Ls (.int j :: .ref a :: stk)) rfl rfl (hb K.by' hd) t k) k

theorem go_baloadZ (K : Ctx p s m meth c Z own nm bytes maxL ret) (X : St p l e R s m args below meth c n0 T cells slots) (eT : T.heap = h) {a : Addr} {vs : List Value} {j : Int32} {i : Nat} {v : Value} (F : AV Z h a .boolean vs) (hj : j.toInt = (i : Int)) (hv : vs[i]? = some v) (hd : decode bytes pc = .ok (.baload, 1)) (hp : pc + 1 = pc')
    (k : Go p e below s R n0 Q (T.setTop (mkF m pc' Ls (v :: stk)))) : Go p e below s R n0 Q (T.setTop (mkF m pc Ls (.int j :: .ref a :: stk))) := by
  subst hp; obtain ⟨locs, X, N⟩ := X; obtain ⟨cl, A, hs, hl⟩ := F
  exact go_by (fun t k => X.baloadBooleans K.hx (by rw [eT]; exact A.1) (State.isArrayOf_alike K.hZ.alike A.2.1) A.2.2 (AV.in (a := a) (ty := .boolean) hs hj (lt_of_get hv)) (AV.get hs hj hv) (g := mkF m pc Ls (.int j :: .ref a :: stk)) rfl rfl (hb K.by' hd) t k) k

theorem go_aaload (K : Ctx p s m meth c Z own nm bytes maxL ret) (X : St p l e R s m args below meth c n0 T cells slots) (eT : T.heap = h) {a : Addr} {ty : FieldType} {vs : List Value} {j : Int32} {i : Nat} {v : Value} (F : AV Z h a ty vs) (hj : j.toInt = (i : Int)) (hv : vs[i]? = some v) (hty : ty.isReference = true) (hd : decode bytes pc = .ok (.aaload, 1)) (hp : pc + 1 = pc')
    (k : Go p e below s R n0 Q (T.setTop (mkF m pc' Ls (v :: stk)))) : Go p e below s R n0 Q (T.setTop (mkF m pc Ls (.int j :: .ref a :: stk))) := by
  subst hp; obtain ⟨locs, X, N⟩ := X; obtain ⟨cl, A, hs, hl⟩ := F
  exact go_by (fun t k => X.aaload K.hx (by rw [eT]; exact A.1) (State.isArrayOf_alike K.hZ.alike A.2.1) hty A.2.2 (AV.in (a := a) (ty := ty) hs hj (lt_of_get hv)) (AV.get hs hj hv) (g := mkF m pc Ls (.int j :: .ref a :: stk)) rfl rfl (hb K.by' hd) t k) k
theorem go_arraylength (K : Ctx p s m meth c Z own nm bytes maxL ret) (X : St p l e R s m args below meth c n0 T cells slots) (eT : T.heap = h) {a : Addr} {ty : FieldType} {vs : List Value} {z : Int32} (F : AV Z h a ty vs) (hz : vs.length.toInt32 = z) (hd : decode bytes pc = .ok (.arraylength, 1)) (hp : pc + 1 = pc')
    (k : Go p e below s R n0 Q (T.setTop (mkF m pc' Ls (.int z :: stk)))) : Go p e below s R n0 Q (T.setTop (mkF m pc Ls (.ref a :: stk))) := by
  subst hp hz; obtain ⟨locs, X, N⟩ := X; obtain ⟨cl, A, hs, hl⟩ := F
  refine go_by (fun t k => X.arraylength K.hx (by rw [eT]; exact A.1) (State.isArrayOf_alike K.hZ.alike A.2.1) (g := mkF m pc Ls (.ref a :: stk)) rfl rfl (hb K.by' hd) t ?_) k
  rw [show cl.slots.size = vs.length by rw [hs]; simp]; exact k

theorem go_iastore (K : Ctx p s m meth c Z own nm bytes maxL ret) (X : St p l e R s m args below meth c n0 T cells slots) (eT : T.heap = h) {a : Addr} {vs : List Value} {j : Int32} {x : Int32} {i : Nat} (F : AV Z h a .int vs) (hj : j.toInt = (i : Int)) (hi : i < vs.length) (ge : n0 ≤ a) (hd : decode bytes pc = .ok (.iastore, 1)) (hp : pc + 1 = pc')
    (k : ∀ T' h', St p l e R s m args below meth c n0 T' cells slots → T'.heap = h' → Wr h h' a i (.int x) → AV Z h' a .int (vs.set i (.int x)) → Go p e below s R n0 Q (T'.setTop (mkF m pc' Ls stk))) : Go p e below s R n0 Q (T.setTop (mkF m pc Ls (.int x :: .int j :: .ref a :: stk))) := by
  subst hp; obtain ⟨locs, X, N⟩ := X; obtain ⟨cl, A, hs, hl⟩ := F
  obtain ⟨T', h', X', e', W', st⟩ := stI X K.hx K.hZ eT A (AV.in (a := a) (ty := .int) hs hj hi) (g := mkF m pc Ls (.int x :: .int j :: .ref a :: stk)) rfl rfl (hb K.by' hd)
  have W2 := W'; rw [(idx_nat hj).1] at W2
  exact go_by st (k T' h' ⟨_, X', Fr.snoc X' N ge⟩ e' W2 (AV.set A hs hl W2))

theorem go_lastore (K : Ctx p s m meth c Z own nm bytes maxL ret) (X : St p l e R s m args below meth c n0 T cells slots) (eT : T.heap = h) {a : Addr} {vs : List Value} {j : Int32} {x : Int64} {i : Nat} (F : AV Z h a .long vs) (hj : j.toInt = (i : Int)) (hi : i < vs.length) (ge : n0 ≤ a) (hd : decode bytes pc = .ok (.lastore, 1)) (hp : pc + 1 = pc')
    (k : ∀ T' h', St p l e R s m args below meth c n0 T' cells slots → T'.heap = h' → Wr h h' a i (.long x) → AV Z h' a .long (vs.set i (.long x)) → Go p e below s R n0 Q (T'.setTop (mkF m pc' Ls stk))) : Go p e below s R n0 Q (T.setTop (mkF m pc Ls (.long x :: .int j :: .ref a :: stk))) := by
  subst hp; obtain ⟨locs, X, N⟩ := X; obtain ⟨cl, A, hs, hl⟩ := F
  obtain ⟨T', h', X', e', W', st⟩ := stJ X K.hx K.hZ eT A (AV.in (a := a) (ty := .long) hs hj hi) (g := mkF m pc Ls (.long x :: .int j :: .ref a :: stk)) rfl rfl (hb K.by' hd)
  have W2 := W'; rw [(idx_nat hj).1] at W2
  exact go_by st (k T' h' ⟨_, X', Fr.snoc X' N ge⟩ e' W2 (AV.set A hs hl W2))

theorem go_bastoreB (K : Ctx p s m meth c Z own nm bytes maxL ret) (X : St p l e R s m args below meth c n0 T cells slots) (eT : T.heap = h) {a : Addr} {vs : List Value} {j x : Int32} {i : Nat} (F : AV Z h a .byte vs) (hj : j.toInt = (i : Int)) (hi : i < vs.length) (hx' : nar .byte x = x) (ge : n0 ≤ a) (hd : decode bytes pc = .ok (.bastore, 1)) (hp : pc + 1 = pc')
    (k : ∀ T' h', St p l e R s m args below meth c n0 T' cells slots → T'.heap = h' → Wr h h' a i (.int x) → AV Z h' a .byte (vs.set i (.int x)) → Go p e below s R n0 Q (T'.setTop (mkF m pc' Ls stk))) : Go p e below s R n0 Q (T.setTop (mkF m pc Ls (.int x :: .int j :: .ref a :: stk))) := by
  subst hp; obtain ⟨locs, X, N⟩ := X; obtain ⟨cl, A, hs, hl⟩ := F
  obtain ⟨T', h', X', e', W', st⟩ := stB X K.hx K.hZ eT A (AV.in (a := a) (ty := .byte) hs hj hi) (g := mkF m pc Ls (.int x :: .int j :: .ref a :: stk)) rfl rfl (hb K.by' hd)
  have W2 := W'; rw [(idx_nat hj).1, hx'] at W2
  exact go_by st (k T' h' ⟨_, X', Fr.snoc X' N ge⟩ e' W2 (AV.set A hs hl W2))

theorem go_bastoreZ (K : Ctx p s m meth c Z own nm bytes maxL ret) (X : St p l e R s m args below meth c n0 T cells slots) (eT : T.heap = h) {a : Addr} {vs : List Value} {j x : Int32} {i : Nat} (F : AV Z h a .boolean vs) (hj : j.toInt = (i : Int)) (hi : i < vs.length) (hx' : nar .boolean x = x) (ge : n0 ≤ a) (hd : decode bytes pc = .ok (.bastore, 1)) (hp : pc + 1 = pc')
    (k : ∀ T' h', St p l e R s m args below meth c n0 T' cells slots → T'.heap = h' → Wr h h' a i (.int x) → AV Z h' a .boolean (vs.set i (.int x)) → Go p e below s R n0 Q (T'.setTop (mkF m pc' Ls stk))) : Go p e below s R n0 Q (T.setTop (mkF m pc Ls (.int x :: .int j :: .ref a :: stk))) := by
  subst hp; obtain ⟨locs, X, N⟩ := X; obtain ⟨cl, A, hs, hl⟩ := F
  obtain ⟨T', h', X', e', W', st⟩ := stZ X K.hx K.hZ eT A (AV.in (a := a) (ty := .boolean) hs hj hi) (g := mkF m pc Ls (.int x :: .int j :: .ref a :: stk)) rfl rfl (hb K.by' hd)
  have W2 := W'; rw [(idx_nat hj).1, hx'] at W2
  exact go_by st (k T' h' ⟨_, X', Fr.snoc X' N ge⟩ e' W2 (AV.set A hs hl W2))

theorem go_castore (K : Ctx p s m meth c Z own nm bytes maxL ret) (X : St p l e R s m args below meth c n0 T cells slots) (eT : T.heap = h) {a : Addr} {vs : List Value} {j x : Int32} {i : Nat} (F : AV Z h a .char vs) (hj : j.toInt = (i : Int)) (hi : i < vs.length) (hx' : nar .char x = x) (ge : n0 ≤ a) (hd : decode bytes pc = .ok (.castore, 1)) (hp : pc + 1 = pc')
    (k : ∀ T' h', St p l e R s m args below meth c n0 T' cells slots → T'.heap = h' → Wr h h' a i (.int x) → AV Z h' a .char (vs.set i (.int x)) → Go p e below s R n0 Q (T'.setTop (mkF m pc' Ls stk))) : Go p e below s R n0 Q (T.setTop (mkF m pc Ls (.int x :: .int j :: .ref a :: stk))) := by
  subst hp; obtain ⟨locs, X, N⟩ := X; obtain ⟨cl, A, hs, hl⟩ := F
  obtain ⟨T', h', X', e', W', st⟩ := stC X K.hx K.hZ eT A (AV.in (a := a) (ty := .char) hs hj hi) (g := mkF m pc Ls (.int x :: .int j :: .ref a :: stk)) rfl rfl (hb K.by' hd)
  have W2 := W'; rw [(idx_nat hj).1, hx'] at W2
  exact go_by st (k T' h' ⟨_, X', Fr.snoc X' N ge⟩ e' W2 (AV.set A hs hl W2))

theorem go_aastore (K : Ctx p s m meth c Z own nm bytes maxL ret) (X : St p l e R s m args below meth c n0 T cells slots) (eT : T.heap = h) {a : Addr} {ty : FieldType} {vs : List Value} {j : Int32} {v : Value} {i : Nat} (F : AV Z h a ty vs) (hj : j.toInt = (i : Int)) (hi : i < vs.length) (hty : ty.isReference = true) (S : Sto Z h a v) (ge : n0 ≤ a) (hd : decode bytes pc = .ok (.aastore, 1)) (hp : pc + 1 = pc')
    (k : ∀ T' h', St p l e R s m args below meth c n0 T' cells slots → T'.heap = h' → Wr h h' a i v → AV Z h' a ty (vs.set i v) → Go p e below s R n0 Q (T'.setTop (mkF m pc' Ls stk))) : Go p e below s R n0 Q (T.setTop (mkF m pc Ls (v :: .int j :: .ref a :: stk))) := by
  subst hp; obtain ⟨locs, X, N⟩ := X; obtain ⟨cl, A, hs, hl⟩ := F
  obtain ⟨T', h', X', e', W', st⟩ := stR X K.hx K.hZ eT A (AV.in (a := a) (ty := ty) hs hj hi) hty S (g := mkF m pc Ls (v :: .int j :: .ref a :: stk)) rfl rfl (hb K.by' hd)
  have W2 := W'; rw [(idx_nat hj).1] at W2
  exact go_by st (k T' h' ⟨_, X', Fr.snoc X' N ge⟩ e' W2 (AV.set A hs hl W2))
theorem go_newarray (K : Ctx p s m meth c Z own nm bytes maxL ret) (X : St p l e R s m args below meth c n0 T cells slots) {aty : ArrayType} (w : (Cond.arrayClass (newarray.typeOf aty)).before a0 Z = true) (eT : T.heap = h) {j : Int32} {i cap : Nat} (hd : decode bytes pc = .ok (.newarray aty, 2)) (hj : j.toInt = (i : Int)) (hcap : i ≤ cap) (hb' : cap * 8 ≤ 536870912) (hp : pc + 2 = pc') (hc' : cells + 1 = cells') (hs' : slots + cap = slots') (hc : cells' ≤ R.cells) (hs : slots' ≤ R.slots)
    (k : ∀ T' h' a, a = h.size → St p l e R s m args below meth c n0 T' cells' slots' → T'.heap = h' → Ext h h' → AV Z h' a (newarray.typeOf aty) (List.replicate i (defaultValue (newarray.typeOf aty))) → Go p e below s R n0 Q (T'.setTop (mkF m pc' Ls (.ref a :: stk)))) : Go p e below s R n0 Q (T.setTop (mkF m pc Ls (.int j :: stk))) := by
  subst hp hc' hs'; obtain ⟨locs, X, N⟩ := X
  obtain ⟨h1, h2⟩ := idx_nat hj
  obtain ⟨T', h', cA, X', e', E', A', st⟩ := newP X K.hx K.hZ w eT (g := mkF m pc Ls (.int j :: stk)) rfl (hb K.by' hd) rfl h2 (cap := cap) (by rw [h1]; exact hcap) hb' hc hs
  refine go_by st (k T' h' _ rfl ⟨_, X', N⟩ e' E' ⟨_, A', ?_, ?_⟩)
  · show Array.replicate _ _ = _
    rw [h1]; simp
  · have := j.toInt_lt; rw [hj] at this; simp; omega

theorem nat32 {n : Nat} (h : n < 2 ^ 31) : n.toInt32.toNatClampNeg = n ∧ ¬ n.toInt32 < 0 := idx_nat (len_toInt h)
theorem AV.toArv {a : Addr} {ty : FieldType} {vs : List Value} (F : AV Z h a ty vs) (hf : ∀ v ∈ vs, fits ty v = true) (dv : Value) : ∃ k, Arv Z h a k ty vs.length.toInt32 vs dv := by
  obtain ⟨cl, A, hs, hl⟩ := F
  have hz : cl.slots.size = vs.length := by rw [hs]; simp
  refine ⟨cl.cls, cl, A, rfl, by rw [hz, (nat32 hl).1], (nat32 hl).2, fun i hi => ?_, fun i hi => ?_⟩
  · rw [hz] at hi
    rw [hs]; simp [List.getD, hi]
  · rw [hz] at hi
    have : vs.getD i dv = vs[i] := by simp [List.getD, hi]
    rw [this]; exact hf _ (List.getElem_mem hi)
theorem Arv.toAV {a : Addr} {k : ClassId} {ty : FieldType} {z : Int32} {vs : List Value} {dv : Value} (F : Arv Z h a k ty z vs dv) (hl : z.toNatClampNeg = vs.length) : AV Z h a ty vs := by
  obtain ⟨cl, A, -, hs, hn, H, -⟩ := F
  refine ⟨cl, A, ?_, ?_⟩
  · apply Array.ext
    · rw [hs, hl]; simp
    · intro i h1 h2
      have := H i h1
      have h3 : i < vs.length := by rw [hs, hl] at h1; exact h1
      rw [Array.getElem?_eq_getElem h1] at this
      have e := Option.some.inj this
      rw [e]; simp [List.getD, h3]
  · rw [← hl]; exact (back32 hn).2
theorem go_newarrayE (K : Ctx p s m meth c Z own nm bytes maxL ret) (X : St p l e R s m args below meth c n0 T cells slots) {aty : ArrayType} {ad : String} (had : "[" ++ (newarray.typeOf aty).toString = ad) (w : (Cond.arrayClass (newarray.typeOf aty)).before a0 Z = true) (eT : T.heap = h) {j : Int32} {i cap : Nat} (hd : decode bytes pc = .ok (.newarray aty, 2)) (hj : j.toInt = (i : Int)) (hcap : i ≤ cap) (hb' : cap * 8 ≤ 536870912) (hp : pc + 2 = pc') (hc' : cells + 1 = cells') (hs' : slots + cap = slots') (hc : cells' ≤ R.cells) (hs : slots' ≤ R.slots)
    (k : ∀ T' h' a, a = h.size → St p l e R s m args below meth c n0 T' cells' slots' → T'.heap = h' → Ext h h' → AV Z h' a (newarray.typeOf aty) (List.replicate i (defaultValue (newarray.typeOf aty))) → Exa Z h' a ad → Go p e below s R n0 Q (T'.setTop (mkF m pc' Ls (.ref a :: stk)))) : Go p e below s R n0 Q (T.setTop (mkF m pc Ls (.int j :: stk))) := by
  subst hp hc' hs'; obtain ⟨locs, X, N⟩ := X
  obtain ⟨h1, h2⟩ := idx_nat hj
  obtain ⟨T', h', cA, X', e', E', A', x', st⟩ := newPE X K.hx K.hZ w eT (g := mkF m pc Ls (.int j :: stk)) rfl (hb K.by' hd) rfl h2 (cap := cap) (by rw [h1]; exact hcap) hb' hc hs had
  refine go_by st (k T' h' _ rfl ⟨_, X', N⟩ e' E' ⟨_, A', ?_, ?_⟩ x')
  · show Array.replicate _ _ = _
    rw [h1]; simp
  · have := j.toInt_lt; rw [hj] at this; simp; omega
theorem go_clone (K : Ctx p s m meth c Z own nm bytes maxL ret) (X : St p l e R s m args below meth c n0 T cells slots) {ad : String} {index : Nat} (w1 : (Cond.methodLink own index ⟨ad, "clone", "()Ljava/lang/Object;"⟩).before a0 Z = true) (w2 : (Cond.sameMethod ad "java/lang/Object" "clone" "()Ljava/lang/Object;").before a0 Z = true) (w3 : (Cond.native ⟨"java/lang/Object", "clone", "()Ljava/lang/Object;"⟩).before a0 Z = true)
    (w4 : (Cond.instanceMethod ⟨"java/lang/Object", "clone", "()Ljava/lang/Object;"⟩).before a0 Z = true) (w5 : (Cond.selects ad ⟨ad, "clone", "()Ljava/lang/Object;"⟩ ⟨"java/lang/Object", "clone", "()Ljava/lang/Object;"⟩).before a0 Z = true) (w6 : (Cond.castable ad "java/lang/Cloneable").before a0 Z = true)
    (eT : T.heap = h) {a : Addr} {ty : FieldType} {vs : List Value} (F : AV Z h a ty vs) (E : Exa Z h a ad) (hfit : ∀ v ∈ vs, fits ty v = true) (hsize : Ls.size = maxL) (hd : decode bytes pc = .ok (.invokevirtual index, 3)) (hp : pc + 3 = pc')
    (hf : 1 ≤ R.frames) {W cap : Nat} (hW : (stk.map fun v => v.category).sum ≤ W) (hl : W + 14 ≤ R.locals) (hcap : vs.length ≤ cap) (hc' : cells + 1 = cells') (hs' : slots + cap = slots') (hc : cells' ≤ R.cells) (hs : slots' ≤ R.slots)
    (k : ∀ T' h' b, b = h.size → St p l e R s m args below meth c n0 T' cells' slots' → T'.heap = h' → Ext h h' → AV Z h' b ty vs → Exa Z h' b ad → Go p e below s R n0 Q (T'.setTop (mkF m pc' Ls (.ref b :: stk)))) : Go p e below s R n0 Q (T.setTop (mkF m pc Ls (.ref a :: stk))) := by
  subst hp hc' hs'; obtain ⟨locs, X, N⟩ := X
  obtain ⟨kk, V⟩ := F.toArv hfit .null
  have hlen := F.len
  obtain ⟨T', h', X', e', E', V', x', st⟩ := cloneH X K.hx K.hZ K.own' w1 w2 w3 w4 w5 w6 eT (Arv.arh V) E (g := mkF m pc Ls (.ref a :: stk)) rfl (by rw [K.ml]; exact hsize) rfl (hb K.by' hd) hf (W := W) (by show 2 * 0 + _ ≤ _; omega) hl (cap := cap) (by rw [(nat32 hlen).1]; exact hcap) hc hs
  exact go_by st (k T' h' _ rfl ⟨_, X', N⟩ e' E' (Arv.toAV V' (nat32 hlen).1) x')
theorem go_arraycopy (K : Ctx p s m meth c Z own nm bytes maxL ret) (X : St p l e R s m args below meth c n0 T cells slots) {index : Nat} (w1 : (Cond.methodLink own index Jvm.Stand.acN).before a0 Z = true) (w2 : (Cond.native Jvm.Stand.acN).before a0 Z = true) (w3 : (Cond.static Jvm.Stand.acN).before a0 Z = true) (w4 : (Cond.initialized "java/lang/System").before a0 Z = true)
    (eT : T.heap = h) {a b : Addr} {ty : FieldType} {vs vd us : List Value} {sp dp nn : Int32} {i j n : Nat} (F : AV Z h a ty vs) (G : AV Z h b ty vd) (hty : refKind ty = false) (hf1 : ∀ v ∈ vs, fits ty v = true) (hf2 : ∀ v ∈ vd, fits ty v = true) (hi : sp.toInt = (i : Int)) (hj : dp.toInt = (j : Int)) (hn : nn.toInt = (n : Int)) (h4 : i + n ≤ vs.length) (h5 : j + n ≤ vd.length) (hus : us = vd.take j ++ (vs.drop i).take n ++ vd.drop (j + n)) (ge : n0 ≤ b) (hsize : Ls.size = maxL) (hd : decode bytes pc = .ok (.invokestatic index, 3)) (hp : pc + 3 = pc')
    (hf : 1 ≤ R.frames) {W : Nat} (hW : (stk.map fun v => v.category).sum ≤ W) (hlo : W + (nativeFrameWords "java/lang/System" "arraycopy" 5 + 11) ≤ R.locals)
    (k : ∀ T' h', St p l e R s m args below meth c n0 T' cells slots → T'.heap = h' → Keep h h' [b] → AV Z h' b ty us → Go p e below s R n0 Q (T'.setTop (mkF m pc' Ls stk))) : Go p e below s R n0 Q (T.setTop (mkF m pc Ls (.int nn :: .int dp :: .ref b :: .int sp :: .ref a :: stk))) := by
  subst hp; obtain ⟨locs, X, N⟩ := X
  obtain ⟨k1, V1⟩ := F.toArv hf1 .null
  obtain ⟨k2, V2⟩ := G.toArv hf2 .null
  obtain ⟨i1, i2⟩ := idx_nat hi
  obtain ⟨j1, j2⟩ := idx_nat hj
  obtain ⟨n1, n2⟩ := idx_nat hn
  have l1 := (nat32 F.len).1
  have l2 := (nat32 G.len).1
  have e3 : (List.range n).map (fun q => vs.getD (i + q) .null) = (vs.drop i).take n := by
    apply List.ext_getElem
    · simp; omega
    · intro q h6 h7
      have : q < n := by simpa using h6
      have h8 : i + q < vs.length := by omega
      simp [List.getD, h8]
  obtain ⟨T', h', L', X', e', N', KK, V', st⟩ := cpA X K.hx K.hZ K.own' w1 w2 w3 w4 eT V1 V2 (Or.inl ⟨rfl, hty⟩) i2 j2 n2 (by rw [i1, n1, l1]; exact h4) (by rw [j1, n1, l2]; exact h5) rfl (by rw [j1, n1]; exact h5) N ge (g := mkF m pc Ls (.int nn :: .int dp :: .ref b :: .int sp :: .ref a :: stk)) rfl (by rw [K.ml]; exact hsize) rfl (hb K.by' hd) hf (W := W) (by show 2 * 0 + _ ≤ _; omega) hlo
  rw [i1, j1, n1, e3, ← hus] at V'
  have hl : us.length = vd.length := by rw [hus]; simp; omega
  exact go_by st (k T' h' ⟨_, X', N'⟩ e' KK (Arv.toAV V' (by rw [l2, hl])))

/-! ## calls: the callee's contract pays -/
theorem go_static (K : Ctx p s m meth c Z own nm bytes maxL ret) (X : St p l e R s m args below meth c n0 T cells slots) {index : Nat} {y : MethodName} {bytes' : ByteArray} {maxL' : Nat} {ret' : Option FieldType} {rm : Room} {Q' : Option Value → Heap → Prop} {argsL st0 : List Value}
    (w1 : (Cond.methodLink own index y).before a0 Z = true) (w2 : (Cond.static y).before a0 Z = true) (w3 : (Cond.initialized y.cls).before a0 Z = true) (w4 : (Cond.code y bytes' maxL' ret').before a0 Z = true) (hy : y.cls ≠ "java/lang/invoke/MethodHandle" ∧ y.cls ≠ "java/lang/invoke/VarHandle")
    (hlen : ∀ sig, parseMethodDescriptor y.desc = some sig → argsL.length = sig.parameters.length) (eT : T.heap = h) (C : Con l Z n0 y bytes' maxL' ret' rm argsL.toArray h Q') (hst : st0 = argsL.reverse ++ stk) (hsize : Ls.size = maxL) (hd : decode bytes pc = .ok (.invokestatic index, 3)) (hp : pc + 3 = pc')
    (hf : rm.frames + 1 ≤ R.frames) {W : Nat} (hW : (stk.map fun v => v.category).sum ≤ W) (hl : W + (maxL' + 11) + rm.locals ≤ R.locals) (hc' : cells + rm.cells = cells') (hs' : slots + rm.slots = slots') (hc : cells' ≤ R.cells) (hs : slots' ≤ R.slots)
    (k : ∀ T' h' v, St p l e R s m args below meth c n0 T' cells' slots' → T'.heap = h' → Q' v h' → Go p e below s R n0 Q (T'.setTop (mkF m pc' Ls (v.toList ++ stk)))) : Go p e below s R n0 Q (T.setTop (mkF m pc Ls st0)) := by
  subst hp hc' hs' hst; obtain ⟨locs, X, N⟩ := X
  obtain ⟨_, _, ⟨T1, L1, k1, n1⟩, -, X1, ⟨Lc1, hQ1, l1, y1, z1⟩, st1⟩ := Jvm.LawKit.callS X K.hx K.own' (mvT K.hZ w1) (mvT K.hZ w2) (mvT K.hZ w3) (mvT K.hZ w4) hy (backOf (W := W) (Q := fun v u L => Q' v u ∧ Fr n0 L) (C []) K.hZ w4 w3 hf hl) (g := mkF m pc Ls (argsL.reverse ++ stk)) rfl (by rw [K.ml]; exact hsize) (argsL := argsL) (rest := stk) hlen rfl (by show 2 * 0 + _ ≤ _; omega) (hb K.by' hd) (fun _ _ => ⟨rfl, eT, hc, hs⟩)
  dsimp only [Pt.U, Pt.locs, Pt.cells, Pt.slots] at X1 l1 y1 z1 st1 hQ1
  subst l1 y1 z1
  exact go_by st1 (k T1 _ _ ⟨_, X1, Fr.app N hQ1.2⟩ rfl hQ1.1)

theorem go_init (K : Ctx p s m meth c Z own nm bytes maxL ret) (X : St p l e R s m args below meth c n0 T cells slots) {index : Nat} {y : MethodName} {bytes' : ByteArray} {maxL' : Nat} {rm : Room} {Q' : Option Value → Heap → Prop} {a : Addr} {argsL st0 : List Value}
    (w1 : (Cond.methodLink own index y).before a0 Z = true) (w2 : (Cond.instanceMethod y).before a0 Z = true) (w3 : (Cond.initialized y.cls).before a0 Z = true) (w4 : (Cond.code y bytes' maxL' none).before a0 Z = true) (hy : y.cls ≠ "java/lang/invoke/MethodHandle" ∧ y.cls ≠ "java/lang/invoke/VarHandle") (hi : y.name = "<init>")
    (hlen : ∀ sig, parseMethodDescriptor y.desc = some sig → argsL.length = sig.parameters.length) (eT : T.heap = h) (C : Con l Z n0 y bytes' maxL' none rm (.ref a :: argsL).toArray h Q') (hst : st0 = argsL.reverse ++ .ref a :: stk) (hsize : Ls.size = maxL) (hd : decode bytes pc = .ok (.invokespecial index, 3)) (hp : pc + 3 = pc')
    (hf : rm.frames + 1 ≤ R.frames) {W : Nat} (hW : (stk.map fun v => v.category).sum ≤ W) (hl : W + (maxL' + 11) + rm.locals ≤ R.locals) (hc' : cells + rm.cells = cells') (hs' : slots + rm.slots = slots') (hc : cells' ≤ R.cells) (hs : slots' ≤ R.slots)
    (k : ∀ T' h' v, St p l e R s m args below meth c n0 T' cells' slots' → T'.heap = h' → Q' v h' → Go p e below s R n0 Q (T'.setTop (mkF m pc' Ls (v.toList ++ stk)))) : Go p e below s R n0 Q (T.setTop (mkF m pc Ls st0)) := by
  subst hp hc' hs' hst; obtain ⟨locs, X, N⟩ := X
  obtain ⟨_, _, ⟨T1, L1, k1, n1⟩, -, X1, ⟨Lc1, hQ1, l1, y1, z1⟩, st1⟩ := X.specialBack K.hx hi K.own' (mvT K.hZ w1) (mvT K.hZ w2) (mvT K.hZ w4) hy (backOf (W := W) (Q := fun v u L => Q' v u ∧ Fr n0 L) (C []) K.hZ w4 w3 hf hl) (g := mkF m pc Ls (argsL.reverse ++ .ref a :: stk)) rfl (by rw [K.ml]; exact hsize) (Steps.refl _) (a := a) (argsL := argsL) (rest := stk) hlen rfl (by show 2 * 0 + _ ≤ _; omega) (hb K.by' hd) (fun _ _ => ⟨rfl, eT, hc, hs⟩)
  dsimp only [Pt.U, Pt.locs, Pt.cells, Pt.slots] at X1 l1 y1 z1 st1 hQ1
  subst l1 y1 z1
  exact go_by (fun t k => st1.trans k) (k T1 _ _ ⟨_, X1, Fr.app N hQ1.2⟩ rfl hQ1.1)

theorem go_virt (K : Ctx p s m meth c Z own nm bytes maxL ret) (X : St p l e R s m args below meth c n0 T cells slots) {C : String} {index : Nat} {y z : MethodName} {bytes' : ByteArray} {maxL' : Nat} {ret' : Option FieldType} {rm : Room} {Q' : Option Value → Heap → Prop} {a : Addr} {argsL st0 : List Value}
    (w1 : (Cond.methodLink own index y).before a0 Z = true) (w2 : (Cond.declares y).before a0 Z = true) (wn : (Cond.selects y.cls y y).before a0 Z = true) (w3 : (Cond.selects C y z).before a0 Z = true) (w4 : (Cond.instanceMethod z).before a0 Z = true) (w5 : (Cond.code z bytes' maxL' ret').before a0 Z = true) (w6 : (Cond.initialized z.cls).before a0 Z = true) (hy : y.cls ≠ "java/lang/invoke/MethodHandle" ∧ y.cls ≠ "java/lang/invoke/VarHandle")
    (hlen : ∀ sig, parseMethodDescriptor y.desc = some sig → argsL.length = sig.parameters.length) (eT : T.heap = h) (E : Exa Z h a C) (C0 : Con l Z n0 z bytes' maxL' ret' rm (.ref a :: argsL).toArray h Q') (hst : st0 = argsL.reverse ++ .ref a :: stk) (hsize : Ls.size = maxL) (hd : decode bytes pc = .ok (.invokevirtual index, 3)) (hp : pc + 3 = pc')
    (hf : rm.frames + 1 ≤ R.frames) {W : Nat} (hW : (stk.map fun v => v.category).sum ≤ W) (hl : W + (maxL' + 11) + rm.locals ≤ R.locals) (hc' : cells + rm.cells = cells') (hs' : slots + rm.slots = slots') (hc : cells' ≤ R.cells) (hs : slots' ≤ R.slots)
    (k : ∀ T' h' v, St p l e R s m args below meth c n0 T' cells' slots' → T'.heap = h' → Q' v h' → Go p e below s R n0 Q (T'.setTop (mkF m pc' Ls (v.toList ++ stk)))) : Go p e below s R n0 Q (T.setTop (mkF m pc Ls st0)) := by
  subst hp hc' hs' hst; obtain ⟨locs, X, N⟩ := X
  obtain ⟨cq, kq, qa, qb, qc⟩ := isOf K.hZ eT E
  obtain ⟨_, _, ⟨T1, L1, k1, n1⟩, -, X1, ⟨Lc1, hQ1, l1, y1, z1⟩, st1⟩ := X.virtualBack K.hx K.own' (mvT K.hZ w1) (mvT K.hZ w2) (notFace_of_selects (args := #[]) (mvT K.hZ wn)) (mvT K.hZ w3) (mvT K.hZ w4) hy (backOf (W := W) (Q := fun v u L => Q' v u ∧ Fr n0 L) (C0 []) K.hZ w5 w6 hf hl) qa qc (g := mkF m pc Ls (argsL.reverse ++ .ref a :: stk)) rfl (by rw [K.ml]; exact hsize) (Steps.refl _) (argsL := argsL) (rest := stk) hlen rfl (by show 2 * 0 + _ ≤ _; omega) (hb K.by' hd) (fun _ _ => ⟨rfl, eT, hc, hs⟩)
  dsimp only [Pt.U, Pt.locs, Pt.cells, Pt.slots] at X1 l1 y1 z1 st1 hQ1
  subst l1 y1 z1
  exact go_by (fun t k => st1.trans k) (k T1 _ _ ⟨_, X1, Fr.app N hQ1.2⟩ rfl hQ1.1)

theorem go_face (K : Ctx p s m meth c Z own nm bytes maxL ret) (X : St p l e R s m args below meth c n0 T cells slots) {C : String} {index count : Nat} {y z : MethodName} {bytes' : ByteArray} {maxL' : Nat} {ret' : Option FieldType} {rm : Room} {Q' : Option Value → Heap → Prop} {a : Addr} {argsL st0 : List Value}
    (w1 : (Cond.methodLink own index y).before a0 Z = true) (w2 : (Cond.declares y).before a0 Z = true) (w7 : (Cond.interfaceMethod y.cls y.cls y.name y.desc).before a0 Z = true) (w3 : (Cond.selects C y z).before a0 Z = true) (w4 : (Cond.instanceMethod z).before a0 Z = true) (w8 : (Cond.publicMethod z).before a0 Z = true) (w9 : (Cond.unhidden C y.name y.desc).before a0 Z = true) (w10 : (Cond.castable C y.cls).before a0 Z = true) (w5 : (Cond.code z bytes' maxL' ret').before a0 Z = true) (w6 : (Cond.initialized z.cls).before a0 Z = true) (hy : y.cls ≠ "java/lang/invoke/MethodHandle" ∧ y.cls ≠ "java/lang/invoke/VarHandle")
    (hlen : ∀ sig, parseMethodDescriptor y.desc = some sig → argsL.length = sig.parameters.length) (eT : T.heap = h) (E : Exa Z h a C) (C0 : Con l Z n0 z bytes' maxL' ret' rm (.ref a :: argsL).toArray h Q') (hst : st0 = argsL.reverse ++ .ref a :: stk) (hsize : Ls.size = maxL) (hd : decode bytes pc = .ok (.invokeinterface index count, 5)) (hp : pc + 5 = pc')
    (hf : rm.frames + 1 ≤ R.frames) {W : Nat} (hW : (stk.map fun v => v.category).sum ≤ W) (hl : W + (maxL' + 11) + rm.locals ≤ R.locals) (hc' : cells + rm.cells = cells') (hs' : slots + rm.slots = slots') (hc : cells' ≤ R.cells) (hs : slots' ≤ R.slots)
    (k : ∀ T' h' v, St p l e R s m args below meth c n0 T' cells' slots' → T'.heap = h' → Q' v h' → Go p e below s R n0 Q (T'.setTop (mkF m pc' Ls (v.toList ++ stk)))) : Go p e below s R n0 Q (T.setTop (mkF m pc Ls st0)) := by
  subst hp hc' hs' hst; obtain ⟨locs, X, N⟩ := X
  obtain ⟨cq, kq, qa, qb, qc⟩ := isOf K.hZ eT E
  obtain ⟨_, _, ⟨T1, L1, k1, n1⟩, -, X1, ⟨Lc1, hQ1, l1, y1, z1⟩, st1⟩ := X.interfaceBack K.hx K.own' (mvT K.hZ w1) (mvT K.hZ w2) (mvT K.hZ w7 (by simp [Cond.onTables, Cond.keepsFace, Cond.keeps, Cond.steady, Cond.faceAtom, hy.1, hy.2])) (mvT K.hZ w3) (mvT K.hZ w4) (mvT K.hZ w8) (mvT K.hZ w9) (mvT K.hZ w10) hy (backOf (W := W) (Q := fun v u L => Q' v u ∧ Fr n0 L) (C0 []) K.hZ w5 w6 hf hl) qa qb qc (g := mkF m pc Ls (argsL.reverse ++ .ref a :: stk)) rfl (by rw [K.ml]; exact hsize) (Steps.refl _) (argsL := argsL) (rest := stk) hlen rfl (by show 2 * 0 + _ ≤ _; omega) (hb K.by' hd) (fun _ _ => ⟨rfl, eT, hc, hs⟩)
  dsimp only [Pt.U, Pt.locs, Pt.cells, Pt.slots] at X1 l1 y1 z1 st1 hQ1
  subst l1 y1 z1
  exact go_by (fun t k => st1.trans k) (k T1 _ _ ⟨_, X1, Fr.app N hQ1.2⟩ rfl hQ1.1)

end OwnKit

def own_holdN (bits n sg : Int32) : Int32 := if sg = 0 then (if n < bits then 1 else 0) else (if bits < n then 0 else 1)
def own_holdL (bits n sg : Int32) : Int32 := if sg = 0 ∧ n = 64 then 1 else own_holdN bits n sg
def own_list64 : List Int32 := (List.range 64).map fun i => Int32.ofNat (i + 1)
theorem own_in64 {x n : Int32} (h : (x &&& 63) + 1 = n) : n ∈ own_list64 := by
  have m := c_mask x 63 6 (by omega) (by decide)
  have h2 : (2 ^ 6 : Nat) = 64 := by decide
  rw [h2] at m
  refine List.mem_map.mpr ⟨(x &&& 63).toInt.toNat, List.mem_range.mpr (by omega), ?_⟩
  have h1 : (1 : Int32).toInt = 1 := by decide
  apply Int32.toInt_inj.mp
  rw [← h, XT.add32 (by rw [h1]; constructor <;> omega), h1, Int32.toInt_ofNat_of_lt (by omega)]
  omega
theorem own_fld {args : Array Value} {s : State} {t : Term} {C n d : String} {k : Int32} {a : Addr} (ht : t.eval args s none [] s = some (.ref a)) (h : (Jvm.Cond.eq (Term.field t C n d) (Term.int k)).value args s none s [] = some true) : Fld s s.heap a C n d (.int k) := by
  obtain ⟨x, y, h1, h2, -, kin⟩ := cmp_v (Or.inl h)
  cases h2
  obtain ⟨z, rfl⟩ := kin
  have e : z = k := by
    have h2 : (Term.int k).eval args s none [] s = some (.int k) := rfl
    simp only [Cond.value, h1, h2] at h
    simpa using h
  subst e
  rw [fld_at ht] at h1
  exact Fld.start h1

theorem d1_0 : decode prog_58_method_5_code 0 = .ok (.aload_n 0, 1) := by decide +kernel
theorem d1_1 : decode prog_58_method_5_code 1 = .ok (.getstatic 13, 3) := by decide +kernel
theorem d1_4 : decode prog_58_method_5_code 4 = .ok (.if_acmp .ne 15, 3) := by decide +kernel
theorem d1_7 : decode prog_58_method_5_code 7 = .ok (.iload_n 2, 1) := by decide +kernel
theorem d1_8 : decode prog_58_method_5_code 8 = .ok (.ifCond .ne 11, 3) := by decide +kernel
theorem d1_19 : decode prog_58_method_5_code 19 = .ok (.iload_n 2, 1) := by decide +kernel
theorem d1_20 : decode prog_58_method_5_code 20 = .ok (.ifCond .eq 19, 3) := by decide +kernel
theorem d1_23 : decode prog_58_method_5_code 23 = .ok (.iload_n 1, 1) := by decide +kernel
theorem d1_24 : decode prog_58_method_5_code 24 = .ok (.aload_n 0, 1) := by decide +kernel
theorem d1_25 : decode prog_58_method_5_code 25 = .ok (.getfield 38, 3) := by decide +kernel
theorem d1_28 : decode prog_58_method_5_code 28 = .ok (.if_icmp .gt 7, 3) := by decide +kernel
theorem d1_35 : decode prog_58_method_5_code 35 = .ok (.iconst 0, 1) := by decide +kernel
theorem d1_36 : decode prog_58_method_5_code 36 = .ok (.goto 16, 3) := by decide +kernel
theorem d1_52 : decode prog_58_method_5_code 52 = .ok (.ireturn, 1) := by decide +kernel
theorem d1_31 : decode prog_58_method_5_code 31 = .ok (.iconst 1, 1) := by decide +kernel
theorem d1_32 : decode prog_58_method_5_code 32 = .ok (.goto 20, 3) := by decide +kernel
theorem d1_11 : decode prog_58_method_5_code 11 = .ok (.iload_n 1, 1) := by decide +kernel
theorem d1_12 : decode prog_58_method_5_code 12 = .ok (.bipush 64, 2) := by decide +kernel
theorem d1_14 : decode prog_58_method_5_code 14 = .ok (.if_icmp .ne 5, 3) := by decide +kernel
theorem d1_39 : decode prog_58_method_5_code 39 = .ok (.iload_n 1, 1) := by decide +kernel
theorem d1_40 : decode prog_58_method_5_code 40 = .ok (.aload_n 0, 1) := by decide +kernel
theorem d1_41 : decode prog_58_method_5_code 41 = .ok (.getfield 38, 3) := by decide +kernel
theorem d1_44 : decode prog_58_method_5_code 44 = .ok (.if_icmp .ge 7, 3) := by decide +kernel
theorem d1_51 : decode prog_58_method_5_code 51 = .ok (.iconst 0, 1) := by decide +kernel
theorem d1_47 : decode prog_58_method_5_code 47 = .ok (.iconst 1, 1) := by decide +kernel
theorem d1_48 : decode prog_58_method_5_code 48 = .ok (.goto 4, 3) := by decide +kernel
theorem d1_17 : decode prog_58_method_5_code 17 = .ok (.iconst 1, 1) := by decide +kernel
theorem d1_18 : decode prog_58_method_5_code 18 = .ok (.ireturn, 1) := by decide +kernel
theorem pn_com_example_bytemold_bytemold_IntBits_JavaType : plainName "com/example/bytemold/bytemold/IntBits$JavaType" = true := by first | (simp [plainName, overriddenIn]; done) | decide +kernel
theorem ef_rmHoldL (m : MethodId) (aL : Addr) (p2 : Int32) (p3 : Int32) : entryFrame m #[(.ref aL), (.int p2), (.int p3)] 3 = mkF m 0 #[.val (.ref aL), .val (.int p2), .val (.int p3)] [] := by first | (simp [entryFrame, mkF, argsToLocals, Value.category]; done) | rfl
def Q_rmHoldL (Z : State) (n0 : Nat) (aL : Addr) (p2 : Int32) (p3 : Int32) (p4 : Int32) (h0 : Heap) (v : Option Value) (h : Heap) : Prop := v = some (.int (own_holdL p4 p2 p3)) ∧ h = h0
abbrev R_rmHoldL : Room := { frames := 0, cells := 0, slots := 0, locals := 0 }
set_option maxRecDepth 65536 in
set_option maxHeartbeats 40000000 in
theorem rmHoldL {l : Launch} {Z : State} {n0 : Nat} {a0 : Array Value} (hw : ∀ d ∈ tables_1, d.before a0 Z = true) (aL : Addr) (p2 : Int32) (p3 : Int32) (p4 : Int32) (h0 : Heap) (H0 : Sta Z h0 "com/example/bytemold/bytemold/IntBits$JavaType" "LONG" "Lcom/example/bytemold/bytemold/IntBits$JavaType;" (.ref aL)) (H1 : Fld Z h0 aL "com/example/bytemold/bytemold/IntBits$JavaType" "bits" "I" (.int p4)) :
    Con l Z n0 (⟨"com/example/bytemold/bytemold/IntBits$JavaType", "holds", "(IZ)Z"⟩ : MethodName) prog_58_method_5_code 3 (some .boolean) R_rmHoldL #[(.ref aL), (.int p2), (.int p3)] h0 (Q_rmHoldL Z n0 aL p2 p3 p4 h0) := by
  refine con_of (plainFor_of_name pn_com_example_bytemold_bytemold_IntBits_JavaType) ?_
  intro p e s m below meth c T0 K X0 e0
  replace K : Ctx p s m meth c Z "com/example/bytemold/bytemold/IntBits$JavaType" "holds" prog_58_method_5_code 3 (some .boolean) := K
  refine go_entry (ef_rmHoldL m aL p2 p3) ?_
  refine go_aloadN K X0 d1_0 rfl rfl rfl ?_
  refine go_getS K X0 (host := "") (Or.inl (wd hw 11 rfl)) Via.refl e0 H0 d1_1 rfl ?_
  intro T1 X1 e1
  refine go_acmpF K X1 d1_4 rfl rfl rfl (XT.aa_ne_f rfl) ?_
  refine go_iloadN K X1 d1_7 rfl rfl ?_
  refine go_if K X1 d1_8 (by decide) rfl rfl ?_ ?_
  · intro (hc2 : ¬ p3 = (0 : Int32))
    refine go_iloadN K X1 d1_19 rfl rfl ?_
    refine go_ifF K X1 d1_20 rfl (hc2 : ¬ p3 = (0 : Int32)) ?_
    refine go_iloadN K X1 d1_23 rfl rfl ?_
    refine go_aloadN K X1 d1_24 rfl rfl rfl ?_
    refine go_getF K X1 (host := "") (Or.inl (wd hw 13 rfl)) Via.refl e1 H1 d1_25 rfl ?_
    intro T3 X3 e3
    refine go_icmp K X3 d1_28 (by decide) rfl rfl ?_ ?_
    · intro (hc4 : p4 < p2)
      refine go_iconst K X3 (0 : Int32) d1_35 rfl rfl ?_
      refine go_goto K X3 d1_36 (by decide) rfl ?_
      refine go_retZ K X3 (Or.inl rfl) d1_52 (by decide) (by decide) ?_
      rw [e3]
      exact ⟨(by simp [own_holdL, own_holdN, hc2, hc2, hc4]), rfl⟩
    · intro (hc4 : ¬ p4 < p2)
      refine go_iconst K X3 (1 : Int32) d1_31 rfl rfl ?_
      refine go_goto K X3 d1_32 (by decide) rfl ?_
      refine go_retZ K X3 (Or.inr rfl) d1_52 (by decide) (by decide) ?_
      rw [e3]
      exact ⟨(by simp [own_holdL, own_holdN, hc2, hc2, hc4]), rfl⟩
  · intro (hc2 : p3 = (0 : Int32))
    refine go_iloadN K X1 d1_11 rfl rfl ?_
    refine go_bipush K X1 (64 : Int32) d1_12 rfl rfl ?_
    refine go_icmp K X1 d1_14 (by decide) rfl rfl ?_ ?_
    · intro (hc5 : ¬ p2 = (64 : Int32))
      refine go_iloadN K X1 d1_19 rfl rfl ?_
      refine go_ifT K X1 d1_20 (by decide) rfl (hc2 : p3 = (0 : Int32)) ?_
      refine go_iloadN K X1 d1_39 rfl rfl ?_
      refine go_aloadN K X1 d1_40 rfl rfl rfl ?_
      refine go_getF K X1 (host := "") (Or.inl (wd hw 13 rfl)) Via.refl e1 H1 d1_41 rfl ?_
      intro T6 X6 e6
      refine go_icmp K X6 d1_44 (by decide) rfl rfl ?_ ?_
      · intro (hc7 : ¬ p2 < p4)
        refine go_iconst K X6 (0 : Int32) d1_51 rfl rfl ?_
        refine go_retZ K X6 (Or.inl rfl) d1_52 (by decide) (by decide) ?_
        rw [e6]
        exact ⟨(by simp [own_holdL, own_holdN, hc2, hc5, hc2, hc7]), rfl⟩
      · intro (hc7 : p2 < p4)
        refine go_iconst K X6 (1 : Int32) d1_47 rfl rfl ?_
        refine go_goto K X6 d1_48 (by decide) rfl ?_
        refine go_retZ K X6 (Or.inr rfl) d1_52 (by decide) (by decide) ?_
        rw [e6]
        exact ⟨(by simp [own_holdL, own_holdN, hc2, hc5, hc2, hc7]), rfl⟩
    · intro (hc5 : p2 = (64 : Int32))
      refine go_iconst K X1 (1 : Int32) d1_17 rfl rfl ?_
      refine go_retZ K X1 (Or.inr rfl) d1_18 (by decide) (by decide) ?_
      rw [e1]
      exact ⟨(by simp [own_holdL, own_holdN, hc2, hc5]), rfl⟩
theorem ef_rmHoldN (m : MethodId) (a1 : Addr) (p2 : Int32) (p3 : Int32) : entryFrame m #[(.ref a1), (.int p2), (.int p3)] 3 = mkF m 0 #[.val (.ref a1), .val (.int p2), .val (.int p3)] [] := by first | (simp [entryFrame, mkF, argsToLocals, Value.category]; done) | rfl
def Q_rmHoldN (Z : State) (n0 : Nat) (a1 : Addr) (p2 : Int32) (p3 : Int32) (aL : Addr) (p4 : Int32) (h0 : Heap) (v : Option Value) (h : Heap) : Prop := v = some (.int (own_holdN p4 p2 p3)) ∧ h = h0
abbrev R_rmHoldN : Room := { frames := 0, cells := 0, slots := 0, locals := 0 }
set_option maxRecDepth 65536 in
set_option maxHeartbeats 40000000 in
theorem rmHoldN {l : Launch} {Z : State} {n0 : Nat} {a0 : Array Value} (hw : ∀ d ∈ tables_1, d.before a0 Z = true) (a1 : Addr) (p2 : Int32) (p3 : Int32) (aL : Addr) (p4 : Int32) (h0 : Heap) (H0 : Sta Z h0 "com/example/bytemold/bytemold/IntBits$JavaType" "LONG" "Lcom/example/bytemold/bytemold/IntBits$JavaType;" (.ref aL)) (H1 : Fld Z h0 a1 "com/example/bytemold/bytemold/IntBits$JavaType" "bits" "I" (.int p4)) (H2 : ¬ Value.ref a1 = Value.ref aL) :
    Con l Z n0 (⟨"com/example/bytemold/bytemold/IntBits$JavaType", "holds", "(IZ)Z"⟩ : MethodName) prog_58_method_5_code 3 (some .boolean) R_rmHoldN #[(.ref a1), (.int p2), (.int p3)] h0 (Q_rmHoldN Z n0 a1 p2 p3 aL p4 h0) := by
  refine con_of (plainFor_of_name pn_com_example_bytemold_bytemold_IntBits_JavaType) ?_
  intro p e s m below meth c T0 K X0 e0
  replace K : Ctx p s m meth c Z "com/example/bytemold/bytemold/IntBits$JavaType" "holds" prog_58_method_5_code 3 (some .boolean) := K
  refine go_entry (ef_rmHoldN m a1 p2 p3) ?_
  refine go_aloadN K X0 d1_0 rfl rfl rfl ?_
  refine go_getS K X0 (host := "") (Or.inl (wd hw 11 rfl)) Via.refl e0 H0 d1_1 rfl ?_
  intro T8 X8 e8
  refine go_acmpT K X8 d1_4 (by decide) rfl rfl rfl (XT.aa_ne_t H2) ?_
  refine go_iloadN K X8 d1_19 rfl rfl ?_
  refine go_if K X8 d1_20 (by decide) rfl rfl ?_ ?_
  · intro (hc9 : p3 = (0 : Int32))
    refine go_iloadN K X8 d1_39 rfl rfl ?_
    refine go_aloadN K X8 d1_40 rfl rfl rfl ?_
    refine go_getF K X8 (host := "") (Or.inl (wd hw 13 rfl)) Via.refl e8 H1 d1_41 rfl ?_
    intro T10 X10 e10
    refine go_icmp K X10 d1_44 (by decide) rfl rfl ?_ ?_
    · intro (hc11 : ¬ p2 < p4)
      refine go_iconst K X10 (0 : Int32) d1_51 rfl rfl ?_
      refine go_retZ K X10 (Or.inl rfl) d1_52 (by decide) (by decide) ?_
      rw [e10]
      exact ⟨(by simp [own_holdL, own_holdN, hc9, hc11]), rfl⟩
    · intro (hc11 : p2 < p4)
      refine go_iconst K X10 (1 : Int32) d1_47 rfl rfl ?_
      refine go_goto K X10 d1_48 (by decide) rfl ?_
      refine go_retZ K X10 (Or.inr rfl) d1_52 (by decide) (by decide) ?_
      rw [e10]
      exact ⟨(by simp [own_holdL, own_holdN, hc9, hc11]), rfl⟩
  · intro (hc9 : ¬ p3 = (0 : Int32))
    refine go_iloadN K X8 d1_23 rfl rfl ?_
    refine go_aloadN K X8 d1_24 rfl rfl rfl ?_
    refine go_getF K X8 (host := "") (Or.inl (wd hw 13 rfl)) Via.refl e8 H1 d1_25 rfl ?_
    intro T12 X12 e12
    refine go_icmp K X12 d1_28 (by decide) rfl rfl ?_ ?_
    · intro (hc13 : p4 < p2)
      refine go_iconst K X12 (0 : Int32) d1_35 rfl rfl ?_
      refine go_goto K X12 d1_36 (by decide) rfl ?_
      refine go_retZ K X12 (Or.inl rfl) d1_52 (by decide) (by decide) ?_
      rw [e12]
      exact ⟨(by simp [own_holdL, own_holdN, hc9, hc13]), rfl⟩
    · intro (hc13 : ¬ p4 < p2)
      refine go_iconst K X12 (1 : Int32) d1_31 rfl rfl ?_
      refine go_goto K X12 d1_32 (by decide) rfl ?_
      refine go_retZ K X12 (Or.inr rfl) d1_52 (by decide) (by decide) ?_
      rw [e12]
      exact ⟨(by simp [own_holdL, own_holdN, hc9, hc13]), rfl⟩
theorem pd_0 : parseMethodDescriptor "(IZ)Z" = some ⟨[.int, .boolean], some .boolean⟩ := by decide +kernel
theorem own_path1 : ∀ n ∈ own_list64, (own_holdN (2147483647 : Int32) n (0 : Int32)) = (1 : Int32) := by decide +kernel
theorem own_path2 : ∀ n ∈ own_list64, ¬ n = (64 : Int32) → (0 : Int64) < (-9223372036854775808 : Int64) → (own_holdL (64 : Int32) n (0 : Int32)) = (0 : Int32) := by decide +kernel
theorem own_path3 : ∀ n ∈ own_list64, ¬ n = (64 : Int32) → ¬ (0 : Int64) < (-9223372036854775808 : Int64) → (9223372036854775807 : Int64) < (((1 : Int64) <<< (n &&& 0x3f).toInt64) - (1 : Int64)) → (own_holdL (64 : Int32) n (0 : Int32)) = (0 : Int32) := by decide +kernel
theorem own_path4 : ∀ n ∈ own_list64, ¬ n = (64 : Int32) → ¬ (0 : Int64) < (-9223372036854775808 : Int64) → ¬ (9223372036854775807 : Int64) < (((1 : Int64) <<< (n &&& 0x3f).toInt64) - (1 : Int64)) → (own_holdL (64 : Int32) n (0 : Int32)) = (1 : Int32) := by decide +kernel
theorem own_path5 : ∀ n ∈ own_list64, n = (64 : Int32) → (own_holdL (64 : Int32) n (0 : Int32)) = (1 : Int32) := by decide +kernel
theorem own_path6 : ∀ n ∈ own_list64, ¬ n = (64 : Int32) → (0 : Int64) < (-2147483648 : Int64) → (own_holdN (32 : Int32) n (0 : Int32)) = (0 : Int32) := by decide +kernel
theorem own_path7 : ∀ n ∈ own_list64, ¬ n = (64 : Int32) → ¬ (0 : Int64) < (-2147483648 : Int64) → (2147483647 : Int64) < (((1 : Int64) <<< (n &&& 0x3f).toInt64) - (1 : Int64)) → (own_holdN (32 : Int32) n (0 : Int32)) = (0 : Int32) := by decide +kernel
theorem own_path8 : ∀ n ∈ own_list64, ¬ n = (64 : Int32) → ¬ (0 : Int64) < (-2147483648 : Int64) → ¬ (2147483647 : Int64) < (((1 : Int64) <<< (n &&& 0x3f).toInt64) - (1 : Int64)) → (own_holdN (32 : Int32) n (0 : Int32)) = (1 : Int32) := by decide +kernel
theorem own_path9 : ∀ n ∈ own_list64, n = (64 : Int32) → (own_holdN (32 : Int32) n (0 : Int32)) = (0 : Int32) := by decide +kernel
theorem own_path10 : ∀ n ∈ own_list64, ¬ n = (64 : Int32) → (0 : Int64) < (-32768 : Int64) → (own_holdN (16 : Int32) n (0 : Int32)) = (0 : Int32) := by decide +kernel
theorem own_path11 : ∀ n ∈ own_list64, ¬ n = (64 : Int32) → ¬ (0 : Int64) < (-32768 : Int64) → (32767 : Int64) < (((1 : Int64) <<< (n &&& 0x3f).toInt64) - (1 : Int64)) → (own_holdN (16 : Int32) n (0 : Int32)) = (0 : Int32) := by decide +kernel
theorem own_path12 : ∀ n ∈ own_list64, ¬ n = (64 : Int32) → ¬ (0 : Int64) < (-32768 : Int64) → ¬ (32767 : Int64) < (((1 : Int64) <<< (n &&& 0x3f).toInt64) - (1 : Int64)) → (own_holdN (16 : Int32) n (0 : Int32)) = (1 : Int32) := by decide +kernel
theorem own_path13 : ∀ n ∈ own_list64, n = (64 : Int32) → (own_holdN (16 : Int32) n (0 : Int32)) = (0 : Int32) := by decide +kernel
theorem own_path14 : ∀ n ∈ own_list64, ¬ n = (64 : Int32) → (0 : Int64) < (-128 : Int64) → (own_holdN (8 : Int32) n (0 : Int32)) = (0 : Int32) := by decide +kernel
theorem own_path15 : ∀ n ∈ own_list64, ¬ n = (64 : Int32) → ¬ (0 : Int64) < (-128 : Int64) → (127 : Int64) < (((1 : Int64) <<< (n &&& 0x3f).toInt64) - (1 : Int64)) → (own_holdN (8 : Int32) n (0 : Int32)) = (0 : Int32) := by decide +kernel
theorem own_path16 : ∀ n ∈ own_list64, ¬ n = (64 : Int32) → ¬ (0 : Int64) < (-128 : Int64) → ¬ (127 : Int64) < (((1 : Int64) <<< (n &&& 0x3f).toInt64) - (1 : Int64)) → (own_holdN (8 : Int32) n (0 : Int32)) = (1 : Int32) := by decide +kernel
theorem own_path17 : ∀ n ∈ own_list64, n = (64 : Int32) → (own_holdN (8 : Int32) n (0 : Int32)) = (0 : Int32) := by decide +kernel
theorem own_path18 : ∀ n ∈ own_list64, (own_holdN (2147483647 : Int32) n (1 : Int32)) = (1 : Int32) := by decide +kernel
theorem own_path19 : ∀ n ∈ own_list64, (-((1 : Int64) <<< ((n - (1 : Int32)) &&& 0x3f).toInt64)) < (-9223372036854775808 : Int64) → (own_holdL (64 : Int32) n (1 : Int32)) = (0 : Int32) := by decide +kernel
theorem own_path20 : ∀ n ∈ own_list64, ¬ (-((1 : Int64) <<< ((n - (1 : Int32)) &&& 0x3f).toInt64)) < (-9223372036854775808 : Int64) → (9223372036854775807 : Int64) < (((1 : Int64) <<< ((n - (1 : Int32)) &&& 0x3f).toInt64) - (1 : Int64)) → (own_holdL (64 : Int32) n (1 : Int32)) = (0 : Int32) := by decide +kernel
theorem own_path21 : ∀ n ∈ own_list64, ¬ (-((1 : Int64) <<< ((n - (1 : Int32)) &&& 0x3f).toInt64)) < (-9223372036854775808 : Int64) → ¬ (9223372036854775807 : Int64) < (((1 : Int64) <<< ((n - (1 : Int32)) &&& 0x3f).toInt64) - (1 : Int64)) → (own_holdL (64 : Int32) n (1 : Int32)) = (1 : Int32) := by decide +kernel
theorem own_path22 : ∀ n ∈ own_list64, (-((1 : Int64) <<< ((n - (1 : Int32)) &&& 0x3f).toInt64)) < (-2147483648 : Int64) → (own_holdN (32 : Int32) n (1 : Int32)) = (0 : Int32) := by decide +kernel
theorem own_path23 : ∀ n ∈ own_list64, ¬ (-((1 : Int64) <<< ((n - (1 : Int32)) &&& 0x3f).toInt64)) < (-2147483648 : Int64) → (2147483647 : Int64) < (((1 : Int64) <<< ((n - (1 : Int32)) &&& 0x3f).toInt64) - (1 : Int64)) → (own_holdN (32 : Int32) n (1 : Int32)) = (0 : Int32) := by decide +kernel
theorem own_path24 : ∀ n ∈ own_list64, ¬ (-((1 : Int64) <<< ((n - (1 : Int32)) &&& 0x3f).toInt64)) < (-2147483648 : Int64) → ¬ (2147483647 : Int64) < (((1 : Int64) <<< ((n - (1 : Int32)) &&& 0x3f).toInt64) - (1 : Int64)) → (own_holdN (32 : Int32) n (1 : Int32)) = (1 : Int32) := by decide +kernel
theorem own_path25 : ∀ n ∈ own_list64, (-((1 : Int64) <<< ((n - (1 : Int32)) &&& 0x3f).toInt64)) < (-32768 : Int64) → (own_holdN (16 : Int32) n (1 : Int32)) = (0 : Int32) := by decide +kernel
theorem own_path26 : ∀ n ∈ own_list64, ¬ (-((1 : Int64) <<< ((n - (1 : Int32)) &&& 0x3f).toInt64)) < (-32768 : Int64) → (32767 : Int64) < (((1 : Int64) <<< ((n - (1 : Int32)) &&& 0x3f).toInt64) - (1 : Int64)) → (own_holdN (16 : Int32) n (1 : Int32)) = (0 : Int32) := by decide +kernel
theorem own_path27 : ∀ n ∈ own_list64, ¬ (-((1 : Int64) <<< ((n - (1 : Int32)) &&& 0x3f).toInt64)) < (-32768 : Int64) → ¬ (32767 : Int64) < (((1 : Int64) <<< ((n - (1 : Int32)) &&& 0x3f).toInt64) - (1 : Int64)) → (own_holdN (16 : Int32) n (1 : Int32)) = (1 : Int32) := by decide +kernel
theorem own_path28 : ∀ n ∈ own_list64, (-((1 : Int64) <<< ((n - (1 : Int32)) &&& 0x3f).toInt64)) < (-128 : Int64) → (own_holdN (8 : Int32) n (1 : Int32)) = (0 : Int32) := by decide +kernel
theorem own_path29 : ∀ n ∈ own_list64, ¬ (-((1 : Int64) <<< ((n - (1 : Int32)) &&& 0x3f).toInt64)) < (-128 : Int64) → (127 : Int64) < (((1 : Int64) <<< ((n - (1 : Int32)) &&& 0x3f).toInt64) - (1 : Int64)) → (own_holdN (8 : Int32) n (1 : Int32)) = (0 : Int32) := by decide +kernel
theorem own_path30 : ∀ n ∈ own_list64, ¬ (-((1 : Int64) <<< ((n - (1 : Int32)) &&& 0x3f).toInt64)) < (-128 : Int64) → ¬ (127 : Int64) < (((1 : Int64) <<< ((n - (1 : Int32)) &&& 0x3f).toInt64) - (1 : Int64)) → (own_holdN (8 : Int32) n (1 : Int32)) = (1 : Int32) := by decide +kernel
theorem pn_com_example_bytemold_bytemold_JavaTypeHoldsPinLaw : plainName "com/example/bytemold/bytemold/JavaTypeHoldsPinLaw" = true := by first | (simp [plainName, overriddenIn]; done) | decide +kernel
theorem ef_rmLaw (m : MethodId) (p1 : Int32) (p2 : Int32) (p3 : Int32) : entryFrame m #[(.int p1), (.int p2), (.int p3)] maxLocals = mkF m 0 #[.val (.int p1), .val (.int p2), .val (.int p3), .unset, .unset, .unset, .unset, .unset, .unset, .unset, .unset, .unset, .unset, .unset, .unset, .unset, .unset] [] := by first | (simp [entryFrame, mkF, argsToLocals, Value.category, maxLocals]; done) | rfl
def Q_rmLaw (Z : State) (n0 : Nat) (p1 : Int32) (p2 : Int32) (p3 : Int32) (aB : Addr) (aS : Addr) (aI : Addr) (aL : Addr) (aG : Addr) (h0 : Heap) (v : Option Value) (h : Heap) : Prop := v = some (.int (1 : Int32)) ∧ h = h0
set_option maxRecDepth 65536 in
set_option maxHeartbeats 40000000 in
theorem rmLaw {l : Launch} {Z : State} {n0 : Nat} {a0 : Array Value} (hw : ∀ d ∈ tables_1, d.before a0 Z = true) (p1 : Int32) (p2 : Int32) (p3 : Int32) (aB : Addr) (aS : Addr) (aI : Addr) (aL : Addr) (aG : Addr) (h0 : Heap) (H0 : Sta Z h0 "com/example/bytemold/bytemold/IntBits$JavaType" "BYTE" "Lcom/example/bytemold/bytemold/IntBits$JavaType;" (.ref aB)) (H1 : Sta Z h0 "com/example/bytemold/bytemold/IntBits$JavaType" "SHORT" "Lcom/example/bytemold/bytemold/IntBits$JavaType;" (.ref aS)) (H2 : Sta Z h0 "com/example/bytemold/bytemold/IntBits$JavaType" "INT" "Lcom/example/bytemold/bytemold/IntBits$JavaType;" (.ref aI)) (H3 : Sta Z h0 "com/example/bytemold/bytemold/IntBits$JavaType" "LONG" "Lcom/example/bytemold/bytemold/IntBits$JavaType;" (.ref aL)) (H4 : Sta Z h0 "com/example/bytemold/bytemold/IntBits$JavaType" "BIG_INTEGER" "Lcom/example/bytemold/bytemold/IntBits$JavaType;" (.ref aG)) (H5 : Fld Z h0 aB "com/example/bytemold/bytemold/IntBits$JavaType" "bits" "I" (.int (8 : Int32))) (H6 : Fld Z h0 aS "com/example/bytemold/bytemold/IntBits$JavaType" "bits" "I" (.int (16 : Int32))) (H7 : Fld Z h0 aI "com/example/bytemold/bytemold/IntBits$JavaType" "bits" "I" (.int (32 : Int32))) (H8 : Fld Z h0 aL "com/example/bytemold/bytemold/IntBits$JavaType" "bits" "I" (.int (64 : Int32))) (H9 : Fld Z h0 aG "com/example/bytemold/bytemold/IntBits$JavaType" "bits" "I" (.int (2147483647 : Int32))) (H10 : Exa Z h0 aB "com/example/bytemold/bytemold/IntBits$JavaType") (H11 : Exa Z h0 aS "com/example/bytemold/bytemold/IntBits$JavaType") (H12 : Exa Z h0 aI "com/example/bytemold/bytemold/IntBits$JavaType") (H13 : Exa Z h0 aL "com/example/bytemold/bytemold/IntBits$JavaType") (H14 : Exa Z h0 aG "com/example/bytemold/bytemold/IntBits$JavaType") (H15 : ¬ Value.ref aB = Value.ref aL) (H16 : ¬ Value.ref aS = Value.ref aL) (H17 : ¬ Value.ref aI = Value.ref aL) (H18 : ¬ Value.ref aG = Value.ref aL) :
    Con l Z n0 x code maxLocals ret room_1 #[(.int p1), (.int p2), (.int p3)] h0 (Q_rmLaw Z n0 p1 p2 p3 aB aS aI aL aG h0) := by
  refine con_of (plainFor_of_name pn_com_example_bytemold_bytemold_JavaTypeHoldsPinLaw) ?_
  intro p e s m below meth c T0 K X0 e0
  replace K : Ctx p s m meth c Z "com/example/bytemold/bytemold/JavaTypeHoldsPinLaw" "law" code maxLocals (some .boolean) := K
  refine go_entry (ef_rmLaw m p1 p2 p3) ?_
  refine go_iloadN K X0 at_0 rfl rfl ?_
  refine go_ldcI K X0 (wd hw 0 rfl) at_1 rfl ?_
  refine go_iand K X0 at_3 rfl ?_
  refine go_iconst K X0 (5 : Int32) at_4 rfl rfl ?_
  refine go_irem K X0 at_5 (by decide) rfl ?_
  generalize h_k : ((p1 &&& (2147483647 : Int32)) % (5 : Int32)) = k
  refine go_istoreN K X0 #[.val (.int p1), .val (.int p2), .val (.int p3), .val (.int k), .unset, .unset, .unset, .unset, .unset, .unset, .unset, .unset, .unset, .unset, .unset, .unset, .unset] at_6 rfl rfl ?_
  refine go_iloadN K X0 at_7 rfl rfl ?_
  refine go_bipush K X0 (63 : Int32) at_8 rfl rfl ?_
  refine go_iand K X0 at_10 rfl ?_
  refine go_iconst K X0 (1 : Int32) at_11 rfl rfl ?_
  refine go_iadd K X0 at_12 rfl ?_
  generalize h_n : ((p2 &&& (63 : Int32)) + (1 : Int32)) = n
  have hn := own_in64 h_n
  refine go_istore K X0 #[.val (.int p1), .val (.int p2), .val (.int p3), .val (.int k), .val (.int n), .unset, .unset, .unset, .unset, .unset, .unset, .unset, .unset, .unset, .unset, .unset, .unset] at_13 rfl rfl ?_
  refine go_iloadN K X0 at_15 rfl rfl ?_
  refine go_iconst K X0 (1 : Int32) at_16 rfl rfl ?_
  refine go_iand K X0 at_17 rfl ?_
  refine go_if K X0 at_18 (by decide) rfl rfl ?_ ?_
  · intro (hc14 : (p3 &&& (1 : Int32)) = (0 : Int32))
    refine go_iconst K X0 (0 : Int32) at_25 rfl rfl ?_
    refine go_istore K X0 #[.val (.int p1), .val (.int p2), .val (.int p3), .val (.int k), .val (.int n), .val (.int (0 : Int32)), .unset, .unset, .unset, .unset, .unset, .unset, .unset, .unset, .unset, .unset, .unset] at_26 rfl rfl ?_
    refine go_iconst K X0 (0 : Int32) at_28 rfl rfl ?_
    refine go_istore K X0 #[.val (.int p1), .val (.int p2), .val (.int p3), .val (.int k), .val (.int n), .val (.int (0 : Int32)), .unset, .unset, .unset, .unset, .unset, .val (.int (0 : Int32)), .unset, .unset, .unset, .unset, .unset] at_29 rfl rfl ?_
    refine go_iloadN K X0 at_31 rfl rfl ?_
    refine go_if K X0 at_32 (by decide) rfl rfl ?_ ?_
    · intro (hc15 : ¬ k = (0 : Int32))
      refine go_iloadN K X0 at_53 rfl rfl ?_
      refine go_iconst K X0 (1 : Int32) at_54 rfl rfl ?_
      refine go_icmp K X0 at_55 (by decide) rfl rfl ?_ ?_
      · intro (hc16 : ¬ k = (1 : Int32))
        refine go_iloadN K X0 at_76 rfl rfl ?_
        refine go_iconst K X0 (2 : Int32) at_77 rfl rfl ?_
        refine go_icmp K X0 at_78 (by decide) rfl rfl ?_ ?_
        · intro (hc17 : ¬ k = (2 : Int32))
          refine go_iloadN K X0 at_99 rfl rfl ?_
          refine go_iconst K X0 (3 : Int32) at_100 rfl rfl ?_
          refine go_icmp K X0 at_101 (by decide) rfl rfl ?_ ?_
          · intro (hc18 : ¬ k = (3 : Int32))
            refine go_getS K X0 (host := "") (Or.inl (wd hw 19 rfl)) Via.refl e0 H4 at_122 rfl ?_
            intro T19 X19 e19
            refine go_astore K X19 #[.val (.int p1), .val (.int p2), .val (.int p3), .val (.int k), .val (.int n), .val (.int (0 : Int32)), .val (.ref aG), .unset, .unset, .unset, .unset, .val (.int (0 : Int32)), .unset, .unset, .unset, .unset, .unset] at_125 rfl rfl rfl ?_
            refine go_ldc2J K X19 (wd hw 21 rfl) at_127 rfl ?_
            refine go_lstore K X19 #[.val (.int p1), .val (.int p2), .val (.int p3), .val (.int k), .val (.int n), .val (.int (0 : Int32)), .val (.ref aG), .val (.long (-9223372036854775808 : Int64)), .second, .unset, .unset, .val (.int (0 : Int32)), .unset, .unset, .unset, .unset, .unset] at_130 rfl rfl ?_
            refine go_ldc2J K X19 (wd hw 22 rfl) at_132 rfl ?_
            refine go_lstore K X19 #[.val (.int p1), .val (.int p2), .val (.int p3), .val (.int k), .val (.int n), .val (.int (0 : Int32)), .val (.ref aG), .val (.long (-9223372036854775808 : Int64)), .second, .val (.long (9223372036854775807 : Int64)), .second, .val (.int (0 : Int32)), .unset, .unset, .unset, .unset, .unset] at_135 rfl rfl ?_
            refine go_iconst K X19 (1 : Int32) at_137 rfl rfl ?_
            refine go_istore K X19 #[.val (.int p1), .val (.int p2), .val (.int p3), .val (.int k), .val (.int n), .val (.int (0 : Int32)), .val (.ref aG), .val (.long (-9223372036854775808 : Int64)), .second, .val (.long (9223372036854775807 : Int64)), .second, .val (.int (1 : Int32)), .unset, .unset, .unset, .unset, .unset] at_138 rfl rfl ?_
            refine go_iload K X19 at_140 rfl rfl ?_
            refine go_ifF K X19 at_142 rfl (by decide : ¬ (1 : Int32) = (0 : Int32)) ?_
            refine go_iconst K X19 (1 : Int32) at_145 rfl rfl ?_
            refine go_istore K X19 #[.val (.int p1), .val (.int p2), .val (.int p3), .val (.int k), .val (.int n), .val (.int (0 : Int32)), .val (.ref aG), .val (.long (-9223372036854775808 : Int64)), .second, .val (.long (9223372036854775807 : Int64)), .second, .val (.int (1 : Int32)), .val (.int (1 : Int32)), .unset, .unset, .unset, .unset] at_146 rfl rfl ?_
            refine go_goto K X19 at_148 (by decide) rfl ?_
            refine go_aload K X19 at_243 rfl rfl rfl ?_
            refine go_iload K X19 at_245 rfl rfl ?_
            refine go_iload K X19 at_247 rfl rfl ?_
            refine go_virt K X19 (a := aG) (argsL := [(.int n), (.int (0 : Int32))]) (stk := []) (wd hw 6 rfl) (wd hw 7 rfl) (wd hw 9 rfl) (wd hw 9 rfl) (wd hw 8 rfl) (wd hw 10 rfl) (wd hw 2 rfl) (by decide) (lenOf pd_0 rfl) e19 H14 (rmHoldN hw aG n (0 : Int32) aL (2147483647 : Int32) h0 H3 H9 H18) rfl rfl at_249 rfl (by decide) (W := 0) (Nat.le_of_eq rfl) (by decide) (cells' := 0) (slots' := 0) rfl rfl (by decide) (by decide) ?_
            rintro T20 h20 _ X20 e20 ⟨rfl, qe20⟩
            show Go _ _ _ _ _ _ _ (T20.setTop (mkF m 252 #[.val (.int p1), .val (.int p2), .val (.int p3), .val (.int k), .val (.int n), .val (.int (0 : Int32)), .val (.ref aG), .val (.long (-9223372036854775808 : Int64)), .second, .val (.long (9223372036854775807 : Int64)), .second, .val (.int (1 : Int32)), .val (.int (1 : Int32)), .unset, .unset, .unset, .unset] [(.int (own_holdN (2147483647 : Int32) n (0 : Int32)))]))
            replace e20 := e20.trans qe20
            refine go_iload K X20 at_252 rfl rfl ?_
            refine go_icmpF K X20 at_254 rfl (own_path1 n hn  : (own_holdN (2147483647 : Int32) n (0 : Int32)) = (1 : Int32)) ?_
            refine go_iconst K X20 (1 : Int32) at_257 rfl rfl ?_
            refine go_goto K X20 at_258 (by decide) rfl ?_
            refine go_retZ K X20 (Or.inr rfl) at_262 (by decide) (by decide) ?_
            rw [e20]
            exact ⟨rfl, rfl⟩
          · intro (hc18 : k = (3 : Int32))
            refine go_getS K X0 (host := "") (Or.inl (wd hw 23 rfl)) Via.refl e0 H3 at_104 rfl ?_
            intro T21 X21 e21
            refine go_astore K X21 #[.val (.int p1), .val (.int p2), .val (.int p3), .val (.int k), .val (.int n), .val (.int (0 : Int32)), .val (.ref aL), .unset, .unset, .unset, .unset, .val (.int (0 : Int32)), .unset, .unset, .unset, .unset, .unset] at_107 rfl rfl rfl ?_
            refine go_ldc2J K X21 (wd hw 21 rfl) at_109 rfl ?_
            refine go_lstore K X21 #[.val (.int p1), .val (.int p2), .val (.int p3), .val (.int k), .val (.int n), .val (.int (0 : Int32)), .val (.ref aL), .val (.long (-9223372036854775808 : Int64)), .second, .unset, .unset, .val (.int (0 : Int32)), .unset, .unset, .unset, .unset, .unset] at_112 rfl rfl ?_
            refine go_ldc2J K X21 (wd hw 22 rfl) at_114 rfl ?_
            refine go_lstore K X21 #[.val (.int p1), .val (.int p2), .val (.int p3), .val (.int k), .val (.int n), .val (.int (0 : Int32)), .val (.ref aL), .val (.long (-9223372036854775808 : Int64)), .second, .val (.long (9223372036854775807 : Int64)), .second, .val (.int (0 : Int32)), .unset, .unset, .unset, .unset, .unset] at_117 rfl rfl ?_
            refine go_goto K X21 at_119 (by decide) rfl ?_
            refine go_iload K X21 at_140 rfl rfl ?_
            refine go_ifT K X21 at_142 (by decide) rfl (by decide : (0 : Int32) = (0 : Int32)) ?_
            refine go_iload K X21 at_151 rfl rfl ?_
            refine go_ifF K X21 at_153 rfl (by decide : (0 : Int32) = (0 : Int32)) ?_
            refine go_iload K X21 at_156 rfl rfl ?_
            refine go_bipush K X21 (64 : Int32) at_158 rfl rfl ?_
            refine go_icmp K X21 at_160 (by decide) rfl rfl ?_ ?_
            · intro (hc22 : ¬ n = (64 : Int32))
              refine go_iload K X21 at_178 rfl rfl ?_
              refine go_ifT K X21 at_180 (by decide) rfl (by decide : (0 : Int32) = (0 : Int32)) ?_
              refine go_lconst K X21 (0 : Int64) at_193 rfl rfl ?_
              refine go_lstore K X21 #[.val (.int p1), .val (.int p2), .val (.int p3), .val (.int k), .val (.int n), .val (.int (0 : Int32)), .val (.ref aL), .val (.long (-9223372036854775808 : Int64)), .second, .val (.long (9223372036854775807 : Int64)), .second, .val (.int (0 : Int32)), .unset, .val (.long (0 : Int64)), .second, .unset, .unset] at_194 rfl rfl ?_
              refine go_iload K X21 at_196 rfl rfl ?_
              refine go_ifT K X21 at_198 (by decide) rfl (by decide : (0 : Int32) = (0 : Int32)) ?_
              refine go_lconst K X21 (1 : Int64) at_212 rfl rfl ?_
              refine go_iload K X21 at_213 rfl rfl ?_
              refine go_lshl K X21 at_215 rfl ?_
              refine go_lconst K X21 (1 : Int64) at_216 rfl rfl ?_
              refine go_lsub K X21 at_217 rfl ?_
              refine go_lstore K X21 #[.val (.int p1), .val (.int p2), .val (.int p3), .val (.int k), .val (.int n), .val (.int (0 : Int32)), .val (.ref aL), .val (.long (-9223372036854775808 : Int64)), .second, .val (.long (9223372036854775807 : Int64)), .second, .val (.int (0 : Int32)), .unset, .val (.long (0 : Int64)), .second, .val (.long (((1 : Int64) <<< (n &&& 0x3f).toInt64) - (1 : Int64))), .second] at_218 rfl rfl ?_
              refine go_lload K X21 at_220 rfl rfl ?_
              refine go_lload K X21 at_222 rfl rfl ?_
              refine go_lif K X21 at_224 rfl at_225 (by decide) rfl rfl ?_ ?_
              · intro (hc23 : (0 : Int64) < (-9223372036854775808 : Int64))
                refine go_iconst K X21 (0 : Int32) at_240 rfl rfl ?_
                refine go_istore K X21 #[.val (.int p1), .val (.int p2), .val (.int p3), .val (.int k), .val (.int n), .val (.int (0 : Int32)), .val (.ref aL), .val (.long (-9223372036854775808 : Int64)), .second, .val (.long (9223372036854775807 : Int64)), .second, .val (.int (0 : Int32)), .val (.int (0 : Int32)), .val (.long (0 : Int64)), .second, .val (.long (((1 : Int64) <<< (n &&& 0x3f).toInt64) - (1 : Int64))), .second] at_241 rfl rfl ?_
                refine go_aload K X21 at_243 rfl rfl rfl ?_
                refine go_iload K X21 at_245 rfl rfl ?_
                refine go_iload K X21 at_247 rfl rfl ?_
                refine go_virt K X21 (a := aL) (argsL := [(.int n), (.int (0 : Int32))]) (stk := []) (wd hw 6 rfl) (wd hw 7 rfl) (wd hw 9 rfl) (wd hw 9 rfl) (wd hw 8 rfl) (wd hw 10 rfl) (wd hw 2 rfl) (by decide) (lenOf pd_0 rfl) e21 H13 (rmHoldL hw aL n (0 : Int32) (64 : Int32) h0 H3 H8) rfl rfl at_249 rfl (by decide) (W := 0) (Nat.le_of_eq rfl) (by decide) (cells' := 0) (slots' := 0) rfl rfl (by decide) (by decide) ?_
                rintro T24 h24 _ X24 e24 ⟨rfl, qe24⟩
                show Go _ _ _ _ _ _ _ (T24.setTop (mkF m 252 #[.val (.int p1), .val (.int p2), .val (.int p3), .val (.int k), .val (.int n), .val (.int (0 : Int32)), .val (.ref aL), .val (.long (-9223372036854775808 : Int64)), .second, .val (.long (9223372036854775807 : Int64)), .second, .val (.int (0 : Int32)), .val (.int (0 : Int32)), .val (.long (0 : Int64)), .second, .val (.long (((1 : Int64) <<< (n &&& 0x3f).toInt64) - (1 : Int64))), .second] [(.int (own_holdL (64 : Int32) n (0 : Int32)))]))
                replace e24 := e24.trans qe24
                refine go_iload K X24 at_252 rfl rfl ?_
                refine go_icmpF K X24 at_254 rfl (own_path2 n hn hc22 hc23 : (own_holdL (64 : Int32) n (0 : Int32)) = (0 : Int32)) ?_
                refine go_iconst K X24 (1 : Int32) at_257 rfl rfl ?_
                refine go_goto K X24 at_258 (by decide) rfl ?_
                refine go_retZ K X24 (Or.inr rfl) at_262 (by decide) (by decide) ?_
                rw [e24]
                exact ⟨rfl, rfl⟩
              · intro (hc23 : ¬ (0 : Int64) < (-9223372036854775808 : Int64))
                refine go_lload K X21 at_228 rfl rfl ?_
                refine go_lload K X21 at_230 rfl rfl ?_
                refine go_lif K X21 at_232 rfl at_233 (by decide) rfl rfl ?_ ?_
                · intro (hc25 : (9223372036854775807 : Int64) < (((1 : Int64) <<< (n &&& 0x3f).toInt64) - (1 : Int64)))
                  refine go_iconst K X21 (0 : Int32) at_240 rfl rfl ?_
                  refine go_istore K X21 #[.val (.int p1), .val (.int p2), .val (.int p3), .val (.int k), .val (.int n), .val (.int (0 : Int32)), .val (.ref aL), .val (.long (-9223372036854775808 : Int64)), .second, .val (.long (9223372036854775807 : Int64)), .second, .val (.int (0 : Int32)), .val (.int (0 : Int32)), .val (.long (0 : Int64)), .second, .val (.long (((1 : Int64) <<< (n &&& 0x3f).toInt64) - (1 : Int64))), .second] at_241 rfl rfl ?_
                  refine go_aload K X21 at_243 rfl rfl rfl ?_
                  refine go_iload K X21 at_245 rfl rfl ?_
                  refine go_iload K X21 at_247 rfl rfl ?_
                  refine go_virt K X21 (a := aL) (argsL := [(.int n), (.int (0 : Int32))]) (stk := []) (wd hw 6 rfl) (wd hw 7 rfl) (wd hw 9 rfl) (wd hw 9 rfl) (wd hw 8 rfl) (wd hw 10 rfl) (wd hw 2 rfl) (by decide) (lenOf pd_0 rfl) e21 H13 (rmHoldL hw aL n (0 : Int32) (64 : Int32) h0 H3 H8) rfl rfl at_249 rfl (by decide) (W := 0) (Nat.le_of_eq rfl) (by decide) (cells' := 0) (slots' := 0) rfl rfl (by decide) (by decide) ?_
                  rintro T26 h26 _ X26 e26 ⟨rfl, qe26⟩
                  show Go _ _ _ _ _ _ _ (T26.setTop (mkF m 252 #[.val (.int p1), .val (.int p2), .val (.int p3), .val (.int k), .val (.int n), .val (.int (0 : Int32)), .val (.ref aL), .val (.long (-9223372036854775808 : Int64)), .second, .val (.long (9223372036854775807 : Int64)), .second, .val (.int (0 : Int32)), .val (.int (0 : Int32)), .val (.long (0 : Int64)), .second, .val (.long (((1 : Int64) <<< (n &&& 0x3f).toInt64) - (1 : Int64))), .second] [(.int (own_holdL (64 : Int32) n (0 : Int32)))]))
                  replace e26 := e26.trans qe26
                  refine go_iload K X26 at_252 rfl rfl ?_
                  refine go_icmpF K X26 at_254 rfl (own_path3 n hn hc22 hc23 hc25 : (own_holdL (64 : Int32) n (0 : Int32)) = (0 : Int32)) ?_
                  refine go_iconst K X26 (1 : Int32) at_257 rfl rfl ?_
                  refine go_goto K X26 at_258 (by decide) rfl ?_
                  refine go_retZ K X26 (Or.inr rfl) at_262 (by decide) (by decide) ?_
                  rw [e26]
                  exact ⟨rfl, rfl⟩
                · intro (hc25 : ¬ (9223372036854775807 : Int64) < (((1 : Int64) <<< (n &&& 0x3f).toInt64) - (1 : Int64)))
                  refine go_iconst K X21 (1 : Int32) at_236 rfl rfl ?_
                  refine go_goto K X21 at_237 (by decide) rfl ?_
                  refine go_istore K X21 #[.val (.int p1), .val (.int p2), .val (.int p3), .val (.int k), .val (.int n), .val (.int (0 : Int32)), .val (.ref aL), .val (.long (-9223372036854775808 : Int64)), .second, .val (.long (9223372036854775807 : Int64)), .second, .val (.int (0 : Int32)), .val (.int (1 : Int32)), .val (.long (0 : Int64)), .second, .val (.long (((1 : Int64) <<< (n &&& 0x3f).toInt64) - (1 : Int64))), .second] at_241 rfl rfl ?_
                  refine go_aload K X21 at_243 rfl rfl rfl ?_
                  refine go_iload K X21 at_245 rfl rfl ?_
                  refine go_iload K X21 at_247 rfl rfl ?_
                  refine go_virt K X21 (a := aL) (argsL := [(.int n), (.int (0 : Int32))]) (stk := []) (wd hw 6 rfl) (wd hw 7 rfl) (wd hw 9 rfl) (wd hw 9 rfl) (wd hw 8 rfl) (wd hw 10 rfl) (wd hw 2 rfl) (by decide) (lenOf pd_0 rfl) e21 H13 (rmHoldL hw aL n (0 : Int32) (64 : Int32) h0 H3 H8) rfl rfl at_249 rfl (by decide) (W := 0) (Nat.le_of_eq rfl) (by decide) (cells' := 0) (slots' := 0) rfl rfl (by decide) (by decide) ?_
                  rintro T27 h27 _ X27 e27 ⟨rfl, qe27⟩
                  show Go _ _ _ _ _ _ _ (T27.setTop (mkF m 252 #[.val (.int p1), .val (.int p2), .val (.int p3), .val (.int k), .val (.int n), .val (.int (0 : Int32)), .val (.ref aL), .val (.long (-9223372036854775808 : Int64)), .second, .val (.long (9223372036854775807 : Int64)), .second, .val (.int (0 : Int32)), .val (.int (1 : Int32)), .val (.long (0 : Int64)), .second, .val (.long (((1 : Int64) <<< (n &&& 0x3f).toInt64) - (1 : Int64))), .second] [(.int (own_holdL (64 : Int32) n (0 : Int32)))]))
                  replace e27 := e27.trans qe27
                  refine go_iload K X27 at_252 rfl rfl ?_
                  refine go_icmpF K X27 at_254 rfl (own_path4 n hn hc22 hc23 hc25 : (own_holdL (64 : Int32) n (0 : Int32)) = (1 : Int32)) ?_
                  refine go_iconst K X27 (1 : Int32) at_257 rfl rfl ?_
                  refine go_goto K X27 at_258 (by decide) rfl ?_
                  refine go_retZ K X27 (Or.inr rfl) at_262 (by decide) (by decide) ?_
                  rw [e27]
                  exact ⟨rfl, rfl⟩
            · intro (hc22 : n = (64 : Int32))
              refine go_iloadN K X21 at_163 rfl rfl ?_
              refine go_iconst K X21 (3 : Int32) at_164 rfl rfl ?_
              refine go_icmpF K X21 at_165 rfl (hc18 : k = (3 : Int32)) ?_
              refine go_iconst K X21 (1 : Int32) at_168 rfl rfl ?_
              refine go_goto K X21 at_169 (by decide) rfl ?_
              refine go_istore K X21 #[.val (.int p1), .val (.int p2), .val (.int p3), .val (.int k), .val (.int n), .val (.int (0 : Int32)), .val (.ref aL), .val (.long (-9223372036854775808 : Int64)), .second, .val (.long (9223372036854775807 : Int64)), .second, .val (.int (0 : Int32)), .val (.int (1 : Int32)), .unset, .unset, .unset, .unset] at_173 rfl rfl ?_
              refine go_goto K X21 at_175 (by decide) rfl ?_
              refine go_aload K X21 at_243 rfl rfl rfl ?_
              refine go_iload K X21 at_245 rfl rfl ?_
              refine go_iload K X21 at_247 rfl rfl ?_
              refine go_virt K X21 (a := aL) (argsL := [(.int n), (.int (0 : Int32))]) (stk := []) (wd hw 6 rfl) (wd hw 7 rfl) (wd hw 9 rfl) (wd hw 9 rfl) (wd hw 8 rfl) (wd hw 10 rfl) (wd hw 2 rfl) (by decide) (lenOf pd_0 rfl) e21 H13 (rmHoldL hw aL n (0 : Int32) (64 : Int32) h0 H3 H8) rfl rfl at_249 rfl (by decide) (W := 0) (Nat.le_of_eq rfl) (by decide) (cells' := 0) (slots' := 0) rfl rfl (by decide) (by decide) ?_
              rintro T28 h28 _ X28 e28 ⟨rfl, qe28⟩
              show Go _ _ _ _ _ _ _ (T28.setTop (mkF m 252 #[.val (.int p1), .val (.int p2), .val (.int p3), .val (.int k), .val (.int n), .val (.int (0 : Int32)), .val (.ref aL), .val (.long (-9223372036854775808 : Int64)), .second, .val (.long (9223372036854775807 : Int64)), .second, .val (.int (0 : Int32)), .val (.int (1 : Int32)), .unset, .unset, .unset, .unset] [(.int (own_holdL (64 : Int32) n (0 : Int32)))]))
              replace e28 := e28.trans qe28
              refine go_iload K X28 at_252 rfl rfl ?_
              refine go_icmpF K X28 at_254 rfl (own_path5 n hn hc22 : (own_holdL (64 : Int32) n (0 : Int32)) = (1 : Int32)) ?_
              refine go_iconst K X28 (1 : Int32) at_257 rfl rfl ?_
              refine go_goto K X28 at_258 (by decide) rfl ?_
              refine go_retZ K X28 (Or.inr rfl) at_262 (by decide) (by decide) ?_
              rw [e28]
              exact ⟨rfl, rfl⟩
        · intro (hc17 : k = (2 : Int32))
          refine go_getS K X0 (host := "") (Or.inl (wd hw 24 rfl)) Via.refl e0 H2 at_81 rfl ?_
          intro T29 X29 e29
          refine go_astore K X29 #[.val (.int p1), .val (.int p2), .val (.int p3), .val (.int k), .val (.int n), .val (.int (0 : Int32)), .val (.ref aI), .unset, .unset, .unset, .unset, .val (.int (0 : Int32)), .unset, .unset, .unset, .unset, .unset] at_84 rfl rfl rfl ?_
          refine go_ldc2J K X29 (wd hw 26 rfl) at_86 rfl ?_
          refine go_lstore K X29 #[.val (.int p1), .val (.int p2), .val (.int p3), .val (.int k), .val (.int n), .val (.int (0 : Int32)), .val (.ref aI), .val (.long (-2147483648 : Int64)), .second, .unset, .unset, .val (.int (0 : Int32)), .unset, .unset, .unset, .unset, .unset] at_89 rfl rfl ?_
          refine go_ldc2J K X29 (wd hw 27 rfl) at_91 rfl ?_
          refine go_lstore K X29 #[.val (.int p1), .val (.int p2), .val (.int p3), .val (.int k), .val (.int n), .val (.int (0 : Int32)), .val (.ref aI), .val (.long (-2147483648 : Int64)), .second, .val (.long (2147483647 : Int64)), .second, .val (.int (0 : Int32)), .unset, .unset, .unset, .unset, .unset] at_94 rfl rfl ?_
          refine go_goto K X29 at_96 (by decide) rfl ?_
          refine go_iload K X29 at_140 rfl rfl ?_
          refine go_ifT K X29 at_142 (by decide) rfl (by decide : (0 : Int32) = (0 : Int32)) ?_
          refine go_iload K X29 at_151 rfl rfl ?_
          refine go_ifF K X29 at_153 rfl (by decide : (0 : Int32) = (0 : Int32)) ?_
          refine go_iload K X29 at_156 rfl rfl ?_
          refine go_bipush K X29 (64 : Int32) at_158 rfl rfl ?_
          refine go_icmp K X29 at_160 (by decide) rfl rfl ?_ ?_
          · intro (hc30 : ¬ n = (64 : Int32))
            refine go_iload K X29 at_178 rfl rfl ?_
            refine go_ifT K X29 at_180 (by decide) rfl (by decide : (0 : Int32) = (0 : Int32)) ?_
            refine go_lconst K X29 (0 : Int64) at_193 rfl rfl ?_
            refine go_lstore K X29 #[.val (.int p1), .val (.int p2), .val (.int p3), .val (.int k), .val (.int n), .val (.int (0 : Int32)), .val (.ref aI), .val (.long (-2147483648 : Int64)), .second, .val (.long (2147483647 : Int64)), .second, .val (.int (0 : Int32)), .unset, .val (.long (0 : Int64)), .second, .unset, .unset] at_194 rfl rfl ?_
            refine go_iload K X29 at_196 rfl rfl ?_
            refine go_ifT K X29 at_198 (by decide) rfl (by decide : (0 : Int32) = (0 : Int32)) ?_
            refine go_lconst K X29 (1 : Int64) at_212 rfl rfl ?_
            refine go_iload K X29 at_213 rfl rfl ?_
            refine go_lshl K X29 at_215 rfl ?_
            refine go_lconst K X29 (1 : Int64) at_216 rfl rfl ?_
            refine go_lsub K X29 at_217 rfl ?_
            refine go_lstore K X29 #[.val (.int p1), .val (.int p2), .val (.int p3), .val (.int k), .val (.int n), .val (.int (0 : Int32)), .val (.ref aI), .val (.long (-2147483648 : Int64)), .second, .val (.long (2147483647 : Int64)), .second, .val (.int (0 : Int32)), .unset, .val (.long (0 : Int64)), .second, .val (.long (((1 : Int64) <<< (n &&& 0x3f).toInt64) - (1 : Int64))), .second] at_218 rfl rfl ?_
            refine go_lload K X29 at_220 rfl rfl ?_
            refine go_lload K X29 at_222 rfl rfl ?_
            refine go_lif K X29 at_224 rfl at_225 (by decide) rfl rfl ?_ ?_
            · intro (hc31 : (0 : Int64) < (-2147483648 : Int64))
              refine go_iconst K X29 (0 : Int32) at_240 rfl rfl ?_
              refine go_istore K X29 #[.val (.int p1), .val (.int p2), .val (.int p3), .val (.int k), .val (.int n), .val (.int (0 : Int32)), .val (.ref aI), .val (.long (-2147483648 : Int64)), .second, .val (.long (2147483647 : Int64)), .second, .val (.int (0 : Int32)), .val (.int (0 : Int32)), .val (.long (0 : Int64)), .second, .val (.long (((1 : Int64) <<< (n &&& 0x3f).toInt64) - (1 : Int64))), .second] at_241 rfl rfl ?_
              refine go_aload K X29 at_243 rfl rfl rfl ?_
              refine go_iload K X29 at_245 rfl rfl ?_
              refine go_iload K X29 at_247 rfl rfl ?_
              refine go_virt K X29 (a := aI) (argsL := [(.int n), (.int (0 : Int32))]) (stk := []) (wd hw 6 rfl) (wd hw 7 rfl) (wd hw 9 rfl) (wd hw 9 rfl) (wd hw 8 rfl) (wd hw 10 rfl) (wd hw 2 rfl) (by decide) (lenOf pd_0 rfl) e29 H12 (rmHoldN hw aI n (0 : Int32) aL (32 : Int32) h0 H3 H7 H17) rfl rfl at_249 rfl (by decide) (W := 0) (Nat.le_of_eq rfl) (by decide) (cells' := 0) (slots' := 0) rfl rfl (by decide) (by decide) ?_
              rintro T32 h32 _ X32 e32 ⟨rfl, qe32⟩
              show Go _ _ _ _ _ _ _ (T32.setTop (mkF m 252 #[.val (.int p1), .val (.int p2), .val (.int p3), .val (.int k), .val (.int n), .val (.int (0 : Int32)), .val (.ref aI), .val (.long (-2147483648 : Int64)), .second, .val (.long (2147483647 : Int64)), .second, .val (.int (0 : Int32)), .val (.int (0 : Int32)), .val (.long (0 : Int64)), .second, .val (.long (((1 : Int64) <<< (n &&& 0x3f).toInt64) - (1 : Int64))), .second] [(.int (own_holdN (32 : Int32) n (0 : Int32)))]))
              replace e32 := e32.trans qe32
              refine go_iload K X32 at_252 rfl rfl ?_
              refine go_icmpF K X32 at_254 rfl (own_path6 n hn hc30 hc31 : (own_holdN (32 : Int32) n (0 : Int32)) = (0 : Int32)) ?_
              refine go_iconst K X32 (1 : Int32) at_257 rfl rfl ?_
              refine go_goto K X32 at_258 (by decide) rfl ?_
              refine go_retZ K X32 (Or.inr rfl) at_262 (by decide) (by decide) ?_
              rw [e32]
              exact ⟨rfl, rfl⟩
            · intro (hc31 : ¬ (0 : Int64) < (-2147483648 : Int64))
              refine go_lload K X29 at_228 rfl rfl ?_
              refine go_lload K X29 at_230 rfl rfl ?_
              refine go_lif K X29 at_232 rfl at_233 (by decide) rfl rfl ?_ ?_
              · intro (hc33 : (2147483647 : Int64) < (((1 : Int64) <<< (n &&& 0x3f).toInt64) - (1 : Int64)))
                refine go_iconst K X29 (0 : Int32) at_240 rfl rfl ?_
                refine go_istore K X29 #[.val (.int p1), .val (.int p2), .val (.int p3), .val (.int k), .val (.int n), .val (.int (0 : Int32)), .val (.ref aI), .val (.long (-2147483648 : Int64)), .second, .val (.long (2147483647 : Int64)), .second, .val (.int (0 : Int32)), .val (.int (0 : Int32)), .val (.long (0 : Int64)), .second, .val (.long (((1 : Int64) <<< (n &&& 0x3f).toInt64) - (1 : Int64))), .second] at_241 rfl rfl ?_
                refine go_aload K X29 at_243 rfl rfl rfl ?_
                refine go_iload K X29 at_245 rfl rfl ?_
                refine go_iload K X29 at_247 rfl rfl ?_
                refine go_virt K X29 (a := aI) (argsL := [(.int n), (.int (0 : Int32))]) (stk := []) (wd hw 6 rfl) (wd hw 7 rfl) (wd hw 9 rfl) (wd hw 9 rfl) (wd hw 8 rfl) (wd hw 10 rfl) (wd hw 2 rfl) (by decide) (lenOf pd_0 rfl) e29 H12 (rmHoldN hw aI n (0 : Int32) aL (32 : Int32) h0 H3 H7 H17) rfl rfl at_249 rfl (by decide) (W := 0) (Nat.le_of_eq rfl) (by decide) (cells' := 0) (slots' := 0) rfl rfl (by decide) (by decide) ?_
                rintro T34 h34 _ X34 e34 ⟨rfl, qe34⟩
                show Go _ _ _ _ _ _ _ (T34.setTop (mkF m 252 #[.val (.int p1), .val (.int p2), .val (.int p3), .val (.int k), .val (.int n), .val (.int (0 : Int32)), .val (.ref aI), .val (.long (-2147483648 : Int64)), .second, .val (.long (2147483647 : Int64)), .second, .val (.int (0 : Int32)), .val (.int (0 : Int32)), .val (.long (0 : Int64)), .second, .val (.long (((1 : Int64) <<< (n &&& 0x3f).toInt64) - (1 : Int64))), .second] [(.int (own_holdN (32 : Int32) n (0 : Int32)))]))
                replace e34 := e34.trans qe34
                refine go_iload K X34 at_252 rfl rfl ?_
                refine go_icmpF K X34 at_254 rfl (own_path7 n hn hc30 hc31 hc33 : (own_holdN (32 : Int32) n (0 : Int32)) = (0 : Int32)) ?_
                refine go_iconst K X34 (1 : Int32) at_257 rfl rfl ?_
                refine go_goto K X34 at_258 (by decide) rfl ?_
                refine go_retZ K X34 (Or.inr rfl) at_262 (by decide) (by decide) ?_
                rw [e34]
                exact ⟨rfl, rfl⟩
              · intro (hc33 : ¬ (2147483647 : Int64) < (((1 : Int64) <<< (n &&& 0x3f).toInt64) - (1 : Int64)))
                refine go_iconst K X29 (1 : Int32) at_236 rfl rfl ?_
                refine go_goto K X29 at_237 (by decide) rfl ?_
                refine go_istore K X29 #[.val (.int p1), .val (.int p2), .val (.int p3), .val (.int k), .val (.int n), .val (.int (0 : Int32)), .val (.ref aI), .val (.long (-2147483648 : Int64)), .second, .val (.long (2147483647 : Int64)), .second, .val (.int (0 : Int32)), .val (.int (1 : Int32)), .val (.long (0 : Int64)), .second, .val (.long (((1 : Int64) <<< (n &&& 0x3f).toInt64) - (1 : Int64))), .second] at_241 rfl rfl ?_
                refine go_aload K X29 at_243 rfl rfl rfl ?_
                refine go_iload K X29 at_245 rfl rfl ?_
                refine go_iload K X29 at_247 rfl rfl ?_
                refine go_virt K X29 (a := aI) (argsL := [(.int n), (.int (0 : Int32))]) (stk := []) (wd hw 6 rfl) (wd hw 7 rfl) (wd hw 9 rfl) (wd hw 9 rfl) (wd hw 8 rfl) (wd hw 10 rfl) (wd hw 2 rfl) (by decide) (lenOf pd_0 rfl) e29 H12 (rmHoldN hw aI n (0 : Int32) aL (32 : Int32) h0 H3 H7 H17) rfl rfl at_249 rfl (by decide) (W := 0) (Nat.le_of_eq rfl) (by decide) (cells' := 0) (slots' := 0) rfl rfl (by decide) (by decide) ?_
                rintro T35 h35 _ X35 e35 ⟨rfl, qe35⟩
                show Go _ _ _ _ _ _ _ (T35.setTop (mkF m 252 #[.val (.int p1), .val (.int p2), .val (.int p3), .val (.int k), .val (.int n), .val (.int (0 : Int32)), .val (.ref aI), .val (.long (-2147483648 : Int64)), .second, .val (.long (2147483647 : Int64)), .second, .val (.int (0 : Int32)), .val (.int (1 : Int32)), .val (.long (0 : Int64)), .second, .val (.long (((1 : Int64) <<< (n &&& 0x3f).toInt64) - (1 : Int64))), .second] [(.int (own_holdN (32 : Int32) n (0 : Int32)))]))
                replace e35 := e35.trans qe35
                refine go_iload K X35 at_252 rfl rfl ?_
                refine go_icmpF K X35 at_254 rfl (own_path8 n hn hc30 hc31 hc33 : (own_holdN (32 : Int32) n (0 : Int32)) = (1 : Int32)) ?_
                refine go_iconst K X35 (1 : Int32) at_257 rfl rfl ?_
                refine go_goto K X35 at_258 (by decide) rfl ?_
                refine go_retZ K X35 (Or.inr rfl) at_262 (by decide) (by decide) ?_
                rw [e35]
                exact ⟨rfl, rfl⟩
          · intro (hc30 : n = (64 : Int32))
            refine go_iloadN K X29 at_163 rfl rfl ?_
            refine go_iconst K X29 (3 : Int32) at_164 rfl rfl ?_
            refine go_icmpT K X29 at_165 (by decide) rfl (by rw [hc17]; decide : ¬ k = (3 : Int32)) ?_
            refine go_iconst K X29 (0 : Int32) at_172 rfl rfl ?_
            refine go_istore K X29 #[.val (.int p1), .val (.int p2), .val (.int p3), .val (.int k), .val (.int n), .val (.int (0 : Int32)), .val (.ref aI), .val (.long (-2147483648 : Int64)), .second, .val (.long (2147483647 : Int64)), .second, .val (.int (0 : Int32)), .val (.int (0 : Int32)), .unset, .unset, .unset, .unset] at_173 rfl rfl ?_
            refine go_goto K X29 at_175 (by decide) rfl ?_
            refine go_aload K X29 at_243 rfl rfl rfl ?_
            refine go_iload K X29 at_245 rfl rfl ?_
            refine go_iload K X29 at_247 rfl rfl ?_
            refine go_virt K X29 (a := aI) (argsL := [(.int n), (.int (0 : Int32))]) (stk := []) (wd hw 6 rfl) (wd hw 7 rfl) (wd hw 9 rfl) (wd hw 9 rfl) (wd hw 8 rfl) (wd hw 10 rfl) (wd hw 2 rfl) (by decide) (lenOf pd_0 rfl) e29 H12 (rmHoldN hw aI n (0 : Int32) aL (32 : Int32) h0 H3 H7 H17) rfl rfl at_249 rfl (by decide) (W := 0) (Nat.le_of_eq rfl) (by decide) (cells' := 0) (slots' := 0) rfl rfl (by decide) (by decide) ?_
            rintro T36 h36 _ X36 e36 ⟨rfl, qe36⟩
            show Go _ _ _ _ _ _ _ (T36.setTop (mkF m 252 #[.val (.int p1), .val (.int p2), .val (.int p3), .val (.int k), .val (.int n), .val (.int (0 : Int32)), .val (.ref aI), .val (.long (-2147483648 : Int64)), .second, .val (.long (2147483647 : Int64)), .second, .val (.int (0 : Int32)), .val (.int (0 : Int32)), .unset, .unset, .unset, .unset] [(.int (own_holdN (32 : Int32) n (0 : Int32)))]))
            replace e36 := e36.trans qe36
            refine go_iload K X36 at_252 rfl rfl ?_
            refine go_icmpF K X36 at_254 rfl (own_path9 n hn hc30 : (own_holdN (32 : Int32) n (0 : Int32)) = (0 : Int32)) ?_
            refine go_iconst K X36 (1 : Int32) at_257 rfl rfl ?_
            refine go_goto K X36 at_258 (by decide) rfl ?_
            refine go_retZ K X36 (Or.inr rfl) at_262 (by decide) (by decide) ?_
            rw [e36]
            exact ⟨rfl, rfl⟩
      · intro (hc16 : k = (1 : Int32))
        refine go_getS K X0 (host := "") (Or.inl (wd hw 15 rfl)) Via.refl e0 H1 at_58 rfl ?_
        intro T37 X37 e37
        refine go_astore K X37 #[.val (.int p1), .val (.int p2), .val (.int p3), .val (.int k), .val (.int n), .val (.int (0 : Int32)), .val (.ref aS), .unset, .unset, .unset, .unset, .val (.int (0 : Int32)), .unset, .unset, .unset, .unset, .unset] at_61 rfl rfl rfl ?_
        refine go_ldc2J K X37 (wd hw 17 rfl) at_63 rfl ?_
        refine go_lstore K X37 #[.val (.int p1), .val (.int p2), .val (.int p3), .val (.int k), .val (.int n), .val (.int (0 : Int32)), .val (.ref aS), .val (.long (-32768 : Int64)), .second, .unset, .unset, .val (.int (0 : Int32)), .unset, .unset, .unset, .unset, .unset] at_66 rfl rfl ?_
        refine go_ldc2J K X37 (wd hw 18 rfl) at_68 rfl ?_
        refine go_lstore K X37 #[.val (.int p1), .val (.int p2), .val (.int p3), .val (.int k), .val (.int n), .val (.int (0 : Int32)), .val (.ref aS), .val (.long (-32768 : Int64)), .second, .val (.long (32767 : Int64)), .second, .val (.int (0 : Int32)), .unset, .unset, .unset, .unset, .unset] at_71 rfl rfl ?_
        refine go_goto K X37 at_73 (by decide) rfl ?_
        refine go_iload K X37 at_140 rfl rfl ?_
        refine go_ifT K X37 at_142 (by decide) rfl (by decide : (0 : Int32) = (0 : Int32)) ?_
        refine go_iload K X37 at_151 rfl rfl ?_
        refine go_ifF K X37 at_153 rfl (by decide : (0 : Int32) = (0 : Int32)) ?_
        refine go_iload K X37 at_156 rfl rfl ?_
        refine go_bipush K X37 (64 : Int32) at_158 rfl rfl ?_
        refine go_icmp K X37 at_160 (by decide) rfl rfl ?_ ?_
        · intro (hc38 : ¬ n = (64 : Int32))
          refine go_iload K X37 at_178 rfl rfl ?_
          refine go_ifT K X37 at_180 (by decide) rfl (by decide : (0 : Int32) = (0 : Int32)) ?_
          refine go_lconst K X37 (0 : Int64) at_193 rfl rfl ?_
          refine go_lstore K X37 #[.val (.int p1), .val (.int p2), .val (.int p3), .val (.int k), .val (.int n), .val (.int (0 : Int32)), .val (.ref aS), .val (.long (-32768 : Int64)), .second, .val (.long (32767 : Int64)), .second, .val (.int (0 : Int32)), .unset, .val (.long (0 : Int64)), .second, .unset, .unset] at_194 rfl rfl ?_
          refine go_iload K X37 at_196 rfl rfl ?_
          refine go_ifT K X37 at_198 (by decide) rfl (by decide : (0 : Int32) = (0 : Int32)) ?_
          refine go_lconst K X37 (1 : Int64) at_212 rfl rfl ?_
          refine go_iload K X37 at_213 rfl rfl ?_
          refine go_lshl K X37 at_215 rfl ?_
          refine go_lconst K X37 (1 : Int64) at_216 rfl rfl ?_
          refine go_lsub K X37 at_217 rfl ?_
          refine go_lstore K X37 #[.val (.int p1), .val (.int p2), .val (.int p3), .val (.int k), .val (.int n), .val (.int (0 : Int32)), .val (.ref aS), .val (.long (-32768 : Int64)), .second, .val (.long (32767 : Int64)), .second, .val (.int (0 : Int32)), .unset, .val (.long (0 : Int64)), .second, .val (.long (((1 : Int64) <<< (n &&& 0x3f).toInt64) - (1 : Int64))), .second] at_218 rfl rfl ?_
          refine go_lload K X37 at_220 rfl rfl ?_
          refine go_lload K X37 at_222 rfl rfl ?_
          refine go_lif K X37 at_224 rfl at_225 (by decide) rfl rfl ?_ ?_
          · intro (hc39 : (0 : Int64) < (-32768 : Int64))
            refine go_iconst K X37 (0 : Int32) at_240 rfl rfl ?_
            refine go_istore K X37 #[.val (.int p1), .val (.int p2), .val (.int p3), .val (.int k), .val (.int n), .val (.int (0 : Int32)), .val (.ref aS), .val (.long (-32768 : Int64)), .second, .val (.long (32767 : Int64)), .second, .val (.int (0 : Int32)), .val (.int (0 : Int32)), .val (.long (0 : Int64)), .second, .val (.long (((1 : Int64) <<< (n &&& 0x3f).toInt64) - (1 : Int64))), .second] at_241 rfl rfl ?_
            refine go_aload K X37 at_243 rfl rfl rfl ?_
            refine go_iload K X37 at_245 rfl rfl ?_
            refine go_iload K X37 at_247 rfl rfl ?_
            refine go_virt K X37 (a := aS) (argsL := [(.int n), (.int (0 : Int32))]) (stk := []) (wd hw 6 rfl) (wd hw 7 rfl) (wd hw 9 rfl) (wd hw 9 rfl) (wd hw 8 rfl) (wd hw 10 rfl) (wd hw 2 rfl) (by decide) (lenOf pd_0 rfl) e37 H11 (rmHoldN hw aS n (0 : Int32) aL (16 : Int32) h0 H3 H6 H16) rfl rfl at_249 rfl (by decide) (W := 0) (Nat.le_of_eq rfl) (by decide) (cells' := 0) (slots' := 0) rfl rfl (by decide) (by decide) ?_
            rintro T40 h40 _ X40 e40 ⟨rfl, qe40⟩
            show Go _ _ _ _ _ _ _ (T40.setTop (mkF m 252 #[.val (.int p1), .val (.int p2), .val (.int p3), .val (.int k), .val (.int n), .val (.int (0 : Int32)), .val (.ref aS), .val (.long (-32768 : Int64)), .second, .val (.long (32767 : Int64)), .second, .val (.int (0 : Int32)), .val (.int (0 : Int32)), .val (.long (0 : Int64)), .second, .val (.long (((1 : Int64) <<< (n &&& 0x3f).toInt64) - (1 : Int64))), .second] [(.int (own_holdN (16 : Int32) n (0 : Int32)))]))
            replace e40 := e40.trans qe40
            refine go_iload K X40 at_252 rfl rfl ?_
            refine go_icmpF K X40 at_254 rfl (own_path10 n hn hc38 hc39 : (own_holdN (16 : Int32) n (0 : Int32)) = (0 : Int32)) ?_
            refine go_iconst K X40 (1 : Int32) at_257 rfl rfl ?_
            refine go_goto K X40 at_258 (by decide) rfl ?_
            refine go_retZ K X40 (Or.inr rfl) at_262 (by decide) (by decide) ?_
            rw [e40]
            exact ⟨rfl, rfl⟩
          · intro (hc39 : ¬ (0 : Int64) < (-32768 : Int64))
            refine go_lload K X37 at_228 rfl rfl ?_
            refine go_lload K X37 at_230 rfl rfl ?_
            refine go_lif K X37 at_232 rfl at_233 (by decide) rfl rfl ?_ ?_
            · intro (hc41 : (32767 : Int64) < (((1 : Int64) <<< (n &&& 0x3f).toInt64) - (1 : Int64)))
              refine go_iconst K X37 (0 : Int32) at_240 rfl rfl ?_
              refine go_istore K X37 #[.val (.int p1), .val (.int p2), .val (.int p3), .val (.int k), .val (.int n), .val (.int (0 : Int32)), .val (.ref aS), .val (.long (-32768 : Int64)), .second, .val (.long (32767 : Int64)), .second, .val (.int (0 : Int32)), .val (.int (0 : Int32)), .val (.long (0 : Int64)), .second, .val (.long (((1 : Int64) <<< (n &&& 0x3f).toInt64) - (1 : Int64))), .second] at_241 rfl rfl ?_
              refine go_aload K X37 at_243 rfl rfl rfl ?_
              refine go_iload K X37 at_245 rfl rfl ?_
              refine go_iload K X37 at_247 rfl rfl ?_
              refine go_virt K X37 (a := aS) (argsL := [(.int n), (.int (0 : Int32))]) (stk := []) (wd hw 6 rfl) (wd hw 7 rfl) (wd hw 9 rfl) (wd hw 9 rfl) (wd hw 8 rfl) (wd hw 10 rfl) (wd hw 2 rfl) (by decide) (lenOf pd_0 rfl) e37 H11 (rmHoldN hw aS n (0 : Int32) aL (16 : Int32) h0 H3 H6 H16) rfl rfl at_249 rfl (by decide) (W := 0) (Nat.le_of_eq rfl) (by decide) (cells' := 0) (slots' := 0) rfl rfl (by decide) (by decide) ?_
              rintro T42 h42 _ X42 e42 ⟨rfl, qe42⟩
              show Go _ _ _ _ _ _ _ (T42.setTop (mkF m 252 #[.val (.int p1), .val (.int p2), .val (.int p3), .val (.int k), .val (.int n), .val (.int (0 : Int32)), .val (.ref aS), .val (.long (-32768 : Int64)), .second, .val (.long (32767 : Int64)), .second, .val (.int (0 : Int32)), .val (.int (0 : Int32)), .val (.long (0 : Int64)), .second, .val (.long (((1 : Int64) <<< (n &&& 0x3f).toInt64) - (1 : Int64))), .second] [(.int (own_holdN (16 : Int32) n (0 : Int32)))]))
              replace e42 := e42.trans qe42
              refine go_iload K X42 at_252 rfl rfl ?_
              refine go_icmpF K X42 at_254 rfl (own_path11 n hn hc38 hc39 hc41 : (own_holdN (16 : Int32) n (0 : Int32)) = (0 : Int32)) ?_
              refine go_iconst K X42 (1 : Int32) at_257 rfl rfl ?_
              refine go_goto K X42 at_258 (by decide) rfl ?_
              refine go_retZ K X42 (Or.inr rfl) at_262 (by decide) (by decide) ?_
              rw [e42]
              exact ⟨rfl, rfl⟩
            · intro (hc41 : ¬ (32767 : Int64) < (((1 : Int64) <<< (n &&& 0x3f).toInt64) - (1 : Int64)))
              refine go_iconst K X37 (1 : Int32) at_236 rfl rfl ?_
              refine go_goto K X37 at_237 (by decide) rfl ?_
              refine go_istore K X37 #[.val (.int p1), .val (.int p2), .val (.int p3), .val (.int k), .val (.int n), .val (.int (0 : Int32)), .val (.ref aS), .val (.long (-32768 : Int64)), .second, .val (.long (32767 : Int64)), .second, .val (.int (0 : Int32)), .val (.int (1 : Int32)), .val (.long (0 : Int64)), .second, .val (.long (((1 : Int64) <<< (n &&& 0x3f).toInt64) - (1 : Int64))), .second] at_241 rfl rfl ?_
              refine go_aload K X37 at_243 rfl rfl rfl ?_
              refine go_iload K X37 at_245 rfl rfl ?_
              refine go_iload K X37 at_247 rfl rfl ?_
              refine go_virt K X37 (a := aS) (argsL := [(.int n), (.int (0 : Int32))]) (stk := []) (wd hw 6 rfl) (wd hw 7 rfl) (wd hw 9 rfl) (wd hw 9 rfl) (wd hw 8 rfl) (wd hw 10 rfl) (wd hw 2 rfl) (by decide) (lenOf pd_0 rfl) e37 H11 (rmHoldN hw aS n (0 : Int32) aL (16 : Int32) h0 H3 H6 H16) rfl rfl at_249 rfl (by decide) (W := 0) (Nat.le_of_eq rfl) (by decide) (cells' := 0) (slots' := 0) rfl rfl (by decide) (by decide) ?_
              rintro T43 h43 _ X43 e43 ⟨rfl, qe43⟩
              show Go _ _ _ _ _ _ _ (T43.setTop (mkF m 252 #[.val (.int p1), .val (.int p2), .val (.int p3), .val (.int k), .val (.int n), .val (.int (0 : Int32)), .val (.ref aS), .val (.long (-32768 : Int64)), .second, .val (.long (32767 : Int64)), .second, .val (.int (0 : Int32)), .val (.int (1 : Int32)), .val (.long (0 : Int64)), .second, .val (.long (((1 : Int64) <<< (n &&& 0x3f).toInt64) - (1 : Int64))), .second] [(.int (own_holdN (16 : Int32) n (0 : Int32)))]))
              replace e43 := e43.trans qe43
              refine go_iload K X43 at_252 rfl rfl ?_
              refine go_icmpF K X43 at_254 rfl (own_path12 n hn hc38 hc39 hc41 : (own_holdN (16 : Int32) n (0 : Int32)) = (1 : Int32)) ?_
              refine go_iconst K X43 (1 : Int32) at_257 rfl rfl ?_
              refine go_goto K X43 at_258 (by decide) rfl ?_
              refine go_retZ K X43 (Or.inr rfl) at_262 (by decide) (by decide) ?_
              rw [e43]
              exact ⟨rfl, rfl⟩
        · intro (hc38 : n = (64 : Int32))
          refine go_iloadN K X37 at_163 rfl rfl ?_
          refine go_iconst K X37 (3 : Int32) at_164 rfl rfl ?_
          refine go_icmpT K X37 at_165 (by decide) rfl (by rw [hc16]; decide : ¬ k = (3 : Int32)) ?_
          refine go_iconst K X37 (0 : Int32) at_172 rfl rfl ?_
          refine go_istore K X37 #[.val (.int p1), .val (.int p2), .val (.int p3), .val (.int k), .val (.int n), .val (.int (0 : Int32)), .val (.ref aS), .val (.long (-32768 : Int64)), .second, .val (.long (32767 : Int64)), .second, .val (.int (0 : Int32)), .val (.int (0 : Int32)), .unset, .unset, .unset, .unset] at_173 rfl rfl ?_
          refine go_goto K X37 at_175 (by decide) rfl ?_
          refine go_aload K X37 at_243 rfl rfl rfl ?_
          refine go_iload K X37 at_245 rfl rfl ?_
          refine go_iload K X37 at_247 rfl rfl ?_
          refine go_virt K X37 (a := aS) (argsL := [(.int n), (.int (0 : Int32))]) (stk := []) (wd hw 6 rfl) (wd hw 7 rfl) (wd hw 9 rfl) (wd hw 9 rfl) (wd hw 8 rfl) (wd hw 10 rfl) (wd hw 2 rfl) (by decide) (lenOf pd_0 rfl) e37 H11 (rmHoldN hw aS n (0 : Int32) aL (16 : Int32) h0 H3 H6 H16) rfl rfl at_249 rfl (by decide) (W := 0) (Nat.le_of_eq rfl) (by decide) (cells' := 0) (slots' := 0) rfl rfl (by decide) (by decide) ?_
          rintro T44 h44 _ X44 e44 ⟨rfl, qe44⟩
          show Go _ _ _ _ _ _ _ (T44.setTop (mkF m 252 #[.val (.int p1), .val (.int p2), .val (.int p3), .val (.int k), .val (.int n), .val (.int (0 : Int32)), .val (.ref aS), .val (.long (-32768 : Int64)), .second, .val (.long (32767 : Int64)), .second, .val (.int (0 : Int32)), .val (.int (0 : Int32)), .unset, .unset, .unset, .unset] [(.int (own_holdN (16 : Int32) n (0 : Int32)))]))
          replace e44 := e44.trans qe44
          refine go_iload K X44 at_252 rfl rfl ?_
          refine go_icmpF K X44 at_254 rfl (own_path13 n hn hc38 : (own_holdN (16 : Int32) n (0 : Int32)) = (0 : Int32)) ?_
          refine go_iconst K X44 (1 : Int32) at_257 rfl rfl ?_
          refine go_goto K X44 at_258 (by decide) rfl ?_
          refine go_retZ K X44 (Or.inr rfl) at_262 (by decide) (by decide) ?_
          rw [e44]
          exact ⟨rfl, rfl⟩
    · intro (hc15 : k = (0 : Int32))
      refine go_getS K X0 (host := "") (Or.inl (wd hw 1 rfl)) Via.refl e0 H0 at_35 rfl ?_
      intro T45 X45 e45
      refine go_astore K X45 #[.val (.int p1), .val (.int p2), .val (.int p3), .val (.int k), .val (.int n), .val (.int (0 : Int32)), .val (.ref aB), .unset, .unset, .unset, .unset, .val (.int (0 : Int32)), .unset, .unset, .unset, .unset, .unset] at_38 rfl rfl rfl ?_
      refine go_ldc2J K X45 (wd hw 4 rfl) at_40 rfl ?_
      refine go_lstore K X45 #[.val (.int p1), .val (.int p2), .val (.int p3), .val (.int k), .val (.int n), .val (.int (0 : Int32)), .val (.ref aB), .val (.long (-128 : Int64)), .second, .unset, .unset, .val (.int (0 : Int32)), .unset, .unset, .unset, .unset, .unset] at_43 rfl rfl ?_
      refine go_ldc2J K X45 (wd hw 5 rfl) at_45 rfl ?_
      refine go_lstore K X45 #[.val (.int p1), .val (.int p2), .val (.int p3), .val (.int k), .val (.int n), .val (.int (0 : Int32)), .val (.ref aB), .val (.long (-128 : Int64)), .second, .val (.long (127 : Int64)), .second, .val (.int (0 : Int32)), .unset, .unset, .unset, .unset, .unset] at_48 rfl rfl ?_
      refine go_goto K X45 at_50 (by decide) rfl ?_
      refine go_iload K X45 at_140 rfl rfl ?_
      refine go_ifT K X45 at_142 (by decide) rfl (by decide : (0 : Int32) = (0 : Int32)) ?_
      refine go_iload K X45 at_151 rfl rfl ?_
      refine go_ifF K X45 at_153 rfl (by decide : (0 : Int32) = (0 : Int32)) ?_
      refine go_iload K X45 at_156 rfl rfl ?_
      refine go_bipush K X45 (64 : Int32) at_158 rfl rfl ?_
      refine go_icmp K X45 at_160 (by decide) rfl rfl ?_ ?_
      · intro (hc46 : ¬ n = (64 : Int32))
        refine go_iload K X45 at_178 rfl rfl ?_
        refine go_ifT K X45 at_180 (by decide) rfl (by decide : (0 : Int32) = (0 : Int32)) ?_
        refine go_lconst K X45 (0 : Int64) at_193 rfl rfl ?_
        refine go_lstore K X45 #[.val (.int p1), .val (.int p2), .val (.int p3), .val (.int k), .val (.int n), .val (.int (0 : Int32)), .val (.ref aB), .val (.long (-128 : Int64)), .second, .val (.long (127 : Int64)), .second, .val (.int (0 : Int32)), .unset, .val (.long (0 : Int64)), .second, .unset, .unset] at_194 rfl rfl ?_
        refine go_iload K X45 at_196 rfl rfl ?_
        refine go_ifT K X45 at_198 (by decide) rfl (by decide : (0 : Int32) = (0 : Int32)) ?_
        refine go_lconst K X45 (1 : Int64) at_212 rfl rfl ?_
        refine go_iload K X45 at_213 rfl rfl ?_
        refine go_lshl K X45 at_215 rfl ?_
        refine go_lconst K X45 (1 : Int64) at_216 rfl rfl ?_
        refine go_lsub K X45 at_217 rfl ?_
        refine go_lstore K X45 #[.val (.int p1), .val (.int p2), .val (.int p3), .val (.int k), .val (.int n), .val (.int (0 : Int32)), .val (.ref aB), .val (.long (-128 : Int64)), .second, .val (.long (127 : Int64)), .second, .val (.int (0 : Int32)), .unset, .val (.long (0 : Int64)), .second, .val (.long (((1 : Int64) <<< (n &&& 0x3f).toInt64) - (1 : Int64))), .second] at_218 rfl rfl ?_
        refine go_lload K X45 at_220 rfl rfl ?_
        refine go_lload K X45 at_222 rfl rfl ?_
        refine go_lif K X45 at_224 rfl at_225 (by decide) rfl rfl ?_ ?_
        · intro (hc47 : (0 : Int64) < (-128 : Int64))
          refine go_iconst K X45 (0 : Int32) at_240 rfl rfl ?_
          refine go_istore K X45 #[.val (.int p1), .val (.int p2), .val (.int p3), .val (.int k), .val (.int n), .val (.int (0 : Int32)), .val (.ref aB), .val (.long (-128 : Int64)), .second, .val (.long (127 : Int64)), .second, .val (.int (0 : Int32)), .val (.int (0 : Int32)), .val (.long (0 : Int64)), .second, .val (.long (((1 : Int64) <<< (n &&& 0x3f).toInt64) - (1 : Int64))), .second] at_241 rfl rfl ?_
          refine go_aload K X45 at_243 rfl rfl rfl ?_
          refine go_iload K X45 at_245 rfl rfl ?_
          refine go_iload K X45 at_247 rfl rfl ?_
          refine go_virt K X45 (a := aB) (argsL := [(.int n), (.int (0 : Int32))]) (stk := []) (wd hw 6 rfl) (wd hw 7 rfl) (wd hw 9 rfl) (wd hw 9 rfl) (wd hw 8 rfl) (wd hw 10 rfl) (wd hw 2 rfl) (by decide) (lenOf pd_0 rfl) e45 H10 (rmHoldN hw aB n (0 : Int32) aL (8 : Int32) h0 H3 H5 H15) rfl rfl at_249 rfl (by decide) (W := 0) (Nat.le_of_eq rfl) (by decide) (cells' := 0) (slots' := 0) rfl rfl (by decide) (by decide) ?_
          rintro T48 h48 _ X48 e48 ⟨rfl, qe48⟩
          show Go _ _ _ _ _ _ _ (T48.setTop (mkF m 252 #[.val (.int p1), .val (.int p2), .val (.int p3), .val (.int k), .val (.int n), .val (.int (0 : Int32)), .val (.ref aB), .val (.long (-128 : Int64)), .second, .val (.long (127 : Int64)), .second, .val (.int (0 : Int32)), .val (.int (0 : Int32)), .val (.long (0 : Int64)), .second, .val (.long (((1 : Int64) <<< (n &&& 0x3f).toInt64) - (1 : Int64))), .second] [(.int (own_holdN (8 : Int32) n (0 : Int32)))]))
          replace e48 := e48.trans qe48
          refine go_iload K X48 at_252 rfl rfl ?_
          refine go_icmpF K X48 at_254 rfl (own_path14 n hn hc46 hc47 : (own_holdN (8 : Int32) n (0 : Int32)) = (0 : Int32)) ?_
          refine go_iconst K X48 (1 : Int32) at_257 rfl rfl ?_
          refine go_goto K X48 at_258 (by decide) rfl ?_
          refine go_retZ K X48 (Or.inr rfl) at_262 (by decide) (by decide) ?_
          rw [e48]
          exact ⟨rfl, rfl⟩
        · intro (hc47 : ¬ (0 : Int64) < (-128 : Int64))
          refine go_lload K X45 at_228 rfl rfl ?_
          refine go_lload K X45 at_230 rfl rfl ?_
          refine go_lif K X45 at_232 rfl at_233 (by decide) rfl rfl ?_ ?_
          · intro (hc49 : (127 : Int64) < (((1 : Int64) <<< (n &&& 0x3f).toInt64) - (1 : Int64)))
            refine go_iconst K X45 (0 : Int32) at_240 rfl rfl ?_
            refine go_istore K X45 #[.val (.int p1), .val (.int p2), .val (.int p3), .val (.int k), .val (.int n), .val (.int (0 : Int32)), .val (.ref aB), .val (.long (-128 : Int64)), .second, .val (.long (127 : Int64)), .second, .val (.int (0 : Int32)), .val (.int (0 : Int32)), .val (.long (0 : Int64)), .second, .val (.long (((1 : Int64) <<< (n &&& 0x3f).toInt64) - (1 : Int64))), .second] at_241 rfl rfl ?_
            refine go_aload K X45 at_243 rfl rfl rfl ?_
            refine go_iload K X45 at_245 rfl rfl ?_
            refine go_iload K X45 at_247 rfl rfl ?_
            refine go_virt K X45 (a := aB) (argsL := [(.int n), (.int (0 : Int32))]) (stk := []) (wd hw 6 rfl) (wd hw 7 rfl) (wd hw 9 rfl) (wd hw 9 rfl) (wd hw 8 rfl) (wd hw 10 rfl) (wd hw 2 rfl) (by decide) (lenOf pd_0 rfl) e45 H10 (rmHoldN hw aB n (0 : Int32) aL (8 : Int32) h0 H3 H5 H15) rfl rfl at_249 rfl (by decide) (W := 0) (Nat.le_of_eq rfl) (by decide) (cells' := 0) (slots' := 0) rfl rfl (by decide) (by decide) ?_
            rintro T50 h50 _ X50 e50 ⟨rfl, qe50⟩
            show Go _ _ _ _ _ _ _ (T50.setTop (mkF m 252 #[.val (.int p1), .val (.int p2), .val (.int p3), .val (.int k), .val (.int n), .val (.int (0 : Int32)), .val (.ref aB), .val (.long (-128 : Int64)), .second, .val (.long (127 : Int64)), .second, .val (.int (0 : Int32)), .val (.int (0 : Int32)), .val (.long (0 : Int64)), .second, .val (.long (((1 : Int64) <<< (n &&& 0x3f).toInt64) - (1 : Int64))), .second] [(.int (own_holdN (8 : Int32) n (0 : Int32)))]))
            replace e50 := e50.trans qe50
            refine go_iload K X50 at_252 rfl rfl ?_
            refine go_icmpF K X50 at_254 rfl (own_path15 n hn hc46 hc47 hc49 : (own_holdN (8 : Int32) n (0 : Int32)) = (0 : Int32)) ?_
            refine go_iconst K X50 (1 : Int32) at_257 rfl rfl ?_
            refine go_goto K X50 at_258 (by decide) rfl ?_
            refine go_retZ K X50 (Or.inr rfl) at_262 (by decide) (by decide) ?_
            rw [e50]
            exact ⟨rfl, rfl⟩
          · intro (hc49 : ¬ (127 : Int64) < (((1 : Int64) <<< (n &&& 0x3f).toInt64) - (1 : Int64)))
            refine go_iconst K X45 (1 : Int32) at_236 rfl rfl ?_
            refine go_goto K X45 at_237 (by decide) rfl ?_
            refine go_istore K X45 #[.val (.int p1), .val (.int p2), .val (.int p3), .val (.int k), .val (.int n), .val (.int (0 : Int32)), .val (.ref aB), .val (.long (-128 : Int64)), .second, .val (.long (127 : Int64)), .second, .val (.int (0 : Int32)), .val (.int (1 : Int32)), .val (.long (0 : Int64)), .second, .val (.long (((1 : Int64) <<< (n &&& 0x3f).toInt64) - (1 : Int64))), .second] at_241 rfl rfl ?_
            refine go_aload K X45 at_243 rfl rfl rfl ?_
            refine go_iload K X45 at_245 rfl rfl ?_
            refine go_iload K X45 at_247 rfl rfl ?_
            refine go_virt K X45 (a := aB) (argsL := [(.int n), (.int (0 : Int32))]) (stk := []) (wd hw 6 rfl) (wd hw 7 rfl) (wd hw 9 rfl) (wd hw 9 rfl) (wd hw 8 rfl) (wd hw 10 rfl) (wd hw 2 rfl) (by decide) (lenOf pd_0 rfl) e45 H10 (rmHoldN hw aB n (0 : Int32) aL (8 : Int32) h0 H3 H5 H15) rfl rfl at_249 rfl (by decide) (W := 0) (Nat.le_of_eq rfl) (by decide) (cells' := 0) (slots' := 0) rfl rfl (by decide) (by decide) ?_
            rintro T51 h51 _ X51 e51 ⟨rfl, qe51⟩
            show Go _ _ _ _ _ _ _ (T51.setTop (mkF m 252 #[.val (.int p1), .val (.int p2), .val (.int p3), .val (.int k), .val (.int n), .val (.int (0 : Int32)), .val (.ref aB), .val (.long (-128 : Int64)), .second, .val (.long (127 : Int64)), .second, .val (.int (0 : Int32)), .val (.int (1 : Int32)), .val (.long (0 : Int64)), .second, .val (.long (((1 : Int64) <<< (n &&& 0x3f).toInt64) - (1 : Int64))), .second] [(.int (own_holdN (8 : Int32) n (0 : Int32)))]))
            replace e51 := e51.trans qe51
            refine go_iload K X51 at_252 rfl rfl ?_
            refine go_icmpF K X51 at_254 rfl (own_path16 n hn hc46 hc47 hc49 : (own_holdN (8 : Int32) n (0 : Int32)) = (1 : Int32)) ?_
            refine go_iconst K X51 (1 : Int32) at_257 rfl rfl ?_
            refine go_goto K X51 at_258 (by decide) rfl ?_
            refine go_retZ K X51 (Or.inr rfl) at_262 (by decide) (by decide) ?_
            rw [e51]
            exact ⟨rfl, rfl⟩
      · intro (hc46 : n = (64 : Int32))
        refine go_iloadN K X45 at_163 rfl rfl ?_
        refine go_iconst K X45 (3 : Int32) at_164 rfl rfl ?_
        refine go_icmpT K X45 at_165 (by decide) rfl (by rw [hc15]; decide : ¬ k = (3 : Int32)) ?_
        refine go_iconst K X45 (0 : Int32) at_172 rfl rfl ?_
        refine go_istore K X45 #[.val (.int p1), .val (.int p2), .val (.int p3), .val (.int k), .val (.int n), .val (.int (0 : Int32)), .val (.ref aB), .val (.long (-128 : Int64)), .second, .val (.long (127 : Int64)), .second, .val (.int (0 : Int32)), .val (.int (0 : Int32)), .unset, .unset, .unset, .unset] at_173 rfl rfl ?_
        refine go_goto K X45 at_175 (by decide) rfl ?_
        refine go_aload K X45 at_243 rfl rfl rfl ?_
        refine go_iload K X45 at_245 rfl rfl ?_
        refine go_iload K X45 at_247 rfl rfl ?_
        refine go_virt K X45 (a := aB) (argsL := [(.int n), (.int (0 : Int32))]) (stk := []) (wd hw 6 rfl) (wd hw 7 rfl) (wd hw 9 rfl) (wd hw 9 rfl) (wd hw 8 rfl) (wd hw 10 rfl) (wd hw 2 rfl) (by decide) (lenOf pd_0 rfl) e45 H10 (rmHoldN hw aB n (0 : Int32) aL (8 : Int32) h0 H3 H5 H15) rfl rfl at_249 rfl (by decide) (W := 0) (Nat.le_of_eq rfl) (by decide) (cells' := 0) (slots' := 0) rfl rfl (by decide) (by decide) ?_
        rintro T52 h52 _ X52 e52 ⟨rfl, qe52⟩
        show Go _ _ _ _ _ _ _ (T52.setTop (mkF m 252 #[.val (.int p1), .val (.int p2), .val (.int p3), .val (.int k), .val (.int n), .val (.int (0 : Int32)), .val (.ref aB), .val (.long (-128 : Int64)), .second, .val (.long (127 : Int64)), .second, .val (.int (0 : Int32)), .val (.int (0 : Int32)), .unset, .unset, .unset, .unset] [(.int (own_holdN (8 : Int32) n (0 : Int32)))]))
        replace e52 := e52.trans qe52
        refine go_iload K X52 at_252 rfl rfl ?_
        refine go_icmpF K X52 at_254 rfl (own_path17 n hn hc46 : (own_holdN (8 : Int32) n (0 : Int32)) = (0 : Int32)) ?_
        refine go_iconst K X52 (1 : Int32) at_257 rfl rfl ?_
        refine go_goto K X52 at_258 (by decide) rfl ?_
        refine go_retZ K X52 (Or.inr rfl) at_262 (by decide) (by decide) ?_
        rw [e52]
        exact ⟨rfl, rfl⟩
  · intro (hc14 : ¬ (p3 &&& (1 : Int32)) = (0 : Int32))
    refine go_iconst K X0 (1 : Int32) at_21 rfl rfl ?_
    refine go_goto K X0 at_22 (by decide) rfl ?_
    refine go_istore K X0 #[.val (.int p1), .val (.int p2), .val (.int p3), .val (.int k), .val (.int n), .val (.int (1 : Int32)), .unset, .unset, .unset, .unset, .unset, .unset, .unset, .unset, .unset, .unset, .unset] at_26 rfl rfl ?_
    refine go_iconst K X0 (0 : Int32) at_28 rfl rfl ?_
    refine go_istore K X0 #[.val (.int p1), .val (.int p2), .val (.int p3), .val (.int k), .val (.int n), .val (.int (1 : Int32)), .unset, .unset, .unset, .unset, .unset, .val (.int (0 : Int32)), .unset, .unset, .unset, .unset, .unset] at_29 rfl rfl ?_
    refine go_iloadN K X0 at_31 rfl rfl ?_
    refine go_if K X0 at_32 (by decide) rfl rfl ?_ ?_
    · intro (hc53 : ¬ k = (0 : Int32))
      refine go_iloadN K X0 at_53 rfl rfl ?_
      refine go_iconst K X0 (1 : Int32) at_54 rfl rfl ?_
      refine go_icmp K X0 at_55 (by decide) rfl rfl ?_ ?_
      · intro (hc54 : ¬ k = (1 : Int32))
        refine go_iloadN K X0 at_76 rfl rfl ?_
        refine go_iconst K X0 (2 : Int32) at_77 rfl rfl ?_
        refine go_icmp K X0 at_78 (by decide) rfl rfl ?_ ?_
        · intro (hc55 : ¬ k = (2 : Int32))
          refine go_iloadN K X0 at_99 rfl rfl ?_
          refine go_iconst K X0 (3 : Int32) at_100 rfl rfl ?_
          refine go_icmp K X0 at_101 (by decide) rfl rfl ?_ ?_
          · intro (hc56 : ¬ k = (3 : Int32))
            refine go_getS K X0 (host := "") (Or.inl (wd hw 19 rfl)) Via.refl e0 H4 at_122 rfl ?_
            intro T57 X57 e57
            refine go_astore K X57 #[.val (.int p1), .val (.int p2), .val (.int p3), .val (.int k), .val (.int n), .val (.int (1 : Int32)), .val (.ref aG), .unset, .unset, .unset, .unset, .val (.int (0 : Int32)), .unset, .unset, .unset, .unset, .unset] at_125 rfl rfl rfl ?_
            refine go_ldc2J K X57 (wd hw 21 rfl) at_127 rfl ?_
            refine go_lstore K X57 #[.val (.int p1), .val (.int p2), .val (.int p3), .val (.int k), .val (.int n), .val (.int (1 : Int32)), .val (.ref aG), .val (.long (-9223372036854775808 : Int64)), .second, .unset, .unset, .val (.int (0 : Int32)), .unset, .unset, .unset, .unset, .unset] at_130 rfl rfl ?_
            refine go_ldc2J K X57 (wd hw 22 rfl) at_132 rfl ?_
            refine go_lstore K X57 #[.val (.int p1), .val (.int p2), .val (.int p3), .val (.int k), .val (.int n), .val (.int (1 : Int32)), .val (.ref aG), .val (.long (-9223372036854775808 : Int64)), .second, .val (.long (9223372036854775807 : Int64)), .second, .val (.int (0 : Int32)), .unset, .unset, .unset, .unset, .unset] at_135 rfl rfl ?_
            refine go_iconst K X57 (1 : Int32) at_137 rfl rfl ?_
            refine go_istore K X57 #[.val (.int p1), .val (.int p2), .val (.int p3), .val (.int k), .val (.int n), .val (.int (1 : Int32)), .val (.ref aG), .val (.long (-9223372036854775808 : Int64)), .second, .val (.long (9223372036854775807 : Int64)), .second, .val (.int (1 : Int32)), .unset, .unset, .unset, .unset, .unset] at_138 rfl rfl ?_
            refine go_iload K X57 at_140 rfl rfl ?_
            refine go_ifF K X57 at_142 rfl (by decide : ¬ (1 : Int32) = (0 : Int32)) ?_
            refine go_iconst K X57 (1 : Int32) at_145 rfl rfl ?_
            refine go_istore K X57 #[.val (.int p1), .val (.int p2), .val (.int p3), .val (.int k), .val (.int n), .val (.int (1 : Int32)), .val (.ref aG), .val (.long (-9223372036854775808 : Int64)), .second, .val (.long (9223372036854775807 : Int64)), .second, .val (.int (1 : Int32)), .val (.int (1 : Int32)), .unset, .unset, .unset, .unset] at_146 rfl rfl ?_
            refine go_goto K X57 at_148 (by decide) rfl ?_
            refine go_aload K X57 at_243 rfl rfl rfl ?_
            refine go_iload K X57 at_245 rfl rfl ?_
            refine go_iload K X57 at_247 rfl rfl ?_
            refine go_virt K X57 (a := aG) (argsL := [(.int n), (.int (1 : Int32))]) (stk := []) (wd hw 6 rfl) (wd hw 7 rfl) (wd hw 9 rfl) (wd hw 9 rfl) (wd hw 8 rfl) (wd hw 10 rfl) (wd hw 2 rfl) (by decide) (lenOf pd_0 rfl) e57 H14 (rmHoldN hw aG n (1 : Int32) aL (2147483647 : Int32) h0 H3 H9 H18) rfl rfl at_249 rfl (by decide) (W := 0) (Nat.le_of_eq rfl) (by decide) (cells' := 0) (slots' := 0) rfl rfl (by decide) (by decide) ?_
            rintro T58 h58 _ X58 e58 ⟨rfl, qe58⟩
            show Go _ _ _ _ _ _ _ (T58.setTop (mkF m 252 #[.val (.int p1), .val (.int p2), .val (.int p3), .val (.int k), .val (.int n), .val (.int (1 : Int32)), .val (.ref aG), .val (.long (-9223372036854775808 : Int64)), .second, .val (.long (9223372036854775807 : Int64)), .second, .val (.int (1 : Int32)), .val (.int (1 : Int32)), .unset, .unset, .unset, .unset] [(.int (own_holdN (2147483647 : Int32) n (1 : Int32)))]))
            replace e58 := e58.trans qe58
            refine go_iload K X58 at_252 rfl rfl ?_
            refine go_icmpF K X58 at_254 rfl (own_path18 n hn  : (own_holdN (2147483647 : Int32) n (1 : Int32)) = (1 : Int32)) ?_
            refine go_iconst K X58 (1 : Int32) at_257 rfl rfl ?_
            refine go_goto K X58 at_258 (by decide) rfl ?_
            refine go_retZ K X58 (Or.inr rfl) at_262 (by decide) (by decide) ?_
            rw [e58]
            exact ⟨rfl, rfl⟩
          · intro (hc56 : k = (3 : Int32))
            refine go_getS K X0 (host := "") (Or.inl (wd hw 23 rfl)) Via.refl e0 H3 at_104 rfl ?_
            intro T59 X59 e59
            refine go_astore K X59 #[.val (.int p1), .val (.int p2), .val (.int p3), .val (.int k), .val (.int n), .val (.int (1 : Int32)), .val (.ref aL), .unset, .unset, .unset, .unset, .val (.int (0 : Int32)), .unset, .unset, .unset, .unset, .unset] at_107 rfl rfl rfl ?_
            refine go_ldc2J K X59 (wd hw 21 rfl) at_109 rfl ?_
            refine go_lstore K X59 #[.val (.int p1), .val (.int p2), .val (.int p3), .val (.int k), .val (.int n), .val (.int (1 : Int32)), .val (.ref aL), .val (.long (-9223372036854775808 : Int64)), .second, .unset, .unset, .val (.int (0 : Int32)), .unset, .unset, .unset, .unset, .unset] at_112 rfl rfl ?_
            refine go_ldc2J K X59 (wd hw 22 rfl) at_114 rfl ?_
            refine go_lstore K X59 #[.val (.int p1), .val (.int p2), .val (.int p3), .val (.int k), .val (.int n), .val (.int (1 : Int32)), .val (.ref aL), .val (.long (-9223372036854775808 : Int64)), .second, .val (.long (9223372036854775807 : Int64)), .second, .val (.int (0 : Int32)), .unset, .unset, .unset, .unset, .unset] at_117 rfl rfl ?_
            refine go_goto K X59 at_119 (by decide) rfl ?_
            refine go_iload K X59 at_140 rfl rfl ?_
            refine go_ifT K X59 at_142 (by decide) rfl (by decide : (0 : Int32) = (0 : Int32)) ?_
            refine go_iload K X59 at_151 rfl rfl ?_
            refine go_ifT K X59 at_153 (by decide) rfl (by decide : ¬ (1 : Int32) = (0 : Int32)) ?_
            refine go_iload K X59 at_178 rfl rfl ?_
            refine go_ifF K X59 at_180 rfl (by decide : ¬ (1 : Int32) = (0 : Int32)) ?_
            refine go_lconst K X59 (1 : Int64) at_183 rfl rfl ?_
            refine go_iload K X59 at_184 rfl rfl ?_
            refine go_iconst K X59 (1 : Int32) at_186 rfl rfl ?_
            refine go_isub K X59 at_187 rfl ?_
            refine go_lshl K X59 at_188 rfl ?_
            refine go_lneg K X59 at_189 rfl ?_
            refine go_goto K X59 at_190 (by decide) rfl ?_
            refine go_lstore K X59 #[.val (.int p1), .val (.int p2), .val (.int p3), .val (.int k), .val (.int n), .val (.int (1 : Int32)), .val (.ref aL), .val (.long (-9223372036854775808 : Int64)), .second, .val (.long (9223372036854775807 : Int64)), .second, .val (.int (0 : Int32)), .unset, .val (.long (-((1 : Int64) <<< ((n - (1 : Int32)) &&& 0x3f).toInt64))), .second, .unset, .unset] at_194 rfl rfl ?_
            refine go_iload K X59 at_196 rfl rfl ?_
            refine go_ifF K X59 at_198 rfl (by decide : ¬ (1 : Int32) = (0 : Int32)) ?_
            refine go_lconst K X59 (1 : Int64) at_201 rfl rfl ?_
            refine go_iload K X59 at_202 rfl rfl ?_
            refine go_iconst K X59 (1 : Int32) at_204 rfl rfl ?_
            refine go_isub K X59 at_205 rfl ?_
            refine go_lshl K X59 at_206 rfl ?_
            refine go_lconst K X59 (1 : Int64) at_207 rfl rfl ?_
            refine go_lsub K X59 at_208 rfl ?_
            refine go_goto K X59 at_209 (by decide) rfl ?_
            refine go_lstore K X59 #[.val (.int p1), .val (.int p2), .val (.int p3), .val (.int k), .val (.int n), .val (.int (1 : Int32)), .val (.ref aL), .val (.long (-9223372036854775808 : Int64)), .second, .val (.long (9223372036854775807 : Int64)), .second, .val (.int (0 : Int32)), .unset, .val (.long (-((1 : Int64) <<< ((n - (1 : Int32)) &&& 0x3f).toInt64))), .second, .val (.long (((1 : Int64) <<< ((n - (1 : Int32)) &&& 0x3f).toInt64) - (1 : Int64))), .second] at_218 rfl rfl ?_
            refine go_lload K X59 at_220 rfl rfl ?_
            refine go_lload K X59 at_222 rfl rfl ?_
            refine go_lif K X59 at_224 rfl at_225 (by decide) rfl rfl ?_ ?_
            · intro (hc60 : (-((1 : Int64) <<< ((n - (1 : Int32)) &&& 0x3f).toInt64)) < (-9223372036854775808 : Int64))
              refine go_iconst K X59 (0 : Int32) at_240 rfl rfl ?_
              refine go_istore K X59 #[.val (.int p1), .val (.int p2), .val (.int p3), .val (.int k), .val (.int n), .val (.int (1 : Int32)), .val (.ref aL), .val (.long (-9223372036854775808 : Int64)), .second, .val (.long (9223372036854775807 : Int64)), .second, .val (.int (0 : Int32)), .val (.int (0 : Int32)), .val (.long (-((1 : Int64) <<< ((n - (1 : Int32)) &&& 0x3f).toInt64))), .second, .val (.long (((1 : Int64) <<< ((n - (1 : Int32)) &&& 0x3f).toInt64) - (1 : Int64))), .second] at_241 rfl rfl ?_
              refine go_aload K X59 at_243 rfl rfl rfl ?_
              refine go_iload K X59 at_245 rfl rfl ?_
              refine go_iload K X59 at_247 rfl rfl ?_
              refine go_virt K X59 (a := aL) (argsL := [(.int n), (.int (1 : Int32))]) (stk := []) (wd hw 6 rfl) (wd hw 7 rfl) (wd hw 9 rfl) (wd hw 9 rfl) (wd hw 8 rfl) (wd hw 10 rfl) (wd hw 2 rfl) (by decide) (lenOf pd_0 rfl) e59 H13 (rmHoldL hw aL n (1 : Int32) (64 : Int32) h0 H3 H8) rfl rfl at_249 rfl (by decide) (W := 0) (Nat.le_of_eq rfl) (by decide) (cells' := 0) (slots' := 0) rfl rfl (by decide) (by decide) ?_
              rintro T61 h61 _ X61 e61 ⟨rfl, qe61⟩
              show Go _ _ _ _ _ _ _ (T61.setTop (mkF m 252 #[.val (.int p1), .val (.int p2), .val (.int p3), .val (.int k), .val (.int n), .val (.int (1 : Int32)), .val (.ref aL), .val (.long (-9223372036854775808 : Int64)), .second, .val (.long (9223372036854775807 : Int64)), .second, .val (.int (0 : Int32)), .val (.int (0 : Int32)), .val (.long (-((1 : Int64) <<< ((n - (1 : Int32)) &&& 0x3f).toInt64))), .second, .val (.long (((1 : Int64) <<< ((n - (1 : Int32)) &&& 0x3f).toInt64) - (1 : Int64))), .second] [(.int (own_holdL (64 : Int32) n (1 : Int32)))]))
              replace e61 := e61.trans qe61
              refine go_iload K X61 at_252 rfl rfl ?_
              refine go_icmpF K X61 at_254 rfl (own_path19 n hn hc60 : (own_holdL (64 : Int32) n (1 : Int32)) = (0 : Int32)) ?_
              refine go_iconst K X61 (1 : Int32) at_257 rfl rfl ?_
              refine go_goto K X61 at_258 (by decide) rfl ?_
              refine go_retZ K X61 (Or.inr rfl) at_262 (by decide) (by decide) ?_
              rw [e61]
              exact ⟨rfl, rfl⟩
            · intro (hc60 : ¬ (-((1 : Int64) <<< ((n - (1 : Int32)) &&& 0x3f).toInt64)) < (-9223372036854775808 : Int64))
              refine go_lload K X59 at_228 rfl rfl ?_
              refine go_lload K X59 at_230 rfl rfl ?_
              refine go_lif K X59 at_232 rfl at_233 (by decide) rfl rfl ?_ ?_
              · intro (hc62 : (9223372036854775807 : Int64) < (((1 : Int64) <<< ((n - (1 : Int32)) &&& 0x3f).toInt64) - (1 : Int64)))
                refine go_iconst K X59 (0 : Int32) at_240 rfl rfl ?_
                refine go_istore K X59 #[.val (.int p1), .val (.int p2), .val (.int p3), .val (.int k), .val (.int n), .val (.int (1 : Int32)), .val (.ref aL), .val (.long (-9223372036854775808 : Int64)), .second, .val (.long (9223372036854775807 : Int64)), .second, .val (.int (0 : Int32)), .val (.int (0 : Int32)), .val (.long (-((1 : Int64) <<< ((n - (1 : Int32)) &&& 0x3f).toInt64))), .second, .val (.long (((1 : Int64) <<< ((n - (1 : Int32)) &&& 0x3f).toInt64) - (1 : Int64))), .second] at_241 rfl rfl ?_
                refine go_aload K X59 at_243 rfl rfl rfl ?_
                refine go_iload K X59 at_245 rfl rfl ?_
                refine go_iload K X59 at_247 rfl rfl ?_
                refine go_virt K X59 (a := aL) (argsL := [(.int n), (.int (1 : Int32))]) (stk := []) (wd hw 6 rfl) (wd hw 7 rfl) (wd hw 9 rfl) (wd hw 9 rfl) (wd hw 8 rfl) (wd hw 10 rfl) (wd hw 2 rfl) (by decide) (lenOf pd_0 rfl) e59 H13 (rmHoldL hw aL n (1 : Int32) (64 : Int32) h0 H3 H8) rfl rfl at_249 rfl (by decide) (W := 0) (Nat.le_of_eq rfl) (by decide) (cells' := 0) (slots' := 0) rfl rfl (by decide) (by decide) ?_
                rintro T63 h63 _ X63 e63 ⟨rfl, qe63⟩
                show Go _ _ _ _ _ _ _ (T63.setTop (mkF m 252 #[.val (.int p1), .val (.int p2), .val (.int p3), .val (.int k), .val (.int n), .val (.int (1 : Int32)), .val (.ref aL), .val (.long (-9223372036854775808 : Int64)), .second, .val (.long (9223372036854775807 : Int64)), .second, .val (.int (0 : Int32)), .val (.int (0 : Int32)), .val (.long (-((1 : Int64) <<< ((n - (1 : Int32)) &&& 0x3f).toInt64))), .second, .val (.long (((1 : Int64) <<< ((n - (1 : Int32)) &&& 0x3f).toInt64) - (1 : Int64))), .second] [(.int (own_holdL (64 : Int32) n (1 : Int32)))]))
                replace e63 := e63.trans qe63
                refine go_iload K X63 at_252 rfl rfl ?_
                refine go_icmpF K X63 at_254 rfl (own_path20 n hn hc60 hc62 : (own_holdL (64 : Int32) n (1 : Int32)) = (0 : Int32)) ?_
                refine go_iconst K X63 (1 : Int32) at_257 rfl rfl ?_
                refine go_goto K X63 at_258 (by decide) rfl ?_
                refine go_retZ K X63 (Or.inr rfl) at_262 (by decide) (by decide) ?_
                rw [e63]
                exact ⟨rfl, rfl⟩
              · intro (hc62 : ¬ (9223372036854775807 : Int64) < (((1 : Int64) <<< ((n - (1 : Int32)) &&& 0x3f).toInt64) - (1 : Int64)))
                refine go_iconst K X59 (1 : Int32) at_236 rfl rfl ?_
                refine go_goto K X59 at_237 (by decide) rfl ?_
                refine go_istore K X59 #[.val (.int p1), .val (.int p2), .val (.int p3), .val (.int k), .val (.int n), .val (.int (1 : Int32)), .val (.ref aL), .val (.long (-9223372036854775808 : Int64)), .second, .val (.long (9223372036854775807 : Int64)), .second, .val (.int (0 : Int32)), .val (.int (1 : Int32)), .val (.long (-((1 : Int64) <<< ((n - (1 : Int32)) &&& 0x3f).toInt64))), .second, .val (.long (((1 : Int64) <<< ((n - (1 : Int32)) &&& 0x3f).toInt64) - (1 : Int64))), .second] at_241 rfl rfl ?_
                refine go_aload K X59 at_243 rfl rfl rfl ?_
                refine go_iload K X59 at_245 rfl rfl ?_
                refine go_iload K X59 at_247 rfl rfl ?_
                refine go_virt K X59 (a := aL) (argsL := [(.int n), (.int (1 : Int32))]) (stk := []) (wd hw 6 rfl) (wd hw 7 rfl) (wd hw 9 rfl) (wd hw 9 rfl) (wd hw 8 rfl) (wd hw 10 rfl) (wd hw 2 rfl) (by decide) (lenOf pd_0 rfl) e59 H13 (rmHoldL hw aL n (1 : Int32) (64 : Int32) h0 H3 H8) rfl rfl at_249 rfl (by decide) (W := 0) (Nat.le_of_eq rfl) (by decide) (cells' := 0) (slots' := 0) rfl rfl (by decide) (by decide) ?_
                rintro T64 h64 _ X64 e64 ⟨rfl, qe64⟩
                show Go _ _ _ _ _ _ _ (T64.setTop (mkF m 252 #[.val (.int p1), .val (.int p2), .val (.int p3), .val (.int k), .val (.int n), .val (.int (1 : Int32)), .val (.ref aL), .val (.long (-9223372036854775808 : Int64)), .second, .val (.long (9223372036854775807 : Int64)), .second, .val (.int (0 : Int32)), .val (.int (1 : Int32)), .val (.long (-((1 : Int64) <<< ((n - (1 : Int32)) &&& 0x3f).toInt64))), .second, .val (.long (((1 : Int64) <<< ((n - (1 : Int32)) &&& 0x3f).toInt64) - (1 : Int64))), .second] [(.int (own_holdL (64 : Int32) n (1 : Int32)))]))
                replace e64 := e64.trans qe64
                refine go_iload K X64 at_252 rfl rfl ?_
                refine go_icmpF K X64 at_254 rfl (own_path21 n hn hc60 hc62 : (own_holdL (64 : Int32) n (1 : Int32)) = (1 : Int32)) ?_
                refine go_iconst K X64 (1 : Int32) at_257 rfl rfl ?_
                refine go_goto K X64 at_258 (by decide) rfl ?_
                refine go_retZ K X64 (Or.inr rfl) at_262 (by decide) (by decide) ?_
                rw [e64]
                exact ⟨rfl, rfl⟩
        · intro (hc55 : k = (2 : Int32))
          refine go_getS K X0 (host := "") (Or.inl (wd hw 24 rfl)) Via.refl e0 H2 at_81 rfl ?_
          intro T65 X65 e65
          refine go_astore K X65 #[.val (.int p1), .val (.int p2), .val (.int p3), .val (.int k), .val (.int n), .val (.int (1 : Int32)), .val (.ref aI), .unset, .unset, .unset, .unset, .val (.int (0 : Int32)), .unset, .unset, .unset, .unset, .unset] at_84 rfl rfl rfl ?_
          refine go_ldc2J K X65 (wd hw 26 rfl) at_86 rfl ?_
          refine go_lstore K X65 #[.val (.int p1), .val (.int p2), .val (.int p3), .val (.int k), .val (.int n), .val (.int (1 : Int32)), .val (.ref aI), .val (.long (-2147483648 : Int64)), .second, .unset, .unset, .val (.int (0 : Int32)), .unset, .unset, .unset, .unset, .unset] at_89 rfl rfl ?_
          refine go_ldc2J K X65 (wd hw 27 rfl) at_91 rfl ?_
          refine go_lstore K X65 #[.val (.int p1), .val (.int p2), .val (.int p3), .val (.int k), .val (.int n), .val (.int (1 : Int32)), .val (.ref aI), .val (.long (-2147483648 : Int64)), .second, .val (.long (2147483647 : Int64)), .second, .val (.int (0 : Int32)), .unset, .unset, .unset, .unset, .unset] at_94 rfl rfl ?_
          refine go_goto K X65 at_96 (by decide) rfl ?_
          refine go_iload K X65 at_140 rfl rfl ?_
          refine go_ifT K X65 at_142 (by decide) rfl (by decide : (0 : Int32) = (0 : Int32)) ?_
          refine go_iload K X65 at_151 rfl rfl ?_
          refine go_ifT K X65 at_153 (by decide) rfl (by decide : ¬ (1 : Int32) = (0 : Int32)) ?_
          refine go_iload K X65 at_178 rfl rfl ?_
          refine go_ifF K X65 at_180 rfl (by decide : ¬ (1 : Int32) = (0 : Int32)) ?_
          refine go_lconst K X65 (1 : Int64) at_183 rfl rfl ?_
          refine go_iload K X65 at_184 rfl rfl ?_
          refine go_iconst K X65 (1 : Int32) at_186 rfl rfl ?_
          refine go_isub K X65 at_187 rfl ?_
          refine go_lshl K X65 at_188 rfl ?_
          refine go_lneg K X65 at_189 rfl ?_
          refine go_goto K X65 at_190 (by decide) rfl ?_
          refine go_lstore K X65 #[.val (.int p1), .val (.int p2), .val (.int p3), .val (.int k), .val (.int n), .val (.int (1 : Int32)), .val (.ref aI), .val (.long (-2147483648 : Int64)), .second, .val (.long (2147483647 : Int64)), .second, .val (.int (0 : Int32)), .unset, .val (.long (-((1 : Int64) <<< ((n - (1 : Int32)) &&& 0x3f).toInt64))), .second, .unset, .unset] at_194 rfl rfl ?_
          refine go_iload K X65 at_196 rfl rfl ?_
          refine go_ifF K X65 at_198 rfl (by decide : ¬ (1 : Int32) = (0 : Int32)) ?_
          refine go_lconst K X65 (1 : Int64) at_201 rfl rfl ?_
          refine go_iload K X65 at_202 rfl rfl ?_
          refine go_iconst K X65 (1 : Int32) at_204 rfl rfl ?_
          refine go_isub K X65 at_205 rfl ?_
          refine go_lshl K X65 at_206 rfl ?_
          refine go_lconst K X65 (1 : Int64) at_207 rfl rfl ?_
          refine go_lsub K X65 at_208 rfl ?_
          refine go_goto K X65 at_209 (by decide) rfl ?_
          refine go_lstore K X65 #[.val (.int p1), .val (.int p2), .val (.int p3), .val (.int k), .val (.int n), .val (.int (1 : Int32)), .val (.ref aI), .val (.long (-2147483648 : Int64)), .second, .val (.long (2147483647 : Int64)), .second, .val (.int (0 : Int32)), .unset, .val (.long (-((1 : Int64) <<< ((n - (1 : Int32)) &&& 0x3f).toInt64))), .second, .val (.long (((1 : Int64) <<< ((n - (1 : Int32)) &&& 0x3f).toInt64) - (1 : Int64))), .second] at_218 rfl rfl ?_
          refine go_lload K X65 at_220 rfl rfl ?_
          refine go_lload K X65 at_222 rfl rfl ?_
          refine go_lif K X65 at_224 rfl at_225 (by decide) rfl rfl ?_ ?_
          · intro (hc66 : (-((1 : Int64) <<< ((n - (1 : Int32)) &&& 0x3f).toInt64)) < (-2147483648 : Int64))
            refine go_iconst K X65 (0 : Int32) at_240 rfl rfl ?_
            refine go_istore K X65 #[.val (.int p1), .val (.int p2), .val (.int p3), .val (.int k), .val (.int n), .val (.int (1 : Int32)), .val (.ref aI), .val (.long (-2147483648 : Int64)), .second, .val (.long (2147483647 : Int64)), .second, .val (.int (0 : Int32)), .val (.int (0 : Int32)), .val (.long (-((1 : Int64) <<< ((n - (1 : Int32)) &&& 0x3f).toInt64))), .second, .val (.long (((1 : Int64) <<< ((n - (1 : Int32)) &&& 0x3f).toInt64) - (1 : Int64))), .second] at_241 rfl rfl ?_
            refine go_aload K X65 at_243 rfl rfl rfl ?_
            refine go_iload K X65 at_245 rfl rfl ?_
            refine go_iload K X65 at_247 rfl rfl ?_
            refine go_virt K X65 (a := aI) (argsL := [(.int n), (.int (1 : Int32))]) (stk := []) (wd hw 6 rfl) (wd hw 7 rfl) (wd hw 9 rfl) (wd hw 9 rfl) (wd hw 8 rfl) (wd hw 10 rfl) (wd hw 2 rfl) (by decide) (lenOf pd_0 rfl) e65 H12 (rmHoldN hw aI n (1 : Int32) aL (32 : Int32) h0 H3 H7 H17) rfl rfl at_249 rfl (by decide) (W := 0) (Nat.le_of_eq rfl) (by decide) (cells' := 0) (slots' := 0) rfl rfl (by decide) (by decide) ?_
            rintro T67 h67 _ X67 e67 ⟨rfl, qe67⟩
            show Go _ _ _ _ _ _ _ (T67.setTop (mkF m 252 #[.val (.int p1), .val (.int p2), .val (.int p3), .val (.int k), .val (.int n), .val (.int (1 : Int32)), .val (.ref aI), .val (.long (-2147483648 : Int64)), .second, .val (.long (2147483647 : Int64)), .second, .val (.int (0 : Int32)), .val (.int (0 : Int32)), .val (.long (-((1 : Int64) <<< ((n - (1 : Int32)) &&& 0x3f).toInt64))), .second, .val (.long (((1 : Int64) <<< ((n - (1 : Int32)) &&& 0x3f).toInt64) - (1 : Int64))), .second] [(.int (own_holdN (32 : Int32) n (1 : Int32)))]))
            replace e67 := e67.trans qe67
            refine go_iload K X67 at_252 rfl rfl ?_
            refine go_icmpF K X67 at_254 rfl (own_path22 n hn hc66 : (own_holdN (32 : Int32) n (1 : Int32)) = (0 : Int32)) ?_
            refine go_iconst K X67 (1 : Int32) at_257 rfl rfl ?_
            refine go_goto K X67 at_258 (by decide) rfl ?_
            refine go_retZ K X67 (Or.inr rfl) at_262 (by decide) (by decide) ?_
            rw [e67]
            exact ⟨rfl, rfl⟩
          · intro (hc66 : ¬ (-((1 : Int64) <<< ((n - (1 : Int32)) &&& 0x3f).toInt64)) < (-2147483648 : Int64))
            refine go_lload K X65 at_228 rfl rfl ?_
            refine go_lload K X65 at_230 rfl rfl ?_
            refine go_lif K X65 at_232 rfl at_233 (by decide) rfl rfl ?_ ?_
            · intro (hc68 : (2147483647 : Int64) < (((1 : Int64) <<< ((n - (1 : Int32)) &&& 0x3f).toInt64) - (1 : Int64)))
              refine go_iconst K X65 (0 : Int32) at_240 rfl rfl ?_
              refine go_istore K X65 #[.val (.int p1), .val (.int p2), .val (.int p3), .val (.int k), .val (.int n), .val (.int (1 : Int32)), .val (.ref aI), .val (.long (-2147483648 : Int64)), .second, .val (.long (2147483647 : Int64)), .second, .val (.int (0 : Int32)), .val (.int (0 : Int32)), .val (.long (-((1 : Int64) <<< ((n - (1 : Int32)) &&& 0x3f).toInt64))), .second, .val (.long (((1 : Int64) <<< ((n - (1 : Int32)) &&& 0x3f).toInt64) - (1 : Int64))), .second] at_241 rfl rfl ?_
              refine go_aload K X65 at_243 rfl rfl rfl ?_
              refine go_iload K X65 at_245 rfl rfl ?_
              refine go_iload K X65 at_247 rfl rfl ?_
              refine go_virt K X65 (a := aI) (argsL := [(.int n), (.int (1 : Int32))]) (stk := []) (wd hw 6 rfl) (wd hw 7 rfl) (wd hw 9 rfl) (wd hw 9 rfl) (wd hw 8 rfl) (wd hw 10 rfl) (wd hw 2 rfl) (by decide) (lenOf pd_0 rfl) e65 H12 (rmHoldN hw aI n (1 : Int32) aL (32 : Int32) h0 H3 H7 H17) rfl rfl at_249 rfl (by decide) (W := 0) (Nat.le_of_eq rfl) (by decide) (cells' := 0) (slots' := 0) rfl rfl (by decide) (by decide) ?_
              rintro T69 h69 _ X69 e69 ⟨rfl, qe69⟩
              show Go _ _ _ _ _ _ _ (T69.setTop (mkF m 252 #[.val (.int p1), .val (.int p2), .val (.int p3), .val (.int k), .val (.int n), .val (.int (1 : Int32)), .val (.ref aI), .val (.long (-2147483648 : Int64)), .second, .val (.long (2147483647 : Int64)), .second, .val (.int (0 : Int32)), .val (.int (0 : Int32)), .val (.long (-((1 : Int64) <<< ((n - (1 : Int32)) &&& 0x3f).toInt64))), .second, .val (.long (((1 : Int64) <<< ((n - (1 : Int32)) &&& 0x3f).toInt64) - (1 : Int64))), .second] [(.int (own_holdN (32 : Int32) n (1 : Int32)))]))
              replace e69 := e69.trans qe69
              refine go_iload K X69 at_252 rfl rfl ?_
              refine go_icmpF K X69 at_254 rfl (own_path23 n hn hc66 hc68 : (own_holdN (32 : Int32) n (1 : Int32)) = (0 : Int32)) ?_
              refine go_iconst K X69 (1 : Int32) at_257 rfl rfl ?_
              refine go_goto K X69 at_258 (by decide) rfl ?_
              refine go_retZ K X69 (Or.inr rfl) at_262 (by decide) (by decide) ?_
              rw [e69]
              exact ⟨rfl, rfl⟩
            · intro (hc68 : ¬ (2147483647 : Int64) < (((1 : Int64) <<< ((n - (1 : Int32)) &&& 0x3f).toInt64) - (1 : Int64)))
              refine go_iconst K X65 (1 : Int32) at_236 rfl rfl ?_
              refine go_goto K X65 at_237 (by decide) rfl ?_
              refine go_istore K X65 #[.val (.int p1), .val (.int p2), .val (.int p3), .val (.int k), .val (.int n), .val (.int (1 : Int32)), .val (.ref aI), .val (.long (-2147483648 : Int64)), .second, .val (.long (2147483647 : Int64)), .second, .val (.int (0 : Int32)), .val (.int (1 : Int32)), .val (.long (-((1 : Int64) <<< ((n - (1 : Int32)) &&& 0x3f).toInt64))), .second, .val (.long (((1 : Int64) <<< ((n - (1 : Int32)) &&& 0x3f).toInt64) - (1 : Int64))), .second] at_241 rfl rfl ?_
              refine go_aload K X65 at_243 rfl rfl rfl ?_
              refine go_iload K X65 at_245 rfl rfl ?_
              refine go_iload K X65 at_247 rfl rfl ?_
              refine go_virt K X65 (a := aI) (argsL := [(.int n), (.int (1 : Int32))]) (stk := []) (wd hw 6 rfl) (wd hw 7 rfl) (wd hw 9 rfl) (wd hw 9 rfl) (wd hw 8 rfl) (wd hw 10 rfl) (wd hw 2 rfl) (by decide) (lenOf pd_0 rfl) e65 H12 (rmHoldN hw aI n (1 : Int32) aL (32 : Int32) h0 H3 H7 H17) rfl rfl at_249 rfl (by decide) (W := 0) (Nat.le_of_eq rfl) (by decide) (cells' := 0) (slots' := 0) rfl rfl (by decide) (by decide) ?_
              rintro T70 h70 _ X70 e70 ⟨rfl, qe70⟩
              show Go _ _ _ _ _ _ _ (T70.setTop (mkF m 252 #[.val (.int p1), .val (.int p2), .val (.int p3), .val (.int k), .val (.int n), .val (.int (1 : Int32)), .val (.ref aI), .val (.long (-2147483648 : Int64)), .second, .val (.long (2147483647 : Int64)), .second, .val (.int (0 : Int32)), .val (.int (1 : Int32)), .val (.long (-((1 : Int64) <<< ((n - (1 : Int32)) &&& 0x3f).toInt64))), .second, .val (.long (((1 : Int64) <<< ((n - (1 : Int32)) &&& 0x3f).toInt64) - (1 : Int64))), .second] [(.int (own_holdN (32 : Int32) n (1 : Int32)))]))
              replace e70 := e70.trans qe70
              refine go_iload K X70 at_252 rfl rfl ?_
              refine go_icmpF K X70 at_254 rfl (own_path24 n hn hc66 hc68 : (own_holdN (32 : Int32) n (1 : Int32)) = (1 : Int32)) ?_
              refine go_iconst K X70 (1 : Int32) at_257 rfl rfl ?_
              refine go_goto K X70 at_258 (by decide) rfl ?_
              refine go_retZ K X70 (Or.inr rfl) at_262 (by decide) (by decide) ?_
              rw [e70]
              exact ⟨rfl, rfl⟩
      · intro (hc54 : k = (1 : Int32))
        refine go_getS K X0 (host := "") (Or.inl (wd hw 15 rfl)) Via.refl e0 H1 at_58 rfl ?_
        intro T71 X71 e71
        refine go_astore K X71 #[.val (.int p1), .val (.int p2), .val (.int p3), .val (.int k), .val (.int n), .val (.int (1 : Int32)), .val (.ref aS), .unset, .unset, .unset, .unset, .val (.int (0 : Int32)), .unset, .unset, .unset, .unset, .unset] at_61 rfl rfl rfl ?_
        refine go_ldc2J K X71 (wd hw 17 rfl) at_63 rfl ?_
        refine go_lstore K X71 #[.val (.int p1), .val (.int p2), .val (.int p3), .val (.int k), .val (.int n), .val (.int (1 : Int32)), .val (.ref aS), .val (.long (-32768 : Int64)), .second, .unset, .unset, .val (.int (0 : Int32)), .unset, .unset, .unset, .unset, .unset] at_66 rfl rfl ?_
        refine go_ldc2J K X71 (wd hw 18 rfl) at_68 rfl ?_
        refine go_lstore K X71 #[.val (.int p1), .val (.int p2), .val (.int p3), .val (.int k), .val (.int n), .val (.int (1 : Int32)), .val (.ref aS), .val (.long (-32768 : Int64)), .second, .val (.long (32767 : Int64)), .second, .val (.int (0 : Int32)), .unset, .unset, .unset, .unset, .unset] at_71 rfl rfl ?_
        refine go_goto K X71 at_73 (by decide) rfl ?_
        refine go_iload K X71 at_140 rfl rfl ?_
        refine go_ifT K X71 at_142 (by decide) rfl (by decide : (0 : Int32) = (0 : Int32)) ?_
        refine go_iload K X71 at_151 rfl rfl ?_
        refine go_ifT K X71 at_153 (by decide) rfl (by decide : ¬ (1 : Int32) = (0 : Int32)) ?_
        refine go_iload K X71 at_178 rfl rfl ?_
        refine go_ifF K X71 at_180 rfl (by decide : ¬ (1 : Int32) = (0 : Int32)) ?_
        refine go_lconst K X71 (1 : Int64) at_183 rfl rfl ?_
        refine go_iload K X71 at_184 rfl rfl ?_
        refine go_iconst K X71 (1 : Int32) at_186 rfl rfl ?_
        refine go_isub K X71 at_187 rfl ?_
        refine go_lshl K X71 at_188 rfl ?_
        refine go_lneg K X71 at_189 rfl ?_
        refine go_goto K X71 at_190 (by decide) rfl ?_
        refine go_lstore K X71 #[.val (.int p1), .val (.int p2), .val (.int p3), .val (.int k), .val (.int n), .val (.int (1 : Int32)), .val (.ref aS), .val (.long (-32768 : Int64)), .second, .val (.long (32767 : Int64)), .second, .val (.int (0 : Int32)), .unset, .val (.long (-((1 : Int64) <<< ((n - (1 : Int32)) &&& 0x3f).toInt64))), .second, .unset, .unset] at_194 rfl rfl ?_
        refine go_iload K X71 at_196 rfl rfl ?_
        refine go_ifF K X71 at_198 rfl (by decide : ¬ (1 : Int32) = (0 : Int32)) ?_
        refine go_lconst K X71 (1 : Int64) at_201 rfl rfl ?_
        refine go_iload K X71 at_202 rfl rfl ?_
        refine go_iconst K X71 (1 : Int32) at_204 rfl rfl ?_
        refine go_isub K X71 at_205 rfl ?_
        refine go_lshl K X71 at_206 rfl ?_
        refine go_lconst K X71 (1 : Int64) at_207 rfl rfl ?_
        refine go_lsub K X71 at_208 rfl ?_
        refine go_goto K X71 at_209 (by decide) rfl ?_
        refine go_lstore K X71 #[.val (.int p1), .val (.int p2), .val (.int p3), .val (.int k), .val (.int n), .val (.int (1 : Int32)), .val (.ref aS), .val (.long (-32768 : Int64)), .second, .val (.long (32767 : Int64)), .second, .val (.int (0 : Int32)), .unset, .val (.long (-((1 : Int64) <<< ((n - (1 : Int32)) &&& 0x3f).toInt64))), .second, .val (.long (((1 : Int64) <<< ((n - (1 : Int32)) &&& 0x3f).toInt64) - (1 : Int64))), .second] at_218 rfl rfl ?_
        refine go_lload K X71 at_220 rfl rfl ?_
        refine go_lload K X71 at_222 rfl rfl ?_
        refine go_lif K X71 at_224 rfl at_225 (by decide) rfl rfl ?_ ?_
        · intro (hc72 : (-((1 : Int64) <<< ((n - (1 : Int32)) &&& 0x3f).toInt64)) < (-32768 : Int64))
          refine go_iconst K X71 (0 : Int32) at_240 rfl rfl ?_
          refine go_istore K X71 #[.val (.int p1), .val (.int p2), .val (.int p3), .val (.int k), .val (.int n), .val (.int (1 : Int32)), .val (.ref aS), .val (.long (-32768 : Int64)), .second, .val (.long (32767 : Int64)), .second, .val (.int (0 : Int32)), .val (.int (0 : Int32)), .val (.long (-((1 : Int64) <<< ((n - (1 : Int32)) &&& 0x3f).toInt64))), .second, .val (.long (((1 : Int64) <<< ((n - (1 : Int32)) &&& 0x3f).toInt64) - (1 : Int64))), .second] at_241 rfl rfl ?_
          refine go_aload K X71 at_243 rfl rfl rfl ?_
          refine go_iload K X71 at_245 rfl rfl ?_
          refine go_iload K X71 at_247 rfl rfl ?_
          refine go_virt K X71 (a := aS) (argsL := [(.int n), (.int (1 : Int32))]) (stk := []) (wd hw 6 rfl) (wd hw 7 rfl) (wd hw 9 rfl) (wd hw 9 rfl) (wd hw 8 rfl) (wd hw 10 rfl) (wd hw 2 rfl) (by decide) (lenOf pd_0 rfl) e71 H11 (rmHoldN hw aS n (1 : Int32) aL (16 : Int32) h0 H3 H6 H16) rfl rfl at_249 rfl (by decide) (W := 0) (Nat.le_of_eq rfl) (by decide) (cells' := 0) (slots' := 0) rfl rfl (by decide) (by decide) ?_
          rintro T73 h73 _ X73 e73 ⟨rfl, qe73⟩
          show Go _ _ _ _ _ _ _ (T73.setTop (mkF m 252 #[.val (.int p1), .val (.int p2), .val (.int p3), .val (.int k), .val (.int n), .val (.int (1 : Int32)), .val (.ref aS), .val (.long (-32768 : Int64)), .second, .val (.long (32767 : Int64)), .second, .val (.int (0 : Int32)), .val (.int (0 : Int32)), .val (.long (-((1 : Int64) <<< ((n - (1 : Int32)) &&& 0x3f).toInt64))), .second, .val (.long (((1 : Int64) <<< ((n - (1 : Int32)) &&& 0x3f).toInt64) - (1 : Int64))), .second] [(.int (own_holdN (16 : Int32) n (1 : Int32)))]))
          replace e73 := e73.trans qe73
          refine go_iload K X73 at_252 rfl rfl ?_
          refine go_icmpF K X73 at_254 rfl (own_path25 n hn hc72 : (own_holdN (16 : Int32) n (1 : Int32)) = (0 : Int32)) ?_
          refine go_iconst K X73 (1 : Int32) at_257 rfl rfl ?_
          refine go_goto K X73 at_258 (by decide) rfl ?_
          refine go_retZ K X73 (Or.inr rfl) at_262 (by decide) (by decide) ?_
          rw [e73]
          exact ⟨rfl, rfl⟩
        · intro (hc72 : ¬ (-((1 : Int64) <<< ((n - (1 : Int32)) &&& 0x3f).toInt64)) < (-32768 : Int64))
          refine go_lload K X71 at_228 rfl rfl ?_
          refine go_lload K X71 at_230 rfl rfl ?_
          refine go_lif K X71 at_232 rfl at_233 (by decide) rfl rfl ?_ ?_
          · intro (hc74 : (32767 : Int64) < (((1 : Int64) <<< ((n - (1 : Int32)) &&& 0x3f).toInt64) - (1 : Int64)))
            refine go_iconst K X71 (0 : Int32) at_240 rfl rfl ?_
            refine go_istore K X71 #[.val (.int p1), .val (.int p2), .val (.int p3), .val (.int k), .val (.int n), .val (.int (1 : Int32)), .val (.ref aS), .val (.long (-32768 : Int64)), .second, .val (.long (32767 : Int64)), .second, .val (.int (0 : Int32)), .val (.int (0 : Int32)), .val (.long (-((1 : Int64) <<< ((n - (1 : Int32)) &&& 0x3f).toInt64))), .second, .val (.long (((1 : Int64) <<< ((n - (1 : Int32)) &&& 0x3f).toInt64) - (1 : Int64))), .second] at_241 rfl rfl ?_
            refine go_aload K X71 at_243 rfl rfl rfl ?_
            refine go_iload K X71 at_245 rfl rfl ?_
            refine go_iload K X71 at_247 rfl rfl ?_
            refine go_virt K X71 (a := aS) (argsL := [(.int n), (.int (1 : Int32))]) (stk := []) (wd hw 6 rfl) (wd hw 7 rfl) (wd hw 9 rfl) (wd hw 9 rfl) (wd hw 8 rfl) (wd hw 10 rfl) (wd hw 2 rfl) (by decide) (lenOf pd_0 rfl) e71 H11 (rmHoldN hw aS n (1 : Int32) aL (16 : Int32) h0 H3 H6 H16) rfl rfl at_249 rfl (by decide) (W := 0) (Nat.le_of_eq rfl) (by decide) (cells' := 0) (slots' := 0) rfl rfl (by decide) (by decide) ?_
            rintro T75 h75 _ X75 e75 ⟨rfl, qe75⟩
            show Go _ _ _ _ _ _ _ (T75.setTop (mkF m 252 #[.val (.int p1), .val (.int p2), .val (.int p3), .val (.int k), .val (.int n), .val (.int (1 : Int32)), .val (.ref aS), .val (.long (-32768 : Int64)), .second, .val (.long (32767 : Int64)), .second, .val (.int (0 : Int32)), .val (.int (0 : Int32)), .val (.long (-((1 : Int64) <<< ((n - (1 : Int32)) &&& 0x3f).toInt64))), .second, .val (.long (((1 : Int64) <<< ((n - (1 : Int32)) &&& 0x3f).toInt64) - (1 : Int64))), .second] [(.int (own_holdN (16 : Int32) n (1 : Int32)))]))
            replace e75 := e75.trans qe75
            refine go_iload K X75 at_252 rfl rfl ?_
            refine go_icmpF K X75 at_254 rfl (own_path26 n hn hc72 hc74 : (own_holdN (16 : Int32) n (1 : Int32)) = (0 : Int32)) ?_
            refine go_iconst K X75 (1 : Int32) at_257 rfl rfl ?_
            refine go_goto K X75 at_258 (by decide) rfl ?_
            refine go_retZ K X75 (Or.inr rfl) at_262 (by decide) (by decide) ?_
            rw [e75]
            exact ⟨rfl, rfl⟩
          · intro (hc74 : ¬ (32767 : Int64) < (((1 : Int64) <<< ((n - (1 : Int32)) &&& 0x3f).toInt64) - (1 : Int64)))
            refine go_iconst K X71 (1 : Int32) at_236 rfl rfl ?_
            refine go_goto K X71 at_237 (by decide) rfl ?_
            refine go_istore K X71 #[.val (.int p1), .val (.int p2), .val (.int p3), .val (.int k), .val (.int n), .val (.int (1 : Int32)), .val (.ref aS), .val (.long (-32768 : Int64)), .second, .val (.long (32767 : Int64)), .second, .val (.int (0 : Int32)), .val (.int (1 : Int32)), .val (.long (-((1 : Int64) <<< ((n - (1 : Int32)) &&& 0x3f).toInt64))), .second, .val (.long (((1 : Int64) <<< ((n - (1 : Int32)) &&& 0x3f).toInt64) - (1 : Int64))), .second] at_241 rfl rfl ?_
            refine go_aload K X71 at_243 rfl rfl rfl ?_
            refine go_iload K X71 at_245 rfl rfl ?_
            refine go_iload K X71 at_247 rfl rfl ?_
            refine go_virt K X71 (a := aS) (argsL := [(.int n), (.int (1 : Int32))]) (stk := []) (wd hw 6 rfl) (wd hw 7 rfl) (wd hw 9 rfl) (wd hw 9 rfl) (wd hw 8 rfl) (wd hw 10 rfl) (wd hw 2 rfl) (by decide) (lenOf pd_0 rfl) e71 H11 (rmHoldN hw aS n (1 : Int32) aL (16 : Int32) h0 H3 H6 H16) rfl rfl at_249 rfl (by decide) (W := 0) (Nat.le_of_eq rfl) (by decide) (cells' := 0) (slots' := 0) rfl rfl (by decide) (by decide) ?_
            rintro T76 h76 _ X76 e76 ⟨rfl, qe76⟩
            show Go _ _ _ _ _ _ _ (T76.setTop (mkF m 252 #[.val (.int p1), .val (.int p2), .val (.int p3), .val (.int k), .val (.int n), .val (.int (1 : Int32)), .val (.ref aS), .val (.long (-32768 : Int64)), .second, .val (.long (32767 : Int64)), .second, .val (.int (0 : Int32)), .val (.int (1 : Int32)), .val (.long (-((1 : Int64) <<< ((n - (1 : Int32)) &&& 0x3f).toInt64))), .second, .val (.long (((1 : Int64) <<< ((n - (1 : Int32)) &&& 0x3f).toInt64) - (1 : Int64))), .second] [(.int (own_holdN (16 : Int32) n (1 : Int32)))]))
            replace e76 := e76.trans qe76
            refine go_iload K X76 at_252 rfl rfl ?_
            refine go_icmpF K X76 at_254 rfl (own_path27 n hn hc72 hc74 : (own_holdN (16 : Int32) n (1 : Int32)) = (1 : Int32)) ?_
            refine go_iconst K X76 (1 : Int32) at_257 rfl rfl ?_
            refine go_goto K X76 at_258 (by decide) rfl ?_
            refine go_retZ K X76 (Or.inr rfl) at_262 (by decide) (by decide) ?_
            rw [e76]
            exact ⟨rfl, rfl⟩
    · intro (hc53 : k = (0 : Int32))
      refine go_getS K X0 (host := "") (Or.inl (wd hw 1 rfl)) Via.refl e0 H0 at_35 rfl ?_
      intro T77 X77 e77
      refine go_astore K X77 #[.val (.int p1), .val (.int p2), .val (.int p3), .val (.int k), .val (.int n), .val (.int (1 : Int32)), .val (.ref aB), .unset, .unset, .unset, .unset, .val (.int (0 : Int32)), .unset, .unset, .unset, .unset, .unset] at_38 rfl rfl rfl ?_
      refine go_ldc2J K X77 (wd hw 4 rfl) at_40 rfl ?_
      refine go_lstore K X77 #[.val (.int p1), .val (.int p2), .val (.int p3), .val (.int k), .val (.int n), .val (.int (1 : Int32)), .val (.ref aB), .val (.long (-128 : Int64)), .second, .unset, .unset, .val (.int (0 : Int32)), .unset, .unset, .unset, .unset, .unset] at_43 rfl rfl ?_
      refine go_ldc2J K X77 (wd hw 5 rfl) at_45 rfl ?_
      refine go_lstore K X77 #[.val (.int p1), .val (.int p2), .val (.int p3), .val (.int k), .val (.int n), .val (.int (1 : Int32)), .val (.ref aB), .val (.long (-128 : Int64)), .second, .val (.long (127 : Int64)), .second, .val (.int (0 : Int32)), .unset, .unset, .unset, .unset, .unset] at_48 rfl rfl ?_
      refine go_goto K X77 at_50 (by decide) rfl ?_
      refine go_iload K X77 at_140 rfl rfl ?_
      refine go_ifT K X77 at_142 (by decide) rfl (by decide : (0 : Int32) = (0 : Int32)) ?_
      refine go_iload K X77 at_151 rfl rfl ?_
      refine go_ifT K X77 at_153 (by decide) rfl (by decide : ¬ (1 : Int32) = (0 : Int32)) ?_
      refine go_iload K X77 at_178 rfl rfl ?_
      refine go_ifF K X77 at_180 rfl (by decide : ¬ (1 : Int32) = (0 : Int32)) ?_
      refine go_lconst K X77 (1 : Int64) at_183 rfl rfl ?_
      refine go_iload K X77 at_184 rfl rfl ?_
      refine go_iconst K X77 (1 : Int32) at_186 rfl rfl ?_
      refine go_isub K X77 at_187 rfl ?_
      refine go_lshl K X77 at_188 rfl ?_
      refine go_lneg K X77 at_189 rfl ?_
      refine go_goto K X77 at_190 (by decide) rfl ?_
      refine go_lstore K X77 #[.val (.int p1), .val (.int p2), .val (.int p3), .val (.int k), .val (.int n), .val (.int (1 : Int32)), .val (.ref aB), .val (.long (-128 : Int64)), .second, .val (.long (127 : Int64)), .second, .val (.int (0 : Int32)), .unset, .val (.long (-((1 : Int64) <<< ((n - (1 : Int32)) &&& 0x3f).toInt64))), .second, .unset, .unset] at_194 rfl rfl ?_
      refine go_iload K X77 at_196 rfl rfl ?_
      refine go_ifF K X77 at_198 rfl (by decide : ¬ (1 : Int32) = (0 : Int32)) ?_
      refine go_lconst K X77 (1 : Int64) at_201 rfl rfl ?_
      refine go_iload K X77 at_202 rfl rfl ?_
      refine go_iconst K X77 (1 : Int32) at_204 rfl rfl ?_
      refine go_isub K X77 at_205 rfl ?_
      refine go_lshl K X77 at_206 rfl ?_
      refine go_lconst K X77 (1 : Int64) at_207 rfl rfl ?_
      refine go_lsub K X77 at_208 rfl ?_
      refine go_goto K X77 at_209 (by decide) rfl ?_
      refine go_lstore K X77 #[.val (.int p1), .val (.int p2), .val (.int p3), .val (.int k), .val (.int n), .val (.int (1 : Int32)), .val (.ref aB), .val (.long (-128 : Int64)), .second, .val (.long (127 : Int64)), .second, .val (.int (0 : Int32)), .unset, .val (.long (-((1 : Int64) <<< ((n - (1 : Int32)) &&& 0x3f).toInt64))), .second, .val (.long (((1 : Int64) <<< ((n - (1 : Int32)) &&& 0x3f).toInt64) - (1 : Int64))), .second] at_218 rfl rfl ?_
      refine go_lload K X77 at_220 rfl rfl ?_
      refine go_lload K X77 at_222 rfl rfl ?_
      refine go_lif K X77 at_224 rfl at_225 (by decide) rfl rfl ?_ ?_
      · intro (hc78 : (-((1 : Int64) <<< ((n - (1 : Int32)) &&& 0x3f).toInt64)) < (-128 : Int64))
        refine go_iconst K X77 (0 : Int32) at_240 rfl rfl ?_
        refine go_istore K X77 #[.val (.int p1), .val (.int p2), .val (.int p3), .val (.int k), .val (.int n), .val (.int (1 : Int32)), .val (.ref aB), .val (.long (-128 : Int64)), .second, .val (.long (127 : Int64)), .second, .val (.int (0 : Int32)), .val (.int (0 : Int32)), .val (.long (-((1 : Int64) <<< ((n - (1 : Int32)) &&& 0x3f).toInt64))), .second, .val (.long (((1 : Int64) <<< ((n - (1 : Int32)) &&& 0x3f).toInt64) - (1 : Int64))), .second] at_241 rfl rfl ?_
        refine go_aload K X77 at_243 rfl rfl rfl ?_
        refine go_iload K X77 at_245 rfl rfl ?_
        refine go_iload K X77 at_247 rfl rfl ?_
        refine go_virt K X77 (a := aB) (argsL := [(.int n), (.int (1 : Int32))]) (stk := []) (wd hw 6 rfl) (wd hw 7 rfl) (wd hw 9 rfl) (wd hw 9 rfl) (wd hw 8 rfl) (wd hw 10 rfl) (wd hw 2 rfl) (by decide) (lenOf pd_0 rfl) e77 H10 (rmHoldN hw aB n (1 : Int32) aL (8 : Int32) h0 H3 H5 H15) rfl rfl at_249 rfl (by decide) (W := 0) (Nat.le_of_eq rfl) (by decide) (cells' := 0) (slots' := 0) rfl rfl (by decide) (by decide) ?_
        rintro T79 h79 _ X79 e79 ⟨rfl, qe79⟩
        show Go _ _ _ _ _ _ _ (T79.setTop (mkF m 252 #[.val (.int p1), .val (.int p2), .val (.int p3), .val (.int k), .val (.int n), .val (.int (1 : Int32)), .val (.ref aB), .val (.long (-128 : Int64)), .second, .val (.long (127 : Int64)), .second, .val (.int (0 : Int32)), .val (.int (0 : Int32)), .val (.long (-((1 : Int64) <<< ((n - (1 : Int32)) &&& 0x3f).toInt64))), .second, .val (.long (((1 : Int64) <<< ((n - (1 : Int32)) &&& 0x3f).toInt64) - (1 : Int64))), .second] [(.int (own_holdN (8 : Int32) n (1 : Int32)))]))
        replace e79 := e79.trans qe79
        refine go_iload K X79 at_252 rfl rfl ?_
        refine go_icmpF K X79 at_254 rfl (own_path28 n hn hc78 : (own_holdN (8 : Int32) n (1 : Int32)) = (0 : Int32)) ?_
        refine go_iconst K X79 (1 : Int32) at_257 rfl rfl ?_
        refine go_goto K X79 at_258 (by decide) rfl ?_
        refine go_retZ K X79 (Or.inr rfl) at_262 (by decide) (by decide) ?_
        rw [e79]
        exact ⟨rfl, rfl⟩
      · intro (hc78 : ¬ (-((1 : Int64) <<< ((n - (1 : Int32)) &&& 0x3f).toInt64)) < (-128 : Int64))
        refine go_lload K X77 at_228 rfl rfl ?_
        refine go_lload K X77 at_230 rfl rfl ?_
        refine go_lif K X77 at_232 rfl at_233 (by decide) rfl rfl ?_ ?_
        · intro (hc80 : (127 : Int64) < (((1 : Int64) <<< ((n - (1 : Int32)) &&& 0x3f).toInt64) - (1 : Int64)))
          refine go_iconst K X77 (0 : Int32) at_240 rfl rfl ?_
          refine go_istore K X77 #[.val (.int p1), .val (.int p2), .val (.int p3), .val (.int k), .val (.int n), .val (.int (1 : Int32)), .val (.ref aB), .val (.long (-128 : Int64)), .second, .val (.long (127 : Int64)), .second, .val (.int (0 : Int32)), .val (.int (0 : Int32)), .val (.long (-((1 : Int64) <<< ((n - (1 : Int32)) &&& 0x3f).toInt64))), .second, .val (.long (((1 : Int64) <<< ((n - (1 : Int32)) &&& 0x3f).toInt64) - (1 : Int64))), .second] at_241 rfl rfl ?_
          refine go_aload K X77 at_243 rfl rfl rfl ?_
          refine go_iload K X77 at_245 rfl rfl ?_
          refine go_iload K X77 at_247 rfl rfl ?_
          refine go_virt K X77 (a := aB) (argsL := [(.int n), (.int (1 : Int32))]) (stk := []) (wd hw 6 rfl) (wd hw 7 rfl) (wd hw 9 rfl) (wd hw 9 rfl) (wd hw 8 rfl) (wd hw 10 rfl) (wd hw 2 rfl) (by decide) (lenOf pd_0 rfl) e77 H10 (rmHoldN hw aB n (1 : Int32) aL (8 : Int32) h0 H3 H5 H15) rfl rfl at_249 rfl (by decide) (W := 0) (Nat.le_of_eq rfl) (by decide) (cells' := 0) (slots' := 0) rfl rfl (by decide) (by decide) ?_
          rintro T81 h81 _ X81 e81 ⟨rfl, qe81⟩
          show Go _ _ _ _ _ _ _ (T81.setTop (mkF m 252 #[.val (.int p1), .val (.int p2), .val (.int p3), .val (.int k), .val (.int n), .val (.int (1 : Int32)), .val (.ref aB), .val (.long (-128 : Int64)), .second, .val (.long (127 : Int64)), .second, .val (.int (0 : Int32)), .val (.int (0 : Int32)), .val (.long (-((1 : Int64) <<< ((n - (1 : Int32)) &&& 0x3f).toInt64))), .second, .val (.long (((1 : Int64) <<< ((n - (1 : Int32)) &&& 0x3f).toInt64) - (1 : Int64))), .second] [(.int (own_holdN (8 : Int32) n (1 : Int32)))]))
          replace e81 := e81.trans qe81
          refine go_iload K X81 at_252 rfl rfl ?_
          refine go_icmpF K X81 at_254 rfl (own_path29 n hn hc78 hc80 : (own_holdN (8 : Int32) n (1 : Int32)) = (0 : Int32)) ?_
          refine go_iconst K X81 (1 : Int32) at_257 rfl rfl ?_
          refine go_goto K X81 at_258 (by decide) rfl ?_
          refine go_retZ K X81 (Or.inr rfl) at_262 (by decide) (by decide) ?_
          rw [e81]
          exact ⟨rfl, rfl⟩
        · intro (hc80 : ¬ (127 : Int64) < (((1 : Int64) <<< ((n - (1 : Int32)) &&& 0x3f).toInt64) - (1 : Int64)))
          refine go_iconst K X77 (1 : Int32) at_236 rfl rfl ?_
          refine go_goto K X77 at_237 (by decide) rfl ?_
          refine go_istore K X77 #[.val (.int p1), .val (.int p2), .val (.int p3), .val (.int k), .val (.int n), .val (.int (1 : Int32)), .val (.ref aB), .val (.long (-128 : Int64)), .second, .val (.long (127 : Int64)), .second, .val (.int (0 : Int32)), .val (.int (1 : Int32)), .val (.long (-((1 : Int64) <<< ((n - (1 : Int32)) &&& 0x3f).toInt64))), .second, .val (.long (((1 : Int64) <<< ((n - (1 : Int32)) &&& 0x3f).toInt64) - (1 : Int64))), .second] at_241 rfl rfl ?_
          refine go_aload K X77 at_243 rfl rfl rfl ?_
          refine go_iload K X77 at_245 rfl rfl ?_
          refine go_iload K X77 at_247 rfl rfl ?_
          refine go_virt K X77 (a := aB) (argsL := [(.int n), (.int (1 : Int32))]) (stk := []) (wd hw 6 rfl) (wd hw 7 rfl) (wd hw 9 rfl) (wd hw 9 rfl) (wd hw 8 rfl) (wd hw 10 rfl) (wd hw 2 rfl) (by decide) (lenOf pd_0 rfl) e77 H10 (rmHoldN hw aB n (1 : Int32) aL (8 : Int32) h0 H3 H5 H15) rfl rfl at_249 rfl (by decide) (W := 0) (Nat.le_of_eq rfl) (by decide) (cells' := 0) (slots' := 0) rfl rfl (by decide) (by decide) ?_
          rintro T82 h82 _ X82 e82 ⟨rfl, qe82⟩
          show Go _ _ _ _ _ _ _ (T82.setTop (mkF m 252 #[.val (.int p1), .val (.int p2), .val (.int p3), .val (.int k), .val (.int n), .val (.int (1 : Int32)), .val (.ref aB), .val (.long (-128 : Int64)), .second, .val (.long (127 : Int64)), .second, .val (.int (0 : Int32)), .val (.int (1 : Int32)), .val (.long (-((1 : Int64) <<< ((n - (1 : Int32)) &&& 0x3f).toInt64))), .second, .val (.long (((1 : Int64) <<< ((n - (1 : Int32)) &&& 0x3f).toInt64) - (1 : Int64))), .second] [(.int (own_holdN (8 : Int32) n (1 : Int32)))]))
          replace e82 := e82.trans qe82
          refine go_iload K X82 at_252 rfl rfl ?_
          refine go_icmpF K X82 at_254 rfl (own_path30 n hn hc78 hc80 : (own_holdN (8 : Int32) n (1 : Int32)) = (1 : Int32)) ?_
          refine go_iconst K X82 (1 : Int32) at_257 rfl rfl ?_
          refine go_goto K X82 at_258 (by decide) rfl ?_
          refine go_retZ K X82 (Or.inr rfl) at_262 (by decide) (by decide) ?_
          rw [e82]
          exact ⟨rfl, rfl⟩
set_option maxRecDepth 65536 in
set_option maxHeartbeats 40000000 in
theorem comes_1 {Post : Tables → Env → Array Value → State → Outcome → State → Prop} (hpost : ∀ tb e args s v u, (limb_1_1.after args s (.returned v) u = true ∧ limb_1_2.after args s (.returned v) u = true ∧ True) → FrameEnd s (.returned v) u (Jvm.fieldLocs frame_1_writes args s ++ Jvm.arrayLocs frame_1_arrays args s ++ Jvm.staticLocs frame_1_statics s) 0 0 → Post tb e args s (.returned v) u) :
    ArmFor flags0 classFile x code maxLocals ret World_1 tables_1 room_1 Calls_1 rest_1 Pre_1 Post := by
  intro l hfl _ _ p e ha hc hk s m args below hf hA hF happ hP
  obtain ⟨hcalls, hrest, hpre⟩ := hP
  obtain ⟨-, -, -, hnamed, -, -, -, hat⟩ := (Spec.applies_iff hf).mp happ
  obtain ⟨hg, hn⟩ := and_e (Cond.before_iff.mp (show (Jvm.Cond.and given_1 narrow_1).before args s = true from hpre))
  obtain ⟨g1, g2⟩ := and_e hg
  obtain ⟨g3, g4⟩ := and_e g2
  obtain ⟨g5, g6⟩ := and_e g4
  obtain ⟨w0, w1, w2, rfl⟩ : ∃ w0 w1 w2 : Value, args = #[w0, w1, w2] := by
    have hs : args.size = 3 := by simpa [Cond.value, given_1] using g1
    obtain ⟨L⟩ := args
    match L, hs with
    | [w0, w1, w2], _ => exact ⟨w0, w1, w2, rfl⟩
  have hw := fun d (hd : d ∈ tables_1) => atoms_spec (ws := Jvm.Cond.code x code maxLocals ret :: tables_1) hat d (List.mem_cons_of_mem _ hd)
  have hfit : Fit s := fun {y c} hc i hi => by
    obtain ⟨ha, rfl⟩ := Array.getElem?_eq_some_iff.mp hc
    have q := List.all_eq_true.mp ((Array.all_eq_true_iff_forall_mem.mp hF) _ (Array.getElem_mem ha)) i (List.mem_range.mpr hi)
    simpa [Array.getElem?_eq_getElem hi] using q
  obtain ⟨i0, ei0⟩ := is_v g3
  obtain rfl : w0 = (.int i0) := Option.some.inj ei0
  obtain ⟨i1, ei1⟩ := is_v g5
  obtain rfl : w1 = (.int i1) := Option.some.inj ei1
  obtain ⟨i2, ei2⟩ := is_v g6
  obtain rfl : w2 = (.int i2) := Option.some.inj ei2
  obtain ⟨g7, g8⟩ := and_e hn
  obtain ⟨g9, g10⟩ := and_e g8
  obtain ⟨g11, g12⟩ := and_e g10
  obtain ⟨g13, g14⟩ := and_e g12
  obtain ⟨g15, g16⟩ := and_e g14
  obtain ⟨g17, g18⟩ := and_e g16
  obtain ⟨g19, g20⟩ := and_e g18
  obtain ⟨g21, g22⟩ := and_e g20
  obtain ⟨g23, g24⟩ := and_e g22
  obtain ⟨g25, g26⟩ := and_e g24
  obtain ⟨g27, g28⟩ := and_e g26
  obtain ⟨g29, g30⟩ := and_e g28
  obtain ⟨g31, g32⟩ := and_e g30
  obtain ⟨g33, g34⟩ := and_e g32
  obtain ⟨aB, vaB⟩ := exa_v g7
  have saB := Sta.start vaB (Or.inr ⟨(wd hw 2 rfl), (wd hw 3 rfl)⟩)
  have xaB := Exa.start vaB g7
  have oaB := own_fld vaB g11
  have baB := own_fld vaB g15
  obtain ⟨aS, vaS⟩ := exa_v g17
  have saS := Sta.start vaS (Or.inr ⟨(wd hw 2 rfl), (wd hw 16 rfl)⟩)
  have xaS := Exa.start vaS g17
  have oaS := own_fld vaS g19
  have baS := own_fld vaS g21
  obtain ⟨aI, vaI⟩ := exa_v g31
  have saI := Sta.start vaI (Or.inr ⟨(wd hw 2 rfl), (wd hw 25 rfl)⟩)
  have xaI := Exa.start vaI g31
  have oaI := own_fld vaI g33
  have baI := own_fld vaI g34
  obtain ⟨aL, vaL⟩ := exa_v g9
  have saL := Sta.start vaL (Or.inr ⟨(wd hw 2 rfl), (wd hw 12 rfl)⟩)
  have xaL := Exa.start vaL g9
  have oaL := own_fld vaL g13
  have baL := own_fld vaL g29
  obtain ⟨aG, vaG⟩ := exa_v g23
  have saG := Sta.start vaG (Or.inr ⟨(wd hw 2 rfl), (wd hw 20 rfl)⟩)
  have xaG := Exa.start vaG g23
  have oaG := own_fld vaG g25
  have baG := own_fld vaG g27
  have naB : ¬ Value.ref aB = Value.ref aL := fun q => Fld.ne oaB oaL (by decide) (Value.ref.inj q)
  have naS : ¬ Value.ref aS = Value.ref aL := fun q => Fld.ne oaS oaL (by decide) (Value.ref.inj q)
  have naI : ¬ Value.ref aI = Value.ref aL := fun q => Fld.ne oaI oaL (by decide) (Value.ref.inj q)
  have naG : ¬ Value.ref aG = Value.ref aL := fun q => Fld.ne oaG oaL (by decide) (Value.ref.inj q)
  obtain ⟨n, o, h1, h2, h3, _, L, rfl, ⟨⟨rfl, -⟩, N⟩, hq⟩ := rmLaw (l := l) (n0 := s.heap.size) hw i0 i1 i2 aB aS aI aL aG s.heap saB saS saI saL saG baB baS baI baL baG xaB xaS xaI xaL xaG naB naS naI naG tables_1 p e ha hc hk s m _ below hf ((Spec.applies_iff_loose hf).mp happ).1 ⟨rfl, State.Warmed39.refl s, rfl⟩ trivial
  refine ⟨n, _, h1, h2, h3, hpost _ _ _ _ _ _ ⟨Cond.after_iff.mpr rfl, Cond.after_iff.mpr (eq_i res_at (Term.int_eval (1)) rfl), trivial⟩ ⟨hq.1, hq.2.1, (hq.2.2.sift fun y hy => Or.inr (N y hy)).mono (by decide) (by decide)⟩⟩
theorem main_1_1 : Claimed_1_1 := comes_1 fun _ _ _ _ _ _ h hF => ⟨h.1, hF⟩
theorem main_1_2 : Claimed_1_2 := comes_1 fun _ _ _ _ _ _ h hF => ⟨h.2.1, hF⟩
end Jvm.Pilot.@@N@@
namespace Jvm.Pilot.@@N@@
open Jvm Jvm.ClassFile Sem Op Lib Jvm.Free Jvm.Stand Jvm.Pilot.@@N@@.Jvm.D
/-! MADE BY PROGRAM (witnessworld.py) out of the Statement's table words and the real class files: 12 classes; the members and pool entries that the words name. The judged class is class 1, her method 1. -/
namespace start1
open Jvm.ClassFile
def u (s : String) : CpInfo := .utf8 (stringToUtf16 s)
/-- a pool by its gaps: so many unusable entries, then the entry; so many at the end -/
def gap : Nat → List CpInfo → List CpInfo
  | 0, r => r
  | n + 1, r => .unusable :: gap n r
def poolList (es : List (Nat × CpInfo)) (last : Nat) : List CpInfo := es.foldr (fun e r => gap e.1 (e.2 :: r)) (gap last [])
def pool (es : List (Nat × CpInfo)) (last : Nat) : Array CpInfo := ⟨poolList es last⟩
def fileOf (pool : Array CpInfo) (this : Nat) (attrs : Array Attribute := #[]) (ms : Array MethodInfo := #[]) (fl : Nat := 33) (sup : Nat := 0) (ifs : Array Nat := #[]) (fds : Array FieldInfo := #[]) : ClassFile where
  minorVersion := 0
  majorVersion := 65
  constantPool := pool
  accessFlags := fl
  thisClass := this
  superClass := sup
  interfaces := ifs
  fields := fds
  methods := ms
  attributes := attrs
def plain (name : String) (sup : Option ClassId) : Class where
  name := name
  kind := .ordinary
  loader := none
  accessFlags := 33
  super := sup
  interfaces := #[]
  cf := none
  fields := #[]
  methods := #[]
  instanceTypes := #[]
  staticTypes := #[]
  resolved := #[]
  callSites := []
  init := .initialized
  statics := none
  mirror := none

def pool0 : Array CpInfo := pool [(5, u "<init>"), (0, u "()V"), (1, .class_ 10), (1, u "java/lang/Object")] 113

def k0m0 : Method := { name := "<init>", desc := "()V", sig := { parameters := [], returnType := none }, accessFlags := 1, code := none }
/-- java/lang/Object -/
def k0 : Class := { plain "java/lang/Object" none with
  accessFlags := 33
  interfaces := #[]
  cf := some (fileOf pool0 8 #[] #[{ accessFlags := 1, nameIndex := 5, descriptorIndex := 6, attributes := #[] }] 33 0 #[] #[])
  fields := #[]
  methods := #[k0m0]
  instanceTypes := #[]
  staticTypes := #[]
  resolved := Array.replicate 124 none
  statics := none }

def pool1 : Array CpInfo := pool [(2, .class_ 4), (1, u "java/lang/Object"), (0, u "<init>"), (0, u "()V"), (0, .integer 2147483647), (0, .fieldref 9 10), (0, .class_ 11), (0, .nameAndType 12 13), (0, u "com/example/bytemold/bytemold/IntBits$JavaType"), (0, u "BYTE"), (0, u "Lcom/example/bytemold/bytemold/IntBits$JavaType;"), (0, .long 18446744073709551488), (1, .long 127), (1, .fieldref 9 19), (0, .nameAndType 20 13), (0, u "SHORT"), (0, .long 18446744073709518848), (1, .long 32767), (1, .fieldref 9 26), (0, .nameAndType 27 13), (0, u "INT"), (0, .long 18446744071562067968), (1, .long 2147483647), (1, .fieldref 9 33), (0, .nameAndType 34 13), (0, u "LONG"), (2, .long 9223372036854775808), (1, .long 9223372036854775807), (1, .fieldref 9 42), (0, .nameAndType 43 13), (0, u "BIG_INTEGER"), (0, .methodref 9 45), (0, .nameAndType 46 47), (0, u "holds"), (0, u "(IZ)Z"), (0, .class_ 49), (0, u "com/example/bytemold/bytemold/JavaTypeHoldsPinLaw"), (2, u "law"), (0, u "(III)Z")] 7

def k1m0 : Method := { name := "<init>", desc := "()V", sig := { parameters := [], returnType := none }, accessFlags := 1, code := none }
def k1c1 : Code := { maxStack := 4, maxLocals := 17, code := code, exceptionTable := #[], attributes := #[] }
def k1m1 : Method := { name := "law", desc := "(III)Z", sig := { parameters := [.int, .int, .int], returnType := some .boolean }, accessFlags := 9, code := some k1c1 }
/-- com/example/bytemold/bytemold/JavaTypeHoldsPinLaw -/
def k1 : Class := { plain "com/example/bytemold/bytemold/JavaTypeHoldsPinLaw" (some 0) with
  accessFlags := 49
  interfaces := #[]
  cf := some (fileOf pool1 48 #[] #[{ accessFlags := 1, nameIndex := 5, descriptorIndex := 6, attributes := #[] }, { accessFlags := 9, nameIndex := 52, descriptorIndex := 53, attributes := #[] }] 49 2 #[] #[])
  fields := #[]
  methods := #[k1m0, k1m1]
  instanceTypes := #[]
  staticTypes := #[]
  resolved := Array.replicate 61 none
  statics := none }

def pool2 : Array CpInfo := pool [(1, .class_ 2), (0, u "java/lang/constant/Constable"), (0, .class_ 4), (0, u "java/lang/Object")] 6

/-- java/lang/constant/Constable -/
def k2 : Class := { plain "java/lang/constant/Constable" (some 0) with
  accessFlags := 1537
  interfaces := #[]
  cf := some (fileOf pool2 1 #[] #[] 1537 3 #[] #[])
  fields := #[]
  methods := #[]
  instanceTypes := #[]
  staticTypes := #[]
  resolved := Array.replicate 11 none
  statics := none }

def pool3 : Array CpInfo := pool [(1, .class_ 2), (0, u "java/lang/Comparable"), (0, .class_ 4), (0, u "java/lang/Object")] 7

/-- java/lang/Comparable -/
def k3 : Class := { plain "java/lang/Comparable" (some 0) with
  accessFlags := 1537
  interfaces := #[]
  cf := some (fileOf pool3 1 #[] #[] 1537 3 #[] #[])
  fields := #[]
  methods := #[]
  instanceTypes := #[]
  staticTypes := #[]
  resolved := Array.replicate 12 none
  statics := none }

def pool4 : Array CpInfo := pool [(1, .class_ 2), (0, u "java/io/Serializable"), (0, .class_ 4), (0, u "java/lang/Object")] 2

/-- java/io/Serializable -/
def k4 : Class := { plain "java/io/Serializable" (some 0) with
  accessFlags := 1537
  interfaces := #[]
  cf := some (fileOf pool4 1 #[] #[] 1537 3 #[] #[])
  fields := #[]
  methods := #[]
  instanceTypes := #[]
  staticTypes := #[]
  resolved := Array.replicate 7 none
  statics := none }

def pool5 : Array CpInfo := pool [(2, .class_ 4), (1, u "java/lang/Enum"), (0, u "name"), (0, u "Ljava/lang/String;"), (2, u "ordinal"), (0, u "I"), (1, .class_ 14), (1, u "java/lang/Object"), (4, u "hash"), (86, .class_ 108), (1, u "java/lang/Enum$EnumDesc"), (2, .class_ 112), (0, u "java/lang/constant/Constable"), (0, .class_ 114), (0, u "java/lang/Comparable"), (0, .class_ 116), (0, u "java/io/Serializable")] 87

/-- java/lang/Enum -/
def k5 : Class := { plain "java/lang/Enum" (some 0) with
  accessFlags := 1057
  interfaces := #[2, 3, 4]
  cf := some (fileOf pool5 2 #[.nestMembers #[106]] #[] 1057 12 #[111, 113, 115] #[{ accessFlags := 18, nameIndex := 5, descriptorIndex := 6, attributes := #[] }, { accessFlags := 18, nameIndex := 9, descriptorIndex := 10, attributes := #[] }, { accessFlags := 2, nameIndex := 19, descriptorIndex := 10, attributes := #[] }])
  fields := #[{ name := "name", type := (.object "java/lang/String"), accessFlags := 18, slot := 0, constantValue := 0 }, { name := "ordinal", type := .int, accessFlags := 18, slot := 1, constantValue := 0 }, { name := "hash", type := .int, accessFlags := 2, slot := 2, constantValue := 0 }]
  methods := #[]
  instanceTypes := #[(.object "java/lang/String"), .int, .int]
  staticTypes := #[]
  resolved := Array.replicate 204 none
  statics := none }

def pool6 : Array CpInfo := pool [(1, .class_ 2), (0, u "com/example/bytemold/bytemold/IntBits$JavaType"), (2, u "BYTE"), (0, u "Lcom/example/bytemold/bytemold/IntBits$JavaType;"), (2, u "SHORT"), (2, u "INT"), (0, .fieldref 1 14), (0, .nameAndType 15 6), (0, u "LONG"), (2, u "BIG_INTEGER"), (2, u "$VALUES"), (0, u "[Lcom/example/bytemold/bytemold/IntBits$JavaType;"), (6, .class_ 31), (1, u "java/lang/Enum"), (6, .fieldref 1 39), (0, .nameAndType 40 41), (0, u "bits"), (0, u "I"), (2, u "primitive"), (0, u "Ljava/lang/Class;"), (2, u "boxed"), (10, u "holds"), (0, u "(IZ)Z"), (62, .class_ 124), (0, u "com/example/bytemold/bytemold/IntBits")] 16

def k6c0 : Code := { maxStack := 2, maxLocals := 3, code := prog_58_method_5_code, exceptionTable := #[], attributes := #[] }
def k6m0 : Method := { name := "holds", desc := "(IZ)Z", sig := { parameters := [.int, .boolean], returnType := some .boolean }, accessFlags := 0, code := some k6c0 }
/-- com/example/bytemold/bytemold/IntBits$JavaType -/
def k6 : Class := { plain "com/example/bytemold/bytemold/IntBits$JavaType" (some 5) with
  accessFlags := 16432
  interfaces := #[]
  cf := some (fileOf pool6 1 #[.nestHost 123] #[{ accessFlags := 0, nameIndex := 59, descriptorIndex := 60, attributes := #[] }] 16432 29 #[] #[{ accessFlags := 16409, nameIndex := 5, descriptorIndex := 6, attributes := #[] }, { accessFlags := 16409, nameIndex := 9, descriptorIndex := 6, attributes := #[] }, { accessFlags := 16409, nameIndex := 12, descriptorIndex := 6, attributes := #[] }, { accessFlags := 16409, nameIndex := 15, descriptorIndex := 6, attributes := #[] }, { accessFlags := 16409, nameIndex := 18, descriptorIndex := 6, attributes := #[] }, { accessFlags := 18, nameIndex := 40, descriptorIndex := 41, attributes := #[] }, { accessFlags := 18, nameIndex := 44, descriptorIndex := 45, attributes := #[] }, { accessFlags := 18, nameIndex := 48, descriptorIndex := 45, attributes := #[] }, { accessFlags := 4122, nameIndex := 21, descriptorIndex := 22, attributes := #[] }])
  fields := #[{ name := "BYTE", type := (.object "com/example/bytemold/bytemold/IntBits$JavaType"), accessFlags := 16409, slot := 0, constantValue := 0 }, { name := "SHORT", type := (.object "com/example/bytemold/bytemold/IntBits$JavaType"), accessFlags := 16409, slot := 1, constantValue := 0 }, { name := "INT", type := (.object "com/example/bytemold/bytemold/IntBits$JavaType"), accessFlags := 16409, slot := 2, constantValue := 0 }, { name := "LONG", type := (.object "com/example/bytemold/bytemold/IntBits$JavaType"), accessFlags := 16409, slot := 3, constantValue := 0 }, { name := "BIG_INTEGER", type := (.object "com/example/bytemold/bytemold/IntBits$JavaType"), accessFlags := 16409, slot := 4, constantValue := 0 }, { name := "bits", type := .int, accessFlags := 18, slot := 3, constantValue := 0 }, { name := "primitive", type := (.object "java/lang/Class"), accessFlags := 18, slot := 4, constantValue := 0 }, { name := "boxed", type := (.object "java/lang/Class"), accessFlags := 18, slot := 5, constantValue := 0 }, { name := "$VALUES", type := (.array (.object "com/example/bytemold/bytemold/IntBits$JavaType")), accessFlags := 4122, slot := 5, constantValue := 0 }]
  methods := #[k6m0]
  instanceTypes := #[(.object "java/lang/String"), .int, .int, .int, (.object "java/lang/Class"), (.object "java/lang/Class")]
  staticTypes := #[(.object "com/example/bytemold/bytemold/IntBits$JavaType"), (.object "com/example/bytemold/bytemold/IntBits$JavaType"), (.object "com/example/bytemold/bytemold/IntBits$JavaType"), (.object "com/example/bytemold/bytemold/IntBits$JavaType"), (.object "com/example/bytemold/bytemold/IntBits$JavaType"), (.array (.object "com/example/bytemold/bytemold/IntBits$JavaType"))]
  resolved := Array.replicate 141 none
  statics := some 0 }

def pool7 : Array CpInfo := pool [(1, u "java/lang/Cloneable"), (0, .class_ 1), (0, u "java/lang/Object"), (0, .class_ 3)] 3

/-- java/lang/Cloneable -/
def k7 : Class := { plain "java/lang/Cloneable" (some 0) with
  accessFlags := 1537
  interfaces := #[]
  cf := some (fileOf pool7 2 #[] #[] 1537 4 #[] #[])
  fields := #[]
  methods := #[]
  instanceTypes := #[]
  staticTypes := #[]
  resolved := Array.replicate 8 none
  statics := none }

/-- the primitive byte -/
def k8 : Class := { plain "byte" none with kind := .primitive 'B', accessFlags := 0x411 }
/-- [B -/
def k9 : Class := { plain "[B" (some 0) with kind := .array 8 .byte, interfaces := #[7, 4], accessFlags := 1041 }

/-- the primitive int -/
def k10 : Class := { plain "int" none with kind := .primitive 'I', accessFlags := 0x411 }
/-- [I -/
def k11 : Class := { plain "[I" (some 0) with kind := .array 10 .int, interfaces := #[7, 4], accessFlags := 1041 }

def heap : Heap := #[{ cls := 6, slots := #[.ref 1, .ref 2, .ref 3, .ref 4, .ref 5, .null], vm := .statics 6 },
  { cls := 6, slots := #[.null, .int 0, .int 0, .int 8, .null, .null], vm := .none },
  { cls := 6, slots := #[.null, .int 1, .int 0, .int 16, .null, .null], vm := .none },
  { cls := 6, slots := #[.null, .int 2, .int 0, .int 32, .null, .null], vm := .none },
  { cls := 6, slots := #[.null, .int 3, .int 0, .int 64, .null, .null], vm := .none },
  { cls := 6, slots := #[.null, .int 4, .int 0, .int 2147483647, .null, .null], vm := .none }]
def classes : Array Class := #[k0, k1, k2, k3, k4, k5, k6, k7, k8, k9, k10, k11]
def interned : List (Array UInt16 × Addr) := []
def slotsUsed : Nat := 36
def theMethod : MethodId := ⟨1, 1⟩
def args0 : Array Value := #[.int 5, .int 7, .int 3]
def aboutOver (below : List Frame) : State where
  vm := { classes := classes, interned := interned.toArray }
  heap := heap
  slotsUsed := slotsUsed
  threads := #[{ frames := .invoking theMethod args0 :: below }]
def below0 : List Frame := [.native { method := ⟨0, 0⟩, args := #[] }]
def about1 : State := aboutOver below0
def p0 : Program := .bare "" "" ""
def e0 : Env := launch0.env 0 0 0
theorem w_frames : about1.frames = Frame.invoking theMethod args0 :: below0 := rfl
set_option maxRecDepth 65536 in
theorem w_args : argsFit about1.vm theMethod args0 = true := by decide +kernel
set_option maxRecDepth 65536 in
theorem w_heap : heapFits about1 = true := by decide +kernel
set_option maxRecDepth 65536 in
theorem w_runnable : about1.curStatus? = some .runnable := by decide +kernel
set_option maxRecDepth 65536 in
theorem w_alone : about1.alone = true := by decide +kernel
set_option maxRecDepth 65536 in
theorem w_named : about1.methodNamed? x = some theMethod := by decide +kernel
set_option maxRecDepth 65536 in
theorem w_hears : about1.hears theMethod below0 = true := by decide +kernel
set_option maxRecDepth 65536 in
theorem w_ripe : about1.ripe theMethod args0 below0 = true := by decide +kernel
theorem w_running : about1.status = .running := rfl
set_option maxRecDepth 65536 in
theorem w_room : about1.hasRoom e0.platform room_1 = true :=
  launch0.hasRoom_least _ room_1 (by decide +kernel) (by decide +kernel) (by decide +kernel) (by decide +kernel) (by decide +kernel) (by decide +kernel)
theorem allAtoms_all (ts : List Jvm.Cond) (a : Array Jvm.Value) (st : Jvm.State) : (allAtoms ts).before a st = ts.all (fun c => c.before a st) := by
  induction ts with
  | nil => rfl
  | cons c t ih =>
    show (Jvm.Cond.and c (allAtoms t)).before a st = _
    rw [Jvm.Cond.before_and, ih, List.all_cons]
def words1 : List Jvm.Cond := Jvm.Cond.code x code maxLocals ret :: tables_1
/-- a 'code' word, met by the world's own term for the bytes: nothing is compared byte by byte -/
theorem code_word {y : MethodName} {bytes : ByteArray} {mx : Nat} {rt : Option FieldType} {a : Array Value} {s : State} {m : MethodId} {meth : Method} {c : Code} (h1 : s.methodNamed? y = some m) (h2 : s.vm.method? m = some meth) (h3 : meth.code = some c) (h4 : c.code = bytes)
    (h5 : (c.maxLocals == mx && c.exceptionTable.isEmpty && decide (c.maxStack ≤ mostOperands) && decide (meth.sig.returnType = rt) && !meth.locks && decide (parseMethodDescriptor y.desc = some meth.sig)) = true) : (Jvm.Cond.code y bytes mx rt).before a s = true := by
  simp only [Bool.and_eq_true, beq_iff_eq, Bool.not_eq_true', decide_eq_true_eq] at h5
  obtain ⟨⟨⟨⟨⟨g1, g2⟩, g3⟩, g4⟩, g5⟩, g6⟩ := h5
  simp [Cond.before, Cond.holds, Cond.value, h1, h2, h3, h4, g1, g2, g3, g4, g5, g6]
def isCode : Jvm.Cond → Bool
  | .code _ _ _ _ => true
  | _ => false
theorem all_split {L : List Jvm.Cond} {P : Jvm.Cond → Bool} (h1 : L.all (fun c => isCode c || P c) = true) (h2 : ∀ c ∈ L.filter isCode, P c = true) : L.all P = true := by
  refine List.all_eq_true.mpr fun c hc => ?_
  have h := List.all_eq_true.mp h1 c hc
  rcases Bool.eq_false_or_eq_true (isCode c) with hi | hi
  · exact h2 c (List.mem_filter.mpr ⟨hc, hi⟩)
  · simpa [hi] using h
set_option maxRecDepth 65536 in
theorem w_c0 : (Jvm.Cond.code x code maxLocals ret).before args0 about1 = true := code_word (m := ⟨1, 1⟩) (meth := k1m1) (c := k1c1) (by decide +kernel) rfl rfl rfl (by decide +kernel)
set_option maxRecDepth 65536 in
theorem w_c1 : (Jvm.Cond.code ({ cls := "com/example/bytemold/bytemold/IntBits$JavaType", name := "holds", desc := "(IZ)Z" } : Jvm.MethodName) prog_58_method_5_code (3 : Nat) (Option.some Jvm.ClassFile.FieldType.boolean)).before args0 about1 = true := code_word (m := ⟨6, 0⟩) (meth := k6m0) (c := k6c0) (by decide +kernel) rfl rfl rfl (by decide +kernel)
def codes1 : List Jvm.Cond := [Jvm.Cond.code x code maxLocals ret, Jvm.Cond.code ({ cls := "com/example/bytemold/bytemold/IntBits$JavaType", name := "holds", desc := "(IZ)Z" } : Jvm.MethodName) prog_58_method_5_code (3 : Nat) (Option.some Jvm.ClassFile.FieldType.boolean)]
set_option maxRecDepth 65536 in
theorem codes_eq : words1.filter isCode = codes1 := rfl
theorem w_codes : ∀ c ∈ words1.filter isCode, c.before args0 about1 = true := by
  rw [codes_eq]
  intro c hc
  simp only [codes1, List.mem_cons, List.not_mem_nil, or_false] at hc
  rcases hc with rfl | rfl
  · exact w_c0
  · exact w_c1
set_option maxRecDepth 65536 in
theorem w_t1 : (words1.take 24).all (fun c => isCode c || c.before args0 about1) = true := by decide +kernel
set_option maxRecDepth 65536 in
theorem w_t2 : (words1.drop 24).all (fun c => isCode c || c.before args0 about1) = true := by decide +kernel
theorem w_tables : (allAtoms (Jvm.Cond.code x code maxLocals ret :: tables_1)).before args0 about1 = true := by
  rw [allAtoms_all]
  show words1.all (fun c => c.before args0 about1) = true
  refine all_split ?_ w_codes
  rw [← List.take_append_drop 24 words1, List.all_append, w_t1, w_t2]
  rfl
set_option maxRecDepth 65536 in
theorem w_case : (Jvm.Cond.and given_1 narrow_1).before args0 about1 = true := by decide +kernel
theorem w_applies : (headSpec (Jvm.Cond.code x code maxLocals ret :: tables_1) room_1).applies x e0.platform about1 = true :=
  (Spec.applies_iff w_frames).mpr ⟨w_running, w_runnable, w_alone, w_named, w_hears, w_ripe, w_room, w_tables⟩
theorem atStart : AtStart classFile x code maxLocals ret World_1 tables_1 room_1 Calls_1 rest_1 Pre_1 launch0 p0 e0 about1 theMethod args0 below0 :=
  ⟨lists_1, trivial, launch0.admits_env _ _ _, launch0.least_env, fairChoices_fair.cas, fairChoices_fair.clock, w_frames, w_args, w_heap, w_applies, trivial, trivial, w_case⟩
end start1
theorem witness_1 : WitnessClaimed_1 := ⟨start1.p0, start1.e0, start1.about1, start1.theMethod, start1.args0, start1.below0, start1.atStart⟩
end Jvm.Pilot.@@N@@
