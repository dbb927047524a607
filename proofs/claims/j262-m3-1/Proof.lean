import JvmDerived
import JvmDerived.Pilot.@@N@@Statement
import JvmDerived.Pilot.@@N@@Code
set_option linter.unusedVariables false
set_option linter.unusedSimpArgs false
namespace Jvm.Pilot.@@N@@
open Jvm Jvm.ClassFile Sem Op Lib Jvm.Free Jvm.Stand Jvm.LawKit Jvm.RoadKit Bundle Jvm.Pilot.@@N@@.Jvm.D
section OwnKit
variable {p : Program} {l : Launch} {e : Env} {R : Room} {s : State} {m : MethodId} {args : Array Value} {below : List Frame} {meth : Method} {c : Code} {T : State} {cells slots cells' slots' : Nat} {Z : State} {a0 : Array Value} {h h' : Heap} {n0 : Nat} {Q : Option Value → Heap → Prop} {own nm : String} {bytes : ByteArray} {maxL : Nat} {ret : Option FieldType} {pc pc' pt : Nat} {Ls : Array Slot} {stk : List Value}

/-- what stays true all through a body's walk -/
def Ctx (p : Program) (s : State) (m : MethodId) (meth : Method) (c : Code) (Z : State) (own nm : String) (bytes : ByteArray) (maxL : Nat) (ret : Option FieldType) : Prop :=
  (p.tables.exec = Jvm.exec ∧ Z.Warmed39 s.vm) ∧ (c.code = bytes ∧ c.maxLocals = maxL) ∧ (s.vm.findClass own = some m.cls ∧ meth.name = nm) ∧ (meth.sig.returnType = ret ∧ meth.locks = false)
theorem Ctx.hx (K : Ctx p s m meth c Z own nm bytes maxL ret) : p.tables.exec = Jvm.exec := K.1.1
theorem Ctx.hZ (K : Ctx p s m meth c Z own nm bytes maxL ret) : Z.Warmed39 s.vm := K.1.2
theorem Ctx.by' (K : Ctx p s m meth c Z own nm bytes maxL ret) : c.code = bytes := K.2.1.1
theorem Ctx.ml (K : Ctx p s m meth c Z own nm bytes maxL ret) : c.maxLocals = maxL := K.2.1.2
theorem Ctx.own' (K : Ctx p s m meth c Z own nm bytes maxL ret) : s.vm.findClass own = some m.cls := K.2.2.1.1
theorem Ctx.nm' (K : Ctx p s m meth c Z own nm bytes maxL ret) : meth.name = nm := K.2.2.1.2
theorem Ctx.ret' (K : Ctx p s m meth c Z own nm bytes maxL ret) : meth.sig.returnType = ret := K.2.2.2.1
theorem Ctx.locks (K : Ctx p s m meth c Z own nm bytes maxL ret) : meth.locks = false := K.2.2.2.2

/-- where the walk stands; what it has written lies at or above n0 -/
def St (p : Program) (l : Launch) (e : Env) (R : Room) (s : State) (m : MethodId) (args : Array Value) (below : List Frame) (meth : Method) (c : Code) (n0 : Nat) (T : State) (cells slots : Nat) : Prop :=
  ∃ locs, Stand p l e R s m args below meth c T locs cells slots ∧ Fr n0 locs
theorem St.mono (X : St p l e R s m args below meth c n0 T cells slots) (hc : cells ≤ cells') (hs : slots ≤ slots') : St p l e R s m args below meth c n0 T cells' slots' := by
  obtain ⟨locs, X, N⟩ := X
  exact ⟨locs, { X with same := X.same.mono hc hs }, N⟩

/-- from the state st the body returns, and what it leaves is as Q says -/
def Go (p : Program) (e : Env) (below : List Frame) (s : State) (R : Room) (n0 : Nat) (Q : Option Value → Heap → Prop) (st : State) : Prop :=
  ∃ s₂ o, Steps p.tables e below st s₂ ∧ s₂.status = .running ∧ Ended s₂ below o ∧ ∃ v L, o = .returned v ∧ (Q v s₂.heap ∧ Fr n0 L) ∧ FrameEnd s o s₂ L R.cells R.slots
theorem go_by {st st' : State} (h : ∀ t, Steps p.tables e below st' t → Steps p.tables e below st t) (k : Go p e below s R n0 Q st') : Go p e below s R n0 Q st := by
  obtain ⟨s₂, o, h1, h2⟩ := k
  exact ⟨s₂, o, h _ h1, h2⟩
theorem own_cut {α : Sort _} {P : α → Prop} {S : α → State} {st : State} (h1 : (∀ b, P b → Go p e below s R n0 Q (S b)) → Go p e below s R n0 Q st) (h2 : ∀ b, P b → Go p e below s R n0 Q (S b)) : Go p e below s R n0 Q st := h1 h2
theorem go_mono {Q' : Option Value → Heap → Prop} {st : State} (k : Go p e below s R n0 Q st) (h : ∀ v u, Q v u → Q' v u) : Go p e below s R n0 Q' st := by
  obtain ⟨s₂, o, h1, h2, h3, v, L, h4, h5, h6⟩ := k
  exact ⟨s₂, o, h1, h2, h3, v, L, h4, ⟨h _ _ h5.1, h5.2⟩, h6⟩

/-- a body's contract at the arguments as' and the heap h0 -/
def Con (l : Launch) (Z : State) (n0 : Nat) (y : MethodName) (bytes : ByteArray) (maxL : Nat) (ret : Option FieldType) (rm : Room) (as' : Array Value) (h0 : Heap) (Q : Option Value → Heap → Prop) : Prop :=
  ∀ ws : List Jvm.Cond, MetFree l y (head1 (Jvm.Cond.code y bytes maxL ret :: ws) rm) (fun a U => a = as' ∧ Z.Warmed39 U.vm ∧ U.heap = h0) (fun _ _ _ _ _ => True) (fun _ U o U' => ∃ v L, o = .returned v ∧ (Q v U'.heap ∧ Fr n0 L) ∧ FrameEnd U o U' L rm.cells rm.slots)
theorem con_of {y : MethodName} {rm : Room} {as' : Array Value} {h0 : Heap} (hx : plainFor y = true)
    (body : ∀ p e s m below meth c T, Ctx p s m meth c Z y.cls y.name bytes maxL ret → St p l e rm s m as' below meth c n0 T 0 0 → T.heap = h0 → Go p e below s rm n0 Q (T.setTop (entryFrame m as' maxL))) :
    Con l Z n0 y bytes maxL ret rm as' h0 Q := by
  intro ws
  refine MetFree.of_bodySF hx hisR ?_
  intro p e s m args below meth c s₁ Bd hml0 hP hK
  obtain ⟨hargs, hZ, hh⟩ := hP
  have X0 := Stand.of_body Bd
  have hnm := (name_of_methodNamed Bd.named Bd.method).1
  rw [hargs] at X0 ⊢
  obtain ⟨s₂, o, h1, h2, h3, v, L, h4, h5, h6⟩ := body p e s m below meth c s₁ ⟨⟨Bd.exec, hZ⟩, ⟨Bd.bytes, hml0⟩, ⟨findClass_of_methodNamed Bd.named, hnm⟩, ⟨Bd.returns, BodyLoose.notSynchronized Bd⟩⟩ ⟨[], X0, Fr.nil n0⟩ (by rw [← hh, Bd.state]; rfl)
  exact ⟨s₂, o, h1, h2, h3, v, L, h4, h5, h6⟩
theorem con_mono {y : MethodName} {rm : Room} {as' : Array Value} {h0 : Heap} {Q' : Option Value → Heap → Prop} (C : Con l Z n0 y bytes maxL ret rm as' h0 Q) (h : ∀ v u, Q v u → Q' v u) : Con l Z n0 y bytes maxL ret rm as' h0 Q' := by
  intro ws p e ha hc hk s m args below hf happ hP hK
  obtain ⟨n, o, h1, h2, h3, v, L, h4, h5, h6⟩ := C ws p e ha hc hk s m args below hf happ hP hK
  exact ⟨n, o, h1, h2, h3, v, L, h4, ⟨h _ _ h5.1, h5.2⟩, h6⟩
theorem go_entry {as' : Array Value} {g : JFrame} (q : entryFrame m as' maxL = g) (k : Go p e below s R n0 Q (T.setTop g)) : Go p e below s R n0 Q (T.setTop (entryFrame m as' maxL)) := by rw [q]; exact k
theorem wd (hw : ∀ d ∈ tables_1, d.before a0 Z = true) (i : Nat) {d : Jvm.Cond} (q : tables_1[i]? = some d) : d.before a0 Z = true := hw d (List.mem_of_getElem? q)

theorem go_iloadN (K : Ctx p s m meth c Z own nm bytes maxL ret) (X : St p l e R s m args below meth c n0 T cells slots) {k0 : Fin 4} {v : Int32} (hd : decode bytes pc = .ok (.iload_n k0, 1)) (hl : Ls[k0.val]? = some (.val (.int v))) (hp : pc + 1 = pc')
    (k : Go p e below s R n0 Q (T.setTop (mkF m pc' Ls (.int v :: stk)))) : Go p e below s R n0 Q (T.setTop (mkF m pc Ls (stk))) := by
  subst hp; obtain ⟨locs, X, N⟩ := X
  exact go_by (fun t k => XS.iloadN X.here K.hx rfl (hb K.by' hd) hl k) k

theorem go_iload (K : Ctx p s m meth c Z own nm bytes maxL ret) (X : St p l e R s m args below meth c n0 T cells slots) {k0 : Nat} {v : Int32} (hd : decode bytes pc = .ok (.iload k0, 2)) (hl : Ls[k0]? = some (.val (.int v))) (hp : pc + 2 = pc')
    (k : Go p e below s R n0 Q (T.setTop (mkF m pc' Ls (.int v :: stk)))) : Go p e below s R n0 Q (T.setTop (mkF m pc Ls (stk))) := by
  subst hp; obtain ⟨locs, X, N⟩ := X
  exact go_by (fun t k => XS.iload X.here K.hx rfl (hb K.by' hd) hl k) k

theorem go_lloadN (K : Ctx p s m meth c Z own nm bytes maxL ret) (X : St p l e R s m args below meth c n0 T cells slots) {k0 : Fin 4} {v : Int64} (hd : decode bytes pc = .ok (.lload_n k0, 1)) (hl : Ls[k0.val]? = some (.val (.long v))) (hp : pc + 1 = pc')
    (k : Go p e below s R n0 Q (T.setTop (mkF m pc' Ls (.long v :: stk)))) : Go p e below s R n0 Q (T.setTop (mkF m pc Ls (stk))) := by
  subst hp; obtain ⟨locs, X, N⟩ := X
  exact go_by (fun t k => XS.lloadN X.here K.hx rfl (hb K.by' hd) hl k) k

theorem go_lload (K : Ctx p s m meth c Z own nm bytes maxL ret) (X : St p l e R s m args below meth c n0 T cells slots) {k0 : Nat} {v : Int64} (hd : decode bytes pc = .ok (.lload k0, 2)) (hl : Ls[k0]? = some (.val (.long v))) (hp : pc + 2 = pc')
    (k : Go p e below s R n0 Q (T.setTop (mkF m pc' Ls (.long v :: stk)))) : Go p e below s R n0 Q (T.setTop (mkF m pc Ls (stk))) := by
  subst hp; obtain ⟨locs, X, N⟩ := X
  exact go_by (fun t k => XS.lload X.here K.hx rfl (hb K.by' hd) hl k) k

theorem go_aloadN (K : Ctx p s m meth c Z own nm bytes maxL ret) (X : St p l e R s m args below meth c n0 T cells slots) {k0 : Fin 4} {v : Value} (hd : decode bytes pc = .ok (.aload_n k0, 1)) (hl : Ls[k0.val]? = some (.val v)) (hv : v.isRef = true) (hp : pc + 1 = pc')
    (k : Go p e below s R n0 Q (T.setTop (mkF m pc' Ls (v :: stk)))) : Go p e below s R n0 Q (T.setTop (mkF m pc Ls (stk))) := by
  subst hp; obtain ⟨locs, X, N⟩ := X
  exact go_by (fun t k => XS.aloadN X.here K.hx rfl (hb K.by' hd) hl hv k) k

theorem go_aload (K : Ctx p s m meth c Z own nm bytes maxL ret) (X : St p l e R s m args below meth c n0 T cells slots) {k0 : Nat} {v : Value} (hd : decode bytes pc = .ok (.aload k0, 2)) (hl : Ls[k0]? = some (.val v)) (hv : v.isRef = true) (hp : pc + 2 = pc')
    (k : Go p e below s R n0 Q (T.setTop (mkF m pc' Ls (v :: stk)))) : Go p e below s R n0 Q (T.setTop (mkF m pc Ls (stk))) := by
  subst hp; obtain ⟨locs, X, N⟩ := X
  exact go_by (fun t k => XS.aload X.here K.hx rfl (hb K.by' hd) hl hv k) k

theorem go_iconst (K : Ctx p s m meth c Z own nm bytes maxL ret) (X : St p l e R s m args below meth c n0 T cells slots) {i : Int} (v : Int32) (hd : decode bytes pc = .ok (.iconst i, 1)) (hv : Int32.ofInt i = v) (hp : pc + 1 = pc')
    (k : Go p e below s R n0 Q (T.setTop (mkF m pc' Ls (.int v :: stk)))) : Go p e below s R n0 Q (T.setTop (mkF m pc Ls (stk))) := by
  subst hp; obtain ⟨locs, X, N⟩ := X
  exact go_by (fun t k => XT.iconstV X.here K.hx rfl v (hb K.by' hd) hv k) k

theorem go_bipush (K : Ctx p s m meth c Z own nm bytes maxL ret) (X : St p l e R s m args below meth c n0 T cells slots) {i : Int} (v : Int32) (hd : decode bytes pc = .ok (.bipush i, 2)) (hv : (Int8.ofInt i).toInt32 = v) (hp : pc + 2 = pc')
    (k : Go p e below s R n0 Q (T.setTop (mkF m pc' Ls (.int v :: stk)))) : Go p e below s R n0 Q (T.setTop (mkF m pc Ls (stk))) := by
  subst hp; obtain ⟨locs, X, N⟩ := X
  exact go_by (fun t k => XT.bipushV X.here K.hx rfl v (hb K.by' hd) hv k) k

theorem go_sipush (K : Ctx p s m meth c Z own nm bytes maxL ret) (X : St p l e R s m args below meth c n0 T cells slots) {i : Int} (v : Int32) (hd : decode bytes pc = .ok (.sipush i, 3)) (hv : (Int16.ofInt i).toInt32 = v) (hp : pc + 3 = pc')
    (k : Go p e below s R n0 Q (T.setTop (mkF m pc' Ls (.int v :: stk)))) : Go p e below s R n0 Q (T.setTop (mkF m pc Ls (stk))) := by
  subst hp; obtain ⟨locs, X, N⟩ := X
  exact go_by (fun t k => XT.sipushV X.here K.hx rfl v (hb K.by' hd) hv k) k

theorem go_lconst (K : Ctx p s m meth c Z own nm bytes maxL ret) (X : St p l e R s m args below meth c n0 T cells slots) {i : Fin 2} (v : Int64) (hd : decode bytes pc = .ok (.lconst i, 1)) (hv : Int64.ofNat i = v) (hp : pc + 1 = pc')
    (k : Go p e below s R n0 Q (T.setTop (mkF m pc' Ls (.long v :: stk)))) : Go p e below s R n0 Q (T.setTop (mkF m pc Ls (stk))) := by
  subst hp; obtain ⟨locs, X, N⟩ := X
  exact go_by (fun t k => XT.lconstV X.here K.hx rfl v (hb K.by' hd) hv k) k

theorem go_null (K : Ctx p s m meth c Z own nm bytes maxL ret) (X : St p l e R s m args below meth c n0 T cells slots)  (hd : decode bytes pc = .ok (.aconst_null, 1)) (hp : pc + 1 = pc')
    (k : Go p e below s R n0 Q (T.setTop (mkF m pc' Ls (.null :: stk)))) : Go p e below s R n0 Q (T.setTop (mkF m pc Ls (stk))) := by
  subst hp; obtain ⟨locs, X, N⟩ := X
  exact go_by (fun t k => XS.aconstNull X.here K.hx rfl (hb K.by' hd) k) k

theorem go_ldcI (K : Ctx p s m meth c Z own nm bytes maxL ret) (X : St p l e R s m args below meth c n0 T cells slots) {index : Nat} {v : Int32} (w : (Cond.constant own index v).before a0 Z = true) (hd : decode bytes pc = .ok (.ldc index, 2)) (hp : pc + 2 = pc')
    (k : Go p e below s R n0 Q (T.setTop (mkF m pc' Ls (.int v :: stk)))) : Go p e below s R n0 Q (T.setTop (mkF m pc Ls (stk))) := by
  subst hp; obtain ⟨locs, X, N⟩ := X
  exact go_by (fun t k => X.ldcI K.hx K.own' (mvT K.hZ w) rfl (hb K.by' hd) k) k

theorem go_ldcWI (K : Ctx p s m meth c Z own nm bytes maxL ret) (X : St p l e R s m args below meth c n0 T cells slots) {index : Nat} {v : Int32} (w : (Cond.constant own index v).before a0 Z = true) (hd : decode bytes pc = .ok (.ldc_w index, 3)) (hp : pc + 3 = pc')
    (k : Go p e below s R n0 Q (T.setTop (mkF m pc' Ls (.int v :: stk)))) : Go p e below s R n0 Q (T.setTop (mkF m pc Ls (stk))) := by
  subst hp; obtain ⟨locs, X, N⟩ := X
  exact go_by (fun t k => X.ldcWI K.hx K.own' (mvT K.hZ w) rfl (hb K.by' hd) k) k

theorem go_ldc2J (K : Ctx p s m meth c Z own nm bytes maxL ret) (X : St p l e R s m args below meth c n0 T cells slots) {index : Nat} {v : Int64} (w : (Cond.constantLong own index v).before a0 Z = true) (hd : decode bytes pc = .ok (.ldc2_w index, 3)) (hp : pc + 3 = pc')
    (k : Go p e below s R n0 Q (T.setTop (mkF m pc' Ls (.long v :: stk)))) : Go p e below s R n0 Q (T.setTop (mkF m pc Ls (stk))) := by
  subst hp; obtain ⟨locs, X, N⟩ := X
  exact go_by (fun t k => X.ldc2J K.hx K.own' (mvT K.hZ w) rfl (hb K.by' hd) k) k

theorem go_iadd (K : Ctx p s m meth c Z own nm bytes maxL ret) (X : St p l e R s m args below meth c n0 T cells slots) {x y : Int32} (hd : decode bytes pc = .ok (.iadd, 1)) (hp : pc + 1 = pc')
    (k : Go p e below s R n0 Q (T.setTop (mkF m pc' Ls (.int (x + y) :: stk)))) : Go p e below s R n0 Q (T.setTop (mkF m pc Ls (.int y :: .int x :: stk))) := by
  subst hp; obtain ⟨locs, X, N⟩ := X
  exact go_by (fun t k => XS.iadd X.here K.hx rfl (hb K.by' hd) rfl k) k

theorem go_isub (K : Ctx p s m meth c Z own nm bytes maxL ret) (X : St p l e R s m args below meth c n0 T cells slots) {x y : Int32} (hd : decode bytes pc = .ok (.isub, 1)) (hp : pc + 1 = pc')
    (k : Go p e below s R n0 Q (T.setTop (mkF m pc' Ls (.int (x - y) :: stk)))) : Go p e below s R n0 Q (T.setTop (mkF m pc Ls (.int y :: .int x :: stk))) := by
  subst hp; obtain ⟨locs, X, N⟩ := X
  exact go_by (fun t k => XS.isub X.here K.hx rfl (hb K.by' hd) rfl k) k

theorem go_imul (K : Ctx p s m meth c Z own nm bytes maxL ret) (X : St p l e R s m args below meth c n0 T cells slots) {x y : Int32} (hd : decode bytes pc = .ok (.imul, 1)) (hp : pc + 1 = pc')
    (k : Go p e below s R n0 Q (T.setTop (mkF m pc' Ls (.int (x * y) :: stk)))) : Go p e below s R n0 Q (T.setTop (mkF m pc Ls (.int y :: .int x :: stk))) := by
  subst hp; obtain ⟨locs, X, N⟩ := X
  exact go_by (fun t k => XS.imul X.here K.hx rfl (hb K.by' hd) rfl k) k

theorem go_iand (K : Ctx p s m meth c Z own nm bytes maxL ret) (X : St p l e R s m args below meth c n0 T cells slots) {x y : Int32} (hd : decode bytes pc = .ok (.iand, 1)) (hp : pc + 1 = pc')
    (k : Go p e below s R n0 Q (T.setTop (mkF m pc' Ls (.int (x &&& y) :: stk)))) : Go p e below s R n0 Q (T.setTop (mkF m pc Ls (.int y :: .int x :: stk))) := by
  subst hp; obtain ⟨locs, X, N⟩ := X
  exact go_by (fun t k => XS.iand X.here K.hx rfl (hb K.by' hd) rfl k) k

theorem go_ior (K : Ctx p s m meth c Z own nm bytes maxL ret) (X : St p l e R s m args below meth c n0 T cells slots) {x y : Int32} (hd : decode bytes pc = .ok (.ior, 1)) (hp : pc + 1 = pc')
    (k : Go p e below s R n0 Q (T.setTop (mkF m pc' Ls (.int (x ||| y) :: stk)))) : Go p e below s R n0 Q (T.setTop (mkF m pc Ls (.int y :: .int x :: stk))) := by
  subst hp; obtain ⟨locs, X, N⟩ := X
  exact go_by (fun t k => XS.ior X.here K.hx rfl (hb K.by' hd) rfl k) k

theorem go_ixor (K : Ctx p s m meth c Z own nm bytes maxL ret) (X : St p l e R s m args below meth c n0 T cells slots) {x y : Int32} (hd : decode bytes pc = .ok (.ixor, 1)) (hp : pc + 1 = pc')
    (k : Go p e below s R n0 Q (T.setTop (mkF m pc' Ls (.int (x ^^^ y) :: stk)))) : Go p e below s R n0 Q (T.setTop (mkF m pc Ls (.int y :: .int x :: stk))) := by
  subst hp; obtain ⟨locs, X, N⟩ := X
  exact go_by (fun t k => XS.ixor X.here K.hx rfl (hb K.by' hd) rfl k) k

theorem go_ishl (K : Ctx p s m meth c Z own nm bytes maxL ret) (X : St p l e R s m args below meth c n0 T cells slots) {x y : Int32} (hd : decode bytes pc = .ok (.ishl, 1)) (hp : pc + 1 = pc')
    (k : Go p e below s R n0 Q (T.setTop (mkF m pc' Ls (.int (x <<< (y &&& 31)) :: stk)))) : Go p e below s R n0 Q (T.setTop (mkF m pc Ls (.int y :: .int x :: stk))) := by
  subst hp; obtain ⟨locs, X, N⟩ := X
  exact go_by (fun t k => XS.ishl X.here K.hx rfl (hb K.by' hd) rfl k) k

theorem go_ishr (K : Ctx p s m meth c Z own nm bytes maxL ret) (X : St p l e R s m args below meth c n0 T cells slots) {x y : Int32} (hd : decode bytes pc = .ok (.ishr, 1)) (hp : pc + 1 = pc')
    (k : Go p e below s R n0 Q (T.setTop (mkF m pc' Ls (.int (x >>> (y &&& 31)) :: stk)))) : Go p e below s R n0 Q (T.setTop (mkF m pc Ls (.int y :: .int x :: stk))) := by
  subst hp; obtain ⟨locs, X, N⟩ := X
  exact go_by (fun t k => XS.ishr X.here K.hx rfl (hb K.by' hd) rfl k) k

theorem go_iushr (K : Ctx p s m meth c Z own nm bytes maxL ret) (X : St p l e R s m args below meth c n0 T cells slots) {x y : Int32} (hd : decode bytes pc = .ok (.iushr, 1)) (hp : pc + 1 = pc')
    (k : Go p e below s R n0 Q (T.setTop (mkF m pc' Ls (.int ((x.toUInt32 >>> (y &&& 31).toUInt32).toInt32) :: stk)))) : Go p e below s R n0 Q (T.setTop (mkF m pc Ls (.int y :: .int x :: stk))) := by
  subst hp; obtain ⟨locs, X, N⟩ := X
  exact go_by (fun t k => XS.iushr X.here K.hx rfl (hb K.by' hd) rfl k) k

theorem go_ladd (K : Ctx p s m meth c Z own nm bytes maxL ret) (X : St p l e R s m args below meth c n0 T cells slots) {x y : Int64} (hd : decode bytes pc = .ok (.ladd, 1)) (hp : pc + 1 = pc')
    (k : Go p e below s R n0 Q (T.setTop (mkF m pc' Ls (.long (x + y) :: stk)))) : Go p e below s R n0 Q (T.setTop (mkF m pc Ls (.long y :: .long x :: stk))) := by
  subst hp; obtain ⟨locs, X, N⟩ := X
  exact go_by (fun t k => XS.ladd X.here K.hx rfl (hb K.by' hd) rfl k) k

theorem go_lsub (K : Ctx p s m meth c Z own nm bytes maxL ret) (X : St p l e R s m args below meth c n0 T cells slots) {x y : Int64} (hd : decode bytes pc = .ok (.lsub, 1)) (hp : pc + 1 = pc')
    (k : Go p e below s R n0 Q (T.setTop (mkF m pc' Ls (.long (x - y) :: stk)))) : Go p e below s R n0 Q (T.setTop (mkF m pc Ls (.long y :: .long x :: stk))) := by
  subst hp; obtain ⟨locs, X, N⟩ := X
  exact go_by (fun t k => XS.lsub X.here K.hx rfl (hb K.by' hd) rfl k) k

theorem go_lmul (K : Ctx p s m meth c Z own nm bytes maxL ret) (X : St p l e R s m args below meth c n0 T cells slots) {x y : Int64} (hd : decode bytes pc = .ok (.lmul, 1)) (hp : pc + 1 = pc')
    (k : Go p e below s R n0 Q (T.setTop (mkF m pc' Ls (.long (x * y) :: stk)))) : Go p e below s R n0 Q (T.setTop (mkF m pc Ls (.long y :: .long x :: stk))) := by
  subst hp; obtain ⟨locs, X, N⟩ := X
  exact go_by (fun t k => XS.lmul X.here K.hx rfl (hb K.by' hd) rfl k) k

theorem go_land (K : Ctx p s m meth c Z own nm bytes maxL ret) (X : St p l e R s m args below meth c n0 T cells slots) {x y : Int64} (hd : decode bytes pc = .ok (.land, 1)) (hp : pc + 1 = pc')
    (k : Go p e below s R n0 Q (T.setTop (mkF m pc' Ls (.long (x &&& y) :: stk)))) : Go p e below s R n0 Q (T.setTop (mkF m pc Ls (.long y :: .long x :: stk))) := by
  subst hp; obtain ⟨locs, X, N⟩ := X
  exact go_by (fun t k => XS.land X.here K.hx rfl (hb K.by' hd) rfl k) k

theorem go_lor (K : Ctx p s m meth c Z own nm bytes maxL ret) (X : St p l e R s m args below meth c n0 T cells slots) {x y : Int64} (hd : decode bytes pc = .ok (.lor, 1)) (hp : pc + 1 = pc')
    (k : Go p e below s R n0 Q (T.setTop (mkF m pc' Ls (.long (x ||| y) :: stk)))) : Go p e below s R n0 Q (T.setTop (mkF m pc Ls (.long y :: .long x :: stk))) := by
  subst hp; obtain ⟨locs, X, N⟩ := X
  exact go_by (fun t k => XS.lor X.here K.hx rfl (hb K.by' hd) rfl k) k

theorem go_lxor (K : Ctx p s m meth c Z own nm bytes maxL ret) (X : St p l e R s m args below meth c n0 T cells slots) {x y : Int64} (hd : decode bytes pc = .ok (.lxor, 1)) (hp : pc + 1 = pc')
    (k : Go p e below s R n0 Q (T.setTop (mkF m pc' Ls (.long (x ^^^ y) :: stk)))) : Go p e below s R n0 Q (T.setTop (mkF m pc Ls (.long y :: .long x :: stk))) := by
  subst hp; obtain ⟨locs, X, N⟩ := X
  exact go_by (fun t k => XS.lxor X.here K.hx rfl (hb K.by' hd) rfl k) k

theorem go_lshl (K : Ctx p s m meth c Z own nm bytes maxL ret) (X : St p l e R s m args below meth c n0 T cells slots) {x : Int64} {y : Int32} (hd : decode bytes pc = .ok (.lshl, 1)) (hp : pc + 1 = pc')
    (k : Go p e below s R n0 Q (T.setTop (mkF m pc' Ls (.long (x <<< (y &&& 0x3f).toInt64) :: stk)))) : Go p e below s R n0 Q (T.setTop (mkF m pc Ls (.int y :: .long x :: stk))) := by
  subst hp; obtain ⟨locs, X, N⟩ := X
  exact go_by (fun t k => XS.lshl X.here K.hx rfl (hb K.by' hd) rfl k) k

theorem go_lshr (K : Ctx p s m meth c Z own nm bytes maxL ret) (X : St p l e R s m args below meth c n0 T cells slots) {x : Int64} {y : Int32} (hd : decode bytes pc = .ok (.lshr, 1)) (hp : pc + 1 = pc')
    (k : Go p e below s R n0 Q (T.setTop (mkF m pc' Ls (.long (x >>> (y &&& 0x3f).toInt64) :: stk)))) : Go p e below s R n0 Q (T.setTop (mkF m pc Ls (.int y :: .long x :: stk))) := by
  subst hp; obtain ⟨locs, X, N⟩ := X
  exact go_by (fun t k => XS.lshr X.here K.hx rfl (hb K.by' hd) rfl k) k

theorem go_lushr (K : Ctx p s m meth c Z own nm bytes maxL ret) (X : St p l e R s m args below meth c n0 T cells slots) {x : Int64} {y : Int32} (hd : decode bytes pc = .ok (.lushr, 1)) (hp : pc + 1 = pc')
    (k : Go p e below s R n0 Q (T.setTop (mkF m pc' Ls (.long ((x.toUInt64 >>> (y &&& 0x3f).toInt64.toUInt64).toInt64) :: stk)))) : Go p e below s R n0 Q (T.setTop (mkF m pc Ls (.int y :: .long x :: stk))) := by
  subst hp; obtain ⟨locs, X, N⟩ := X
  exact go_by (fun t k => XS.lushr X.here K.hx rfl (hb K.by' hd) rfl k) k

theorem go_idiv (K : Ctx p s m meth c Z own nm bytes maxL ret) (X : St p l e R s m args below meth c n0 T cells slots) {x y : Int32} (hd : decode bytes pc = .ok (.idiv, 1)) (hy : y ≠ 0) (hp : pc + 1 = pc')
    (k : Go p e below s R n0 Q (T.setTop (mkF m pc' Ls (.int (x / y) :: stk)))) : Go p e below s R n0 Q (T.setTop (mkF m pc Ls (.int y :: .int x :: stk))) := by
  subst hp; obtain ⟨locs, X, N⟩ := X
  exact go_by (fun t k => XS.idiv X.here K.hx rfl (hb K.by' hd) rfl hy k) k

theorem go_irem (K : Ctx p s m meth c Z own nm bytes maxL ret) (X : St p l e R s m args below meth c n0 T cells slots) {x y : Int32} (hd : decode bytes pc = .ok (.irem, 1)) (hy : y ≠ 0) (hp : pc + 1 = pc')
    (k : Go p e below s R n0 Q (T.setTop (mkF m pc' Ls (.int (x % y) :: stk)))) : Go p e below s R n0 Q (T.setTop (mkF m pc Ls (.int y :: .int x :: stk))) := by
  subst hp; obtain ⟨locs, X, N⟩ := X
  exact go_by (fun t k => iremM X K.hx rfl (hb K.by' hd) rfl hy k) k

theorem go_ldiv (K : Ctx p s m meth c Z own nm bytes maxL ret) (X : St p l e R s m args below meth c n0 T cells slots) {x y : Int64} (hd : decode bytes pc = .ok (.ldiv, 1)) (hy : y ≠ 0) (hp : pc + 1 = pc')
    (k : Go p e below s R n0 Q (T.setTop (mkF m pc' Ls (.long (x / y) :: stk)))) : Go p e below s R n0 Q (T.setTop (mkF m pc Ls (.long y :: .long x :: stk))) := by
  subst hp; obtain ⟨locs, X, N⟩ := X
  exact go_by (fun t k => XS.ldiv X.here K.hx rfl (hb K.by' hd) rfl hy k) k

theorem go_lrem (K : Ctx p s m meth c Z own nm bytes maxL ret) (X : St p l e R s m args below meth c n0 T cells slots) {x y : Int64} (hd : decode bytes pc = .ok (.lrem, 1)) (hy : y ≠ 0) (hp : pc + 1 = pc')
    (k : Go p e below s R n0 Q (T.setTop (mkF m pc' Ls (.long (x - (x / y) * y) :: stk)))) : Go p e below s R n0 Q (T.setTop (mkF m pc Ls (.long y :: .long x :: stk))) := by
  subst hp; obtain ⟨locs, X, N⟩ := X
  exact go_by (fun t k => XS.lrem X.here K.hx rfl (hb K.by' hd) rfl hy k) k

theorem go_ineg (K : Ctx p s m meth c Z own nm bytes maxL ret) (X : St p l e R s m args below meth c n0 T cells slots) {x : Int32} (hd : decode bytes pc = .ok (.ineg, 1)) (hp : pc + 1 = pc')
    (k : Go p e below s R n0 Q (T.setTop (mkF m pc' Ls (.int (-x) :: stk)))) : Go p e below s R n0 Q (T.setTop (mkF m pc Ls (.int x :: stk))) := by
  subst hp; obtain ⟨locs, X, N⟩ := X
  exact go_by (fun t k => XS.ineg X.here K.hx rfl (hb K.by' hd) rfl k) k

theorem go_lneg (K : Ctx p s m meth c Z own nm bytes maxL ret) (X : St p l e R s m args below meth c n0 T cells slots) {x : Int64} (hd : decode bytes pc = .ok (.lneg, 1)) (hp : pc + 1 = pc')
    (k : Go p e below s R n0 Q (T.setTop (mkF m pc' Ls (.long (-x) :: stk)))) : Go p e below s R n0 Q (T.setTop (mkF m pc Ls (.long x :: stk))) := by
  subst hp; obtain ⟨locs, X, N⟩ := X
  exact go_by (fun t k => XS.lneg X.here K.hx rfl (hb K.by' hd) rfl k) k

theorem go_i2b (K : Ctx p s m meth c Z own nm bytes maxL ret) (X : St p l e R s m args below meth c n0 T cells slots) {x : Int32} (hd : decode bytes pc = .ok (.i2b, 1)) (hp : pc + 1 = pc')
    (k : Go p e below s R n0 Q (T.setTop (mkF m pc' Ls (.int (x.toInt8.toInt32) :: stk)))) : Go p e below s R n0 Q (T.setTop (mkF m pc Ls (.int x :: stk))) := by
  subst hp; obtain ⟨locs, X, N⟩ := X
  exact go_by (fun t k => XS.i2b X.here K.hx rfl (hb K.by' hd) rfl k) k

theorem go_i2c (K : Ctx p s m meth c Z own nm bytes maxL ret) (X : St p l e R s m args below meth c n0 T cells slots) {x : Int32} (hd : decode bytes pc = .ok (.i2c, 1)) (hp : pc + 1 = pc')
    (k : Go p e below s R n0 Q (T.setTop (mkF m pc' Ls (.int (x.toUInt32.toUInt16.toUInt32.toInt32) :: stk)))) : Go p e below s R n0 Q (T.setTop (mkF m pc Ls (.int x :: stk))) := by
  subst hp; obtain ⟨locs, X, N⟩ := X
  exact go_by (fun t k => XS.i2c X.here K.hx rfl (hb K.by' hd) rfl k) k

theorem go_i2s (K : Ctx p s m meth c Z own nm bytes maxL ret) (X : St p l e R s m args below meth c n0 T cells slots) {x : Int32} (hd : decode bytes pc = .ok (.i2s, 1)) (hp : pc + 1 = pc')
    (k : Go p e below s R n0 Q (T.setTop (mkF m pc' Ls (.int (x.toInt16.toInt32) :: stk)))) : Go p e below s R n0 Q (T.setTop (mkF m pc Ls (.int x :: stk))) := by
  subst hp; obtain ⟨locs, X, N⟩ := X
  exact go_by (fun t k => XS.i2s X.here K.hx rfl (hb K.by' hd) rfl k) k

theorem go_i2l (K : Ctx p s m meth c Z own nm bytes maxL ret) (X : St p l e R s m args below meth c n0 T cells slots) {x : Int32} (hd : decode bytes pc = .ok (.i2l, 1)) (hp : pc + 1 = pc')
    (k : Go p e below s R n0 Q (T.setTop (mkF m pc' Ls (.long x.toInt64 :: stk)))) : Go p e below s R n0 Q (T.setTop (mkF m pc Ls (.int x :: stk))) := by
  subst hp; obtain ⟨locs, X, N⟩ := X
  exact go_by (fun t k => XS.i2l X.here K.hx rfl (hb K.by' hd) rfl k) k

theorem go_l2i (K : Ctx p s m meth c Z own nm bytes maxL ret) (X : St p l e R s m args below meth c n0 T cells slots) {x : Int64} (hd : decode bytes pc = .ok (.l2i, 1)) (hp : pc + 1 = pc')
    (k : Go p e below s R n0 Q (T.setTop (mkF m pc' Ls (.int x.toInt32 :: stk)))) : Go p e below s R n0 Q (T.setTop (mkF m pc Ls (.long x :: stk))) := by
  subst hp; obtain ⟨locs, X, N⟩ := X
  exact go_by (fun t k => XS.l2i X.here K.hx rfl (hb K.by' hd) rfl k) k

theorem go_istoreN (K : Ctx p s m meth c Z own nm bytes maxL ret) (X : St p l e R s m args below meth c n0 T cells slots) {k0 : Fin 4} {v : Int32} (Ls' : Array Slot) (hd : decode bytes pc = .ok (.istore_n k0, 1)) (hl : storeLocals Ls k0.val (.int v) = some Ls') (hp : pc + 1 = pc')
    (k : Go p e below s R n0 Q (T.setTop (mkF m pc' Ls' (stk)))) : Go p e below s R n0 Q (T.setTop (mkF m pc Ls (.int v :: stk))) := by
  subst hp; obtain ⟨locs, X, N⟩ := X
  exact go_by (fun t k => XS.istoreN X.here K.hx rfl (hb K.by' hd) rfl hl k) k

theorem go_istore (K : Ctx p s m meth c Z own nm bytes maxL ret) (X : St p l e R s m args below meth c n0 T cells slots) {k0 : Nat} {v : Int32} (Ls' : Array Slot) (hd : decode bytes pc = .ok (.istore k0, 2)) (hl : storeLocals Ls k0 (.int v) = some Ls') (hp : pc + 2 = pc')
    (k : Go p e below s R n0 Q (T.setTop (mkF m pc' Ls' (stk)))) : Go p e below s R n0 Q (T.setTop (mkF m pc Ls (.int v :: stk))) := by
  subst hp; obtain ⟨locs, X, N⟩ := X
  exact go_by (fun t k => XS.istore X.here K.hx rfl (hb K.by' hd) rfl hl k) k

theorem go_lstoreN (K : Ctx p s m meth c Z own nm bytes maxL ret) (X : St p l e R s m args below meth c n0 T cells slots) {k0 : Fin 4} {v : Int64} (Ls' : Array Slot) (hd : decode bytes pc = .ok (.lstore_n k0, 1)) (hl : storeLocals Ls k0.val (.long v) = some Ls') (hp : pc + 1 = pc')
    (k : Go p e below s R n0 Q (T.setTop (mkF m pc' Ls' (stk)))) : Go p e below s R n0 Q (T.setTop (mkF m pc Ls (.long v :: stk))) := by
  subst hp; obtain ⟨locs, X, N⟩ := X
  exact go_by (fun t k => XS.lstoreN X.here K.hx rfl (hb K.by' hd) rfl hl k) k

theorem go_lstore (K : Ctx p s m meth c Z own nm bytes maxL ret) (X : St p l e R s m args below meth c n0 T cells slots) {k0 : Nat} {v : Int64} (Ls' : Array Slot) (hd : decode bytes pc = .ok (.lstore k0, 2)) (hl : storeLocals Ls k0 (.long v) = some Ls') (hp : pc + 2 = pc')
    (k : Go p e below s R n0 Q (T.setTop (mkF m pc' Ls' (stk)))) : Go p e below s R n0 Q (T.setTop (mkF m pc Ls (.long v :: stk))) := by
  subst hp; obtain ⟨locs, X, N⟩ := X
  exact go_by (fun t k => XS.lstore X.here K.hx rfl (hb K.by' hd) rfl hl k) k

theorem go_astoreN (K : Ctx p s m meth c Z own nm bytes maxL ret) (X : St p l e R s m args below meth c n0 T cells slots) {k0 : Fin 4} {v : Value} (Ls' : Array Slot) (hd : decode bytes pc = .ok (.astore_n k0, 1)) (hv : v.isRef = true) (hl : storeLocals Ls k0.val v = some Ls') (hp : pc + 1 = pc')
    (k : Go p e below s R n0 Q (T.setTop (mkF m pc' Ls' (stk)))) : Go p e below s R n0 Q (T.setTop (mkF m pc Ls (v :: stk))) := by
  subst hp; obtain ⟨locs, X, N⟩ := X
  exact go_by (fun t k => XS.astoreN X.here K.hx rfl (hb K.by' hd) rfl hv hl k) k

theorem go_astore (K : Ctx p s m meth c Z own nm bytes maxL ret) (X : St p l e R s m args below meth c n0 T cells slots) {k0 : Nat} {v : Value} (Ls' : Array Slot) (hd : decode bytes pc = .ok (.astore k0, 2)) (hv : v.isRef = true) (hl : storeLocals Ls k0 v = some Ls') (hp : pc + 2 = pc')
    (k : Go p e below s R n0 Q (T.setTop (mkF m pc' Ls' (stk)))) : Go p e below s R n0 Q (T.setTop (mkF m pc Ls (v :: stk))) := by
  subst hp; obtain ⟨locs, X, N⟩ := X
  exact go_by (fun t k => XS.astore X.here K.hx rfl (hb K.by' hd) rfl hv hl k) k

theorem go_iinc (K : Ctx p s m meth c Z own nm bytes maxL ret) (X : St p l e R s m args below meth c n0 T cells slots) {k0 : Nat} {cst : Int} {x : Int32} (v : Int32) (Ls' : Array Slot) (hd : decode bytes pc = .ok (.iinc k0 cst, 3)) (hv : Int32.ofInt cst = v) (hl : Ls[k0]? = some (.val (.int x))) (hl' : storeLocals Ls k0 (.int (x + v)) = some Ls') (hp : pc + 3 = pc')
    (k : Go p e below s R n0 Q (T.setTop (mkF m pc' Ls' (stk)))) : Go p e below s R n0 Q (T.setTop (mkF m pc Ls (stk))) := by
  subst hp; obtain ⟨locs, X, N⟩ := X
  exact go_by (fun t k => XT.iincV X.here K.hx rfl v (hb K.by' hd) hv hl hl' k) k

theorem go_dup (K : Ctx p s m meth c Z own nm bytes maxL ret) (X : St p l e R s m args below meth c n0 T cells slots) {x : Value} (hd : decode bytes pc = .ok (.dup, 1)) (hc : x.category = 1) (hp : pc + 1 = pc')
    (k : Go p e below s R n0 Q (T.setTop (mkF m pc' Ls (x :: x :: stk)))) : Go p e below s R n0 Q (T.setTop (mkF m pc Ls (x :: stk))) := by
  subst hp; obtain ⟨locs, X, N⟩ := X
  exact go_by (fun t k => XS.dup X.here K.hx rfl (hb K.by' hd) rfl hc k) k

theorem go_pop (K : Ctx p s m meth c Z own nm bytes maxL ret) (X : St p l e R s m args below meth c n0 T cells slots) {x : Value} (hd : decode bytes pc = .ok (.pop, 1)) (hc : x.category = 1) (hp : pc + 1 = pc')
    (k : Go p e below s R n0 Q (T.setTop (mkF m pc' Ls (stk)))) : Go p e below s R n0 Q (T.setTop (mkF m pc Ls (x :: stk))) := by
  subst hp; obtain ⟨locs, X, N⟩ := X
  exact go_by (fun t k => XS.pop X.here K.hx rfl (hb K.by' hd) rfl hc k) k

theorem go_dupX1 (K : Ctx p s m meth c Z own nm bytes maxL ret) (X : St p l e R s m args below meth c n0 T cells slots) {x y : Value} (hd : decode bytes pc = .ok (.dup_x1, 1)) (hc : x.category = 1) (hc' : y.category = 1) (hp : pc + 1 = pc')
    (k : Go p e below s R n0 Q (T.setTop (mkF m pc' Ls (x :: y :: x :: stk)))) : Go p e below s R n0 Q (T.setTop (mkF m pc Ls (x :: y :: stk))) := by
  subst hp; obtain ⟨locs, X, N⟩ := X
  exact go_by (fun t k => XS.dupX1 X.here K.hx rfl (hb K.by' hd) rfl hc hc' k) k

theorem go_dup2 (K : Ctx p s m meth c Z own nm bytes maxL ret) (X : St p l e R s m args below meth c n0 T cells slots) {x y : Value} (hd : decode bytes pc = .ok (.dup2, 1)) (hc : x.category = 1) (hc' : y.category = 1) (hp : pc + 1 = pc')
    (k : Go p e below s R n0 Q (T.setTop (mkF m pc' Ls (x :: y :: x :: y :: stk)))) : Go p e below s R n0 Q (T.setTop (mkF m pc Ls (x :: y :: stk))) := by
  subst hp; obtain ⟨locs, X, N⟩ := X
  exact go_by (fun t k => XT.dup2 X.here K.hx rfl (hb K.by' hd) rfl hc hc' k) k

theorem go_dup2L (K : Ctx p s m meth c Z own nm bytes maxL ret) (X : St p l e R s m args below meth c n0 T cells slots) {x : Int64} (hd : decode bytes pc = .ok (.dup2, 1)) (hp : pc + 1 = pc')
    (k : Go p e below s R n0 Q (T.setTop (mkF m pc' Ls (.long x :: .long x :: stk)))) : Go p e below s R n0 Q (T.setTop (mkF m pc Ls (.long x :: stk))) := by
  subst hp; obtain ⟨locs, X, N⟩ := X
  exact go_by (fun t k => XT.dup2L X.here K.hx rfl (hb K.by' hd) rfl k) k

theorem go_goto (K : Ctx p s m meth c Z own nm bytes maxL ret) (X : St p l e R s m args below meth c n0 T cells slots) {o : Int} (hd : decode bytes pc = .ok (.goto o, 3)) (ho : 0 ≤ (pc : Int) + o) (hp : ((pc : Int) + o).toNat = pt)
    (k : Go p e below s R n0 Q (T.setTop (mkF m pt Ls stk))) : Go p e below s R n0 Q (T.setTop (mkF m pc Ls stk)) := by
  obtain ⟨locs, X, N⟩ := X
  exact go_by (fun t k => XS.goto X.here K.hx rfl (pc0 := pc) rfl (hb K.by' hd) ho hp k) k
/-- what a taken branch says, and what one says that isn't -/
def cT : ClassFile.Cond → Int32 → Int32 → Prop
  | .eq, x, y => x = y | .ne, x, y => ¬ x = y | .lt, x, y => x < y | .ge, x, y => ¬ x < y | .gt, x, y => y < x | .le, x, y => ¬ y < x
def cF : ClassFile.Cond → Int32 → Int32 → Prop
  | .eq, x, y => ¬ x = y | .ne, x, y => x = y | .lt, x, y => ¬ x < y | .ge, x, y => x < y | .gt, x, y => ¬ y < x | .le, x, y => y < x
theorem cT_or (cd : ClassFile.Cond) (x y : Int32) : cT cd x y ∨ cF cd x y := by
  cases cd <;> simp only [cT, cF] <;> first | exact Decidable.em _ | exact (Decidable.em _).symm
theorem cT_holds {cd : ClassFile.Cond} {x y : Int32} (q : cT cd x y) : if_icmp.holds cd x y = true := by
  cases cd
  · exact XT.ii_eq_t q
  · exact XT.ii_ne_t q
  · exact XT.ii_lt_t q
  · exact XT.ii_ge_t q
  · exact XT.ii_gt_t q
  · exact XT.ii_le_t q
theorem cF_holds {cd : ClassFile.Cond} {x y : Int32} (q : cF cd x y) : if_icmp.holds cd x y = false := by
  cases cd
  · exact XT.ii_eq_f q
  · exact XT.ii_ne_f q
  · exact XT.ii_lt_f q
  · exact XT.ii_ge_f q
  · exact XT.ii_gt_f q
  · exact XT.ii_le_f q
def lT : ClassFile.Cond → Int64 → Int64 → Prop
  | .eq, x, y => x = y | .ne, x, y => ¬ x = y | .lt, x, y => x < y | .ge, x, y => ¬ x < y | .gt, x, y => y < x | .le, x, y => ¬ y < x
def lF : ClassFile.Cond → Int64 → Int64 → Prop
  | .eq, x, y => ¬ x = y | .ne, x, y => x = y | .lt, x, y => ¬ x < y | .ge, x, y => x < y | .gt, x, y => ¬ y < x | .le, x, y => y < x
theorem lT_or (cd : ClassFile.Cond) (x y : Int64) : lT cd x y ∨ lF cd x y := by
  cases cd <;> simp only [lT, lF] <;> first | exact Decidable.em _ | exact (Decidable.em _).symm
theorem lT_holds {cd : ClassFile.Cond} {x y : Int64} (q : lT cd x y) : ifCond.holds cd (XT.cmpL x y) = true := by
  cases cd
  · exact XT.ll_eq_t q
  · exact XT.ll_ne_t q
  · exact XT.ll_lt_t q
  · exact XT.ll_ge_t q
  · exact XT.ll_gt_t q
  · exact XT.ll_le_t q
theorem lF_holds {cd : ClassFile.Cond} {x y : Int64} (q : lF cd x y) : ifCond.holds cd (XT.cmpL x y) = false := by
  cases cd
  · exact XT.ll_eq_f q
  · exact XT.ll_ne_f q
  · exact XT.ll_lt_f q
  · exact XT.ll_ge_f q
  · exact XT.ll_gt_f q
  · exact XT.ll_le_f q

theorem go_icmpT (K : Ctx p s m meth c Z own nm bytes maxL ret) (X : St p l e R s m args below meth c n0 T cells slots) {cd : ClassFile.Cond} {o : Int} {x y : Int32} (hd : decode bytes pc = .ok (.if_icmp cd o, 3)) (ho : 0 ≤ (pc : Int) + o) (hp : ((pc : Int) + o).toNat = pt) (q : cT cd x y)
    (k : Go p e below s R n0 Q (T.setTop (mkF m pt Ls stk))) : Go p e below s R n0 Q (T.setTop (mkF m pc Ls (.int y :: .int x :: stk))) := by
  obtain ⟨locs, X, N⟩ := X
  exact go_by (fun t k => XS.icmpYes X.here K.hx rfl (pc0 := pc) rfl (hb K.by' hd) rfl (cT_holds q) ho hp k) k
theorem go_icmpF (K : Ctx p s m meth c Z own nm bytes maxL ret) (X : St p l e R s m args below meth c n0 T cells slots) {cd : ClassFile.Cond} {o : Int} {x y : Int32} (hd : decode bytes pc = .ok (.if_icmp cd o, 3)) (hp : pc + 3 = pc') (q : cF cd x y)
    (k : Go p e below s R n0 Q (T.setTop (mkF m pc' Ls stk))) : Go p e below s R n0 Q (T.setTop (mkF m pc Ls (.int y :: .int x :: stk))) := by
  subst hp; obtain ⟨locs, X, N⟩ := X
  exact go_by (fun t k => XS.icmpNo X.here K.hx rfl (hb K.by' hd) rfl (cF_holds q) k) k
theorem go_icmp (K : Ctx p s m meth c Z own nm bytes maxL ret) (X : St p l e R s m args below meth c n0 T cells slots) {cd : ClassFile.Cond} {o : Int} {x y : Int32} (hd : decode bytes pc = .ok (.if_icmp cd o, 3)) (ho : 0 ≤ (pc : Int) + o) (ht : ((pc : Int) + o).toNat = pt) (hp : pc + 3 = pc')
    (k1 : cT cd x y → Go p e below s R n0 Q (T.setTop (mkF m pt Ls stk))) (k2 : cF cd x y → Go p e below s R n0 Q (T.setTop (mkF m pc' Ls stk))) : Go p e below s R n0 Q (T.setTop (mkF m pc Ls (.int y :: .int x :: stk))) :=
  (cT_or cd _ _).elim (fun q => go_icmpT K X hd ho ht q (k1 q)) (fun q => go_icmpF K X hd hp q (k2 q))

theorem go_ifT (K : Ctx p s m meth c Z own nm bytes maxL ret) (X : St p l e R s m args below meth c n0 T cells slots) {cd : ClassFile.Cond} {o : Int} {x : Int32} (hd : decode bytes pc = .ok (.ifCond cd o, 3)) (ho : 0 ≤ (pc : Int) + o) (hp : ((pc : Int) + o).toNat = pt) (q : cT cd x 0)
    (k : Go p e below s R n0 Q (T.setTop (mkF m pt Ls stk))) : Go p e below s R n0 Q (T.setTop (mkF m pc Ls (.int x :: stk))) := by
  obtain ⟨locs, X, N⟩ := X
  exact go_by (fun t k => XS.ifYes X.here K.hx rfl (pc0 := pc) rfl (hb K.by' hd) rfl ((if0 _ _).trans (cT_holds q)) ho hp k) k
theorem go_ifF (K : Ctx p s m meth c Z own nm bytes maxL ret) (X : St p l e R s m args below meth c n0 T cells slots) {cd : ClassFile.Cond} {o : Int} {x : Int32} (hd : decode bytes pc = .ok (.ifCond cd o, 3)) (hp : pc + 3 = pc') (q : cF cd x 0)
    (k : Go p e below s R n0 Q (T.setTop (mkF m pc' Ls stk))) : Go p e below s R n0 Q (T.setTop (mkF m pc Ls (.int x :: stk))) := by
  subst hp; obtain ⟨locs, X, N⟩ := X
  exact go_by (fun t k => XS.ifNo X.here K.hx rfl (hb K.by' hd) rfl ((if0 _ _).trans (cF_holds q)) k) k
theorem go_if (K : Ctx p s m meth c Z own nm bytes maxL ret) (X : St p l e R s m args below meth c n0 T cells slots) {cd : ClassFile.Cond} {o : Int} {x : Int32} (hd : decode bytes pc = .ok (.ifCond cd o, 3)) (ho : 0 ≤ (pc : Int) + o) (ht : ((pc : Int) + o).toNat = pt) (hp : pc + 3 = pc')
    (k1 : cT cd x 0 → Go p e below s R n0 Q (T.setTop (mkF m pt Ls stk))) (k2 : cF cd x 0 → Go p e below s R n0 Q (T.setTop (mkF m pc' Ls stk))) : Go p e below s R n0 Q (T.setTop (mkF m pc Ls (.int x :: stk))) :=
  (cT_or cd _ _).elim (fun q => go_ifT K X hd ho ht q (k1 q)) (fun q => go_ifF K X hd hp q (k2 q))

theorem go_lifT (K : Ctx p s m meth c Z own nm bytes maxL ret) (X : St p l e R s m args below meth c n0 T cells slots) {cd : ClassFile.Cond} {o : Int} {x y : Int64} (hd1 : decode bytes pc = .ok (.lcmp, 1)) (hp : pc + 1 = pc') (hd : decode bytes pc' = .ok (.ifCond cd o, 3)) (ho : 0 ≤ (pc' : Int) + o) (ht : ((pc' : Int) + o).toNat = pt) (q : lT cd x y)
    (k : Go p e below s R n0 Q (T.setTop (mkF m pt Ls stk))) : Go p e below s R n0 Q (T.setTop (mkF m pc Ls (.long y :: .long x :: stk))) := by
  subst hp; obtain ⟨locs, X, N⟩ := X
  exact go_by (fun t k => XT.lcmp X.here K.hx rfl (hb K.by' hd1) rfl (XS.ifYes X.here K.hx rfl (pc0 := pc + 1) rfl (hb K.by' hd) rfl (lT_holds q) ho ht k)) k
theorem go_lifF (K : Ctx p s m meth c Z own nm bytes maxL ret) (X : St p l e R s m args below meth c n0 T cells slots) {cd : ClassFile.Cond} {o : Int} {x y : Int64} {pn : Nat} (hd1 : decode bytes pc = .ok (.lcmp, 1)) (hp : pc + 1 = pc') (hd : decode bytes pc' = .ok (.ifCond cd o, 3)) (hn : pc' + 3 = pn) (q : lF cd x y)
    (k : Go p e below s R n0 Q (T.setTop (mkF m pn Ls stk))) : Go p e below s R n0 Q (T.setTop (mkF m pc Ls (.long y :: .long x :: stk))) := by
  subst hp hn; obtain ⟨locs, X, N⟩ := X
  exact go_by (fun t k => XT.lcmp X.here K.hx rfl (hb K.by' hd1) rfl (XS.ifNo X.here K.hx rfl (hb K.by' hd) rfl (lF_holds q) k)) k
theorem go_lif (K : Ctx p s m meth c Z own nm bytes maxL ret) (X : St p l e R s m args below meth c n0 T cells slots) {cd : ClassFile.Cond} {o : Int} {x y : Int64} {pn : Nat} (hd1 : decode bytes pc = .ok (.lcmp, 1)) (hp : pc + 1 = pc') (hd : decode bytes pc' = .ok (.ifCond cd o, 3)) (ho : 0 ≤ (pc' : Int) + o) (ht : ((pc' : Int) + o).toNat = pt) (hn : pc' + 3 = pn)
    (k1 : lT cd x y → Go p e below s R n0 Q (T.setTop (mkF m pt Ls stk))) (k2 : lF cd x y → Go p e below s R n0 Q (T.setTop (mkF m pn Ls stk))) : Go p e below s R n0 Q (T.setTop (mkF m pc Ls (.long y :: .long x :: stk))) :=
  (lT_or cd _ _).elim (fun q => go_lifT K X hd1 hp hd ho ht q (k1 q)) (fun q => go_lifF K X hd1 hp hd hn q (k2 q))
theorem go_nullT (K : Ctx p s m meth c Z own nm bytes maxL ret) (X : St p l e R s m args below meth c n0 T cells slots) {o : Int} (hd : decode bytes pc = .ok (.ifnull o, 3)) (ho : 0 ≤ (pc : Int) + o) (hp : ((pc : Int) + o).toNat = pt)
    (k : Go p e below s R n0 Q (T.setTop (mkF m pt Ls stk))) : Go p e below s R n0 Q (T.setTop (mkF m pc Ls (.null :: stk))) := by
  obtain ⟨locs, X, N⟩ := X
  exact go_by (fun t k => XS.ifnullYes X.here K.hx rfl (pc0 := pc) rfl (hb K.by' hd) rfl ho hp k) k
theorem go_nullF (K : Ctx p s m meth c Z own nm bytes maxL ret) (X : St p l e R s m args below meth c n0 T cells slots) {o : Int} {a : Addr} (hd : decode bytes pc = .ok (.ifnull o, 3)) (hp : pc + 3 = pc')
    (k : Go p e below s R n0 Q (T.setTop (mkF m pc' Ls stk))) : Go p e below s R n0 Q (T.setTop (mkF m pc Ls (.ref a :: stk))) := by
  subst hp; obtain ⟨locs, X, N⟩ := X
  exact go_by (fun t k => XS.ifnullNo X.here K.hx rfl (hb K.by' hd) rfl k) k
theorem go_nonnullT (K : Ctx p s m meth c Z own nm bytes maxL ret) (X : St p l e R s m args below meth c n0 T cells slots) {o : Int} {a : Addr} (hd : decode bytes pc = .ok (.ifnonnull o, 3)) (ho : 0 ≤ (pc : Int) + o) (hp : ((pc : Int) + o).toNat = pt)
    (k : Go p e below s R n0 Q (T.setTop (mkF m pt Ls stk))) : Go p e below s R n0 Q (T.setTop (mkF m pc Ls (.ref a :: stk))) := by
  obtain ⟨locs, X, N⟩ := X
  exact go_by (fun t k => XS.ifnonnullYes X.here K.hx rfl (pc0 := pc) rfl (hb K.by' hd) rfl ho hp k) k
theorem go_nonnullF (K : Ctx p s m meth c Z own nm bytes maxL ret) (X : St p l e R s m args below meth c n0 T cells slots) {o : Int} (hd : decode bytes pc = .ok (.ifnonnull o, 3)) (hp : pc + 3 = pc')
    (k : Go p e below s R n0 Q (T.setTop (mkF m pc' Ls stk))) : Go p e below s R n0 Q (T.setTop (mkF m pc Ls (.null :: stk))) := by
  subst hp; obtain ⟨locs, X, N⟩ := X
  exact go_by (fun t k => XS.ifnonnullNo X.here K.hx rfl (hb K.by' hd) rfl k) k
theorem go_acmpT (K : Ctx p s m meth c Z own nm bytes maxL ret) (X : St p l e R s m args below meth c n0 T cells slots) {cd : ClassFile.ACond} {o : Int} {x y : Value} (hd : decode bytes pc = .ok (.if_acmp cd o, 3)) (ho : 0 ≤ (pc : Int) + o) (hp : ((pc : Int) + o).toNat = pt) (h1 : x.isRef = true) (h2 : y.isRef = true) (q : XT.acmp cd x y = true)
    (k : Go p e below s R n0 Q (T.setTop (mkF m pt Ls stk))) : Go p e below s R n0 Q (T.setTop (mkF m pc Ls (y :: x :: stk))) := by
  obtain ⟨locs, X, N⟩ := X
  exact go_by (fun t k => XT.acmpYes X.here K.hx rfl (pc0 := pc) rfl (hb K.by' hd) rfl h1 h2 q ho hp k) k
theorem go_acmpF (K : Ctx p s m meth c Z own nm bytes maxL ret) (X : St p l e R s m args below meth c n0 T cells slots) {cd : ClassFile.ACond} {o : Int} {x y : Value} (hd : decode bytes pc = .ok (.if_acmp cd o, 3)) (hp : pc + 3 = pc') (h1 : x.isRef = true) (h2 : y.isRef = true) (q : XT.acmp cd x y = false)
    (k : Go p e below s R n0 Q (T.setTop (mkF m pc' Ls stk))) : Go p e below s R n0 Q (T.setTop (mkF m pc Ls (y :: x :: stk))) := by
  subst hp; obtain ⟨locs, X, N⟩ := X
  exact go_by (fun t k => XT.acmpNo X.here K.hx rfl (hb K.by' hd) rfl h1 h2 q k) k
/-- the return -/
theorem go_retV (K : Ctx p s m meth c Z own nm bytes maxL ret) (X : St p l e R s m args below meth c n0 T cells slots) {w : Value} {t : FieldType} {i : Instr} (hret : ret = some t) (hn : narrow t w = w)
    (hi : (i = .ireturn ∧ (t = .int ∨ t = .boolean ∨ t = .byte ∨ t = .char ∨ t = .short) ∧ ∃ z, w = .int z) ∨ (i = .lreturn ∧ t = .long ∧ ∃ z, w = .long z) ∨ (i = .dreturn ∧ t = .double ∧ ∃ z, w = .double z) ∨ (i = .freturn ∧ t = .float ∧ ∃ z, w = .float z) ∨ (i = .areturn ∧ t.isReference = true ∧ w.isRef = true))
    (hd : decode bytes pc = .ok (i, 1)) (hc : cells ≤ R.cells) (hs : slots ≤ R.slots) (q : Q (some w) T.heap) : Go p e below s R n0 Q (T.setTop (mkF m pc Ls (w :: stk))) := by
  obtain ⟨locs, X, N⟩ := X
  obtain ⟨fs, hr, hrun, hended, hW, hsame⟩ := X.leave (v := some w) (fun h => by rw [K.ret', hret] at h; cases h) K.locks
  exact ⟨_, _, retOut X K.hx (K.ret'.trans hret) hn hi (hb K.by' hd) hr, hrun, hended, _, _, rfl, ⟨q, N⟩, ⟨_, rfl⟩, hW, hsame.mono hc hs⟩
theorem go_retI (K : Ctx p s m meth c Z own nm bytes maxL (some .int)) (X : St p l e R s m args below meth c n0 T cells slots) {z : Int32} (hd : decode bytes pc = .ok (.ireturn, 1)) (hc : cells ≤ R.cells) (hs : slots ≤ R.slots) (q : Q (some (.int z)) T.heap) : Go p e below s R n0 Q (T.setTop (mkF m pc Ls (.int z :: stk))) :=
  go_retV K X rfl rfl (Or.inl ⟨rfl, Or.inl rfl, z, rfl⟩) hd hc hs q
theorem go_retZ (K : Ctx p s m meth c Z own nm bytes maxL (some .boolean)) (X : St p l e R s m args below meth c n0 T cells slots) {z : Int32} (hz : z = 0 ∨ z = 1) (hd : decode bytes pc = .ok (.ireturn, 1)) (hc : cells ≤ R.cells) (hs : slots ≤ R.slots) (q : Q (some (.int z)) T.heap) : Go p e below s R n0 Q (T.setTop (mkF m pc Ls (.int z :: stk))) :=
  go_retV K X rfl (by rcases hz with rfl | rfl <;> rfl) (Or.inl ⟨rfl, Or.inr (Or.inl rfl), z, rfl⟩) hd hc hs q
theorem go_retJ (K : Ctx p s m meth c Z own nm bytes maxL (some .long)) (X : St p l e R s m args below meth c n0 T cells slots) {z : Int64} (hd : decode bytes pc = .ok (.lreturn, 1)) (hc : cells ≤ R.cells) (hs : slots ≤ R.slots) (q : Q (some (.long z)) T.heap) : Go p e below s R n0 Q (T.setTop (mkF m pc Ls (.long z :: stk))) :=
  go_retV K X rfl rfl (Or.inr (Or.inl ⟨rfl, rfl, z, rfl⟩)) hd hc hs q
theorem go_retA (K : Ctx p s m meth c Z own nm bytes maxL (some t)) (X : St p l e R s m args below meth c n0 T cells slots) {w : Value} (ht : t.isReference = true) (hw : w.isRef = true) (hn : narrow t w = w) (hd : decode bytes pc = .ok (.areturn, 1)) (hc : cells ≤ R.cells) (hs : slots ≤ R.slots) (q : Q (some w) T.heap) : Go p e below s R n0 Q (T.setTop (mkF m pc Ls (w :: stk))) :=
  go_retV K X rfl hn (Or.inr (Or.inr (Or.inr (Or.inr ⟨rfl, ht, hw⟩)))) hd hc hs q
theorem go_ret (K : Ctx p s m meth c Z own nm bytes maxL none) (X : St p l e R s m args below meth c n0 T cells slots) (hd : decode bytes pc = .ok (.return_, 1)) (hc : cells ≤ R.cells) (hs : slots ≤ R.slots) (q : Q none T.heap) : Go p e below s R n0 Q (T.setTop (mkF m pc Ls [])) := by
  obtain ⟨locs, X, N⟩ := X
  obtain ⟨fs, hr, hrun, hended, hW, hsame⟩ := X.leave (v := none) (fun _ => rfl) K.locks
  exact ⟨_, _, X.returnOut K.hx K.ret' (hb K.by' hd) hr, hrun, hended, _, _, rfl, ⟨q, N⟩, ⟨_, rfl⟩, hW, hsame.mono hc hs⟩

/-! ## the heap -/
theorem go_getF (K : Ctx p s m meth c Z own nm bytes maxL ret) (X : St p l e R s m args below meth c n0 T cells slots) {R0 O n d host : String} {index : Nat} (w : (Cond.fieldLink own index R0 n d).before a0 Z = true ∨ (Cond.fieldLinkNest own index R0 n d host).before a0 Z = true) (via : Via Z R0 O n d) (eT : T.heap = h) {a : Addr} {v : Value} (F : Fld Z h a O n d v) (hd : decode bytes pc = .ok (.getfield index, 3)) (hp : pc + 3 = pc')
    (k : ∀ T', St p l e R s m args below meth c n0 T' cells slots → T'.heap = h → Go p e below s R n0 Q (T'.setTop (mkF m pc' Ls (v :: stk)))) : Go p e below s R n0 Q (T.setTop (mkF m pc Ls (.ref a :: stk))) := by
  subst hp; obtain ⟨locs, X, N⟩ := X
  obtain ⟨T', X', e', st⟩ := getF X K.hx K.hZ K.own' w via eT F (g := mkF m pc Ls (.ref a :: stk)) rfl rfl (hb K.by' hd)
  exact go_by st (k T' ⟨locs, X', N⟩ e')
theorem go_getS (K : Ctx p s m meth c Z own nm bytes maxL ret) (X : St p l e R s m args below meth c n0 T cells slots) {R0 O n d host : String} {index : Nat} (w : (Cond.fieldLink own index R0 n d).before a0 Z = true ∨ (Cond.fieldLinkNest own index R0 n d host).before a0 Z = true) (via : Via Z R0 O n d) (eT : T.heap = h) {v : Value} (F : Sta Z h O n d v) (hd : decode bytes pc = .ok (.getstatic index, 3)) (hp : pc + 3 = pc')
    (k : ∀ T', St p l e R s m args below meth c n0 T' cells slots → T'.heap = h → Go p e below s R n0 Q (T'.setTop (mkF m pc' Ls (v :: stk)))) : Go p e below s R n0 Q (T.setTop (mkF m pc Ls stk)) := by
  subst hp; obtain ⟨locs, X, N⟩ := X
  obtain ⟨T', X', e', st⟩ := getS2 X K.hx K.hZ K.own' w via eT F (g := mkF m pc Ls stk) rfl (hb K.by' hd)
  exact go_by st (k T' ⟨locs, X', N⟩ e')
theorem go_putF (K : Ctx p s m meth c Z own nm bytes maxL ret) (X : St p l e R s m args below meth c n0 T cells slots) {R0 O n d host C : String} {index kk : Nat} {ty : FieldType} (w : (Cond.fieldLink own index R0 n d).before a0 Z = true ∨ (Cond.fieldLinkNest own index R0 n d host).before a0 Z = true) (via : Via Z R0 O n d) (eT : T.heap = h) {a : Addr} {v old : Value} (F : Fld Z h a O n d old) (E : Exa Z h a C)
    (L : (Cond.lays C O n d).before a0 Z = true ∨ ((Cond.laysFinal C O n d).before a0 Z = true ∧ own = O ∧ nm = "<init>")) (wi : (Cond.instantiable C kk).before a0 Z = true) (hty : parseFieldDescriptor d = some ty) (hn : narrow ty v = v) (hf : fits ty v = true) (ge : n0 ≤ a) (hd : decode bytes pc = .ok (.putfield index, 3)) (hp : pc + 3 = pc')
    (k : ∀ T' h', St p l e R s m args below meth c n0 T' cells slots → T'.heap = h' → Wr h h' a (Jvm.RoadKit.slotOf Z O n d) v → Go p e below s R n0 Q (T'.setTop (mkF m pc' Ls stk))) : Go p e below s R n0 Q (T.setTop (mkF m pc Ls (v :: .ref a :: stk))) := by
  subst hp; obtain ⟨locs, X, N⟩ := X
  obtain ⟨T', h', X', e', W', st⟩ := putF X K.hx K.hZ K.own' w via eT F E (L.imp id fun q => ⟨q.1, q.2.1, K.nm'.trans q.2.2⟩) wi hty hn hf (g := mkF m pc Ls (v :: .ref a :: stk)) rfl rfl (hb K.by' hd)
  exact go_by st (k T' h' ⟨_, X', Fr.snoc X' N ge⟩ e' W')
theorem go_new (K : Ctx p s m meth c Z own nm bytes maxL ret) (X : St p l e R s m args below meth c n0 T cells slots) {C : String} {index n : Nat} (w : (Cond.classLink own index C).before a0 Z = true) (wi : (Cond.instantiable C n).before a0 Z = true) (wz : (Cond.initialized C).before a0 Z = true) (eT : T.heap = h) (hd : decode bytes pc = .ok (.new index, 3)) (hp : pc + 3 = pc') (hc' : cells + 1 = cells') (hs' : slots + n = slots') (hc : cells' ≤ R.cells) (hs : slots' ≤ R.slots)
    (k : ∀ T' h' a, a = h.size → St p l e R s m args below meth c n0 T' cells' slots' → T'.heap = h' → Ext h h' → Exa Z h' a C → (∀ {O nm d : String} {ty : FieldType}, Laid Z a0 C O nm d → parseFieldDescriptor d = some ty → Fld Z h' a O nm d (defaultValue ty)) → Go p e below s R n0 Q (T'.setTop (mkF m pc' Ls (.ref a :: stk)))) : Go p e below s R n0 Q (T.setTop (mkF m pc Ls stk)) := by
  subst hp hc' hs'; obtain ⟨locs, X, N⟩ := X
  obtain ⟨T', h', X', e', E', A', D', -, st⟩ := newO X K.hx K.hZ K.own' w wi wz eT (g := mkF m pc Ls stk) rfl (hb K.by' hd) hc hs
  exact go_by st (k T' h' _ rfl ⟨_, X', N⟩ e' E' A' D')
theorem go_initO (K : Ctx p s m meth c Z own nm bytes maxL ret) (X : St p l e R s m args below meth c n0 T cells slots) {idx : Nat} {a : Addr} (w1 : (Cond.methodLink own idx Lib.objectInit).before a0 Z = true) (w2 : (Cond.instanceMethod Lib.objectInit).before a0 Z = true) (w3 : (Cond.code Lib.objectInit ⟨#[0xb1]⟩ 1 none).before a0 Z = true) (eT : T.heap = h) (hsize : Ls.size = maxL) (hd : decode bytes pc = .ok (.invokespecial idx, 3)) (hp : pc + 3 = pc')
    (hf : 1 ≤ R.frames) {W : Nat} (hW : (stk.map fun v => v.category).sum ≤ W) (hl : W + 12 ≤ R.locals)
    (k : ∀ T', St p l e R s m args below meth c n0 T' cells slots → T'.heap = h → Go p e below s R n0 Q (T'.setTop (mkF m pc' Ls stk))) : Go p e below s R n0 Q (T.setTop (mkF m pc Ls (.ref a :: stk))) := by
  subst hp; obtain ⟨locs, X, N⟩ := X
  obtain ⟨T', X', e', st⟩ := initO X K.hx K.hZ K.own' w1 w2 w3 eT (g := mkF m pc Ls (.ref a :: stk)) rfl (by rw [K.ml]; exact hsize) rfl (hb K.by' hd) hf (W := W) (by show 2 * 0 + _ ≤ _; omega) hl
  exact go_by st (k T' ⟨_, X', N⟩ e')
theorem go_cast (K : Ctx p s m meth c Z own nm bytes maxL ret) (X : St p l e R s m args below meth c n0 T cells slots) {C : String} {index : Nat} (w : (Cond.classLink own index C).before a0 Z = true) (eT : T.heap = h) {a : Addr} (F : Ins Z h a C true) (hd : decode bytes pc = .ok (.checkcast index, 3)) (hp : pc + 3 = pc')
    (k : ∀ T', St p l e R s m args below meth c n0 T' cells slots → T'.heap = h → Go p e below s R n0 Q (T'.setTop (mkF m pc' Ls (.ref a :: stk)))) : Go p e below s R n0 Q (T.setTop (mkF m pc Ls (.ref a :: stk))) := by
  subst hp; obtain ⟨locs, X, N⟩ := X
  obtain ⟨T', X', e', st⟩ := castY X K.hx K.hZ K.own' w eT F (g := mkF m pc Ls (.ref a :: stk)) rfl rfl (hb K.by' hd)
  exact go_by st (k T' ⟨_, X', N⟩ e')
theorem go_instY (K : Ctx p s m meth c Z own nm bytes maxL ret) (X : St p l e R s m args below meth c n0 T cells slots) {C : String} {index : Nat} (w : (Cond.classLink own index C).before a0 Z = true) (eT : T.heap = h) {a : Addr} (F : Ins Z h a C true) (hd : decode bytes pc = .ok (.instanceof index, 3)) (hp : pc + 3 = pc')
    (k : ∀ T', St p l e R s m args below meth c n0 T' cells slots → T'.heap = h → Go p e below s R n0 Q (T'.setTop (mkF m pc' Ls (.int 1 :: stk)))) : Go p e below s R n0 Q (T.setTop (mkF m pc Ls (.ref a :: stk))) := by
  subst hp; obtain ⟨locs, X, N⟩ := X
  obtain ⟨T', X', e', st⟩ := instY X K.hx K.hZ K.own' w eT F (g := mkF m pc Ls (.ref a :: stk)) rfl rfl (hb K.by' hd)
  exact go_by st (k T' ⟨_, X', N⟩ e')
theorem go_instN (K : Ctx p s m meth c Z own nm bytes maxL ret) (X : St p l e R s m args below meth c n0 T cells slots) {C C' : String} {index : Nat} (w : (Cond.classLink own index C).before a0 Z = true) (eT : T.heap = h) {a : Addr} (E : Exa Z h a C') (F : ∃ c t, Z.vm.findClass C' = some c ∧ Z.vm.findClass C = some t ∧ Z.vm.assignable c t = false) (hd : decode bytes pc = .ok (.instanceof index, 3)) (hp : pc + 3 = pc')
    (k : ∀ T', St p l e R s m args below meth c n0 T' cells slots → T'.heap = h → Go p e below s R n0 Q (T'.setTop (mkF m pc' Ls (.int 0 :: stk)))) : Go p e below s R n0 Q (T.setTop (mkF m pc Ls (.ref a :: stk))) := by
  subst hp; obtain ⟨locs, X, N⟩ := X
  obtain ⟨T', X', e', st⟩ := instNo X K.hx K.hZ K.own' w eT E F (g := mkF m pc Ls (.ref a :: stk)) rfl rfl (hb K.by' hd)
  exact go_by st (k T' ⟨_, X', N⟩ e')

/-! ## arrays -/
/-- at a lies an array of ty that holds just vs -/
def AV (Z : State) (h : Heap) (a : Addr) (ty : FieldType) (vs : List Value) : Prop := ∃ cl : Cell, Arr Z h a cl ty ∧ cl.slots = vs.toArray ∧ vs.length < 2 ^ 31
theorem AV.lt {a : Addr} {ty : FieldType} {vs : List Value} (F : AV Z h a ty vs) : a < h.size := by obtain ⟨cl, A, -⟩ := F; exact A.lt
theorem AV.keep {a : Addr} {ty : FieldType} {vs : List Value} {ws : List Addr} (F : AV Z h a ty vs) (K : Keep h h' ws) (q : a ∉ ws) : AV Z h' a ty vs := by
  obtain ⟨cl, A, r⟩ := F; exact ⟨cl, ⟨K.2.1 _ _ A.1 q, A.2⟩, r⟩
theorem AV.ext {a : Addr} {ty : FieldType} {vs : List Value} (F : AV Z h a ty vs) (E : Ext h h') : AV Z h' a ty vs := by
  obtain ⟨cl, A, r⟩ := F; exact ⟨cl, A.ext E, r⟩
theorem AV.len {a : Addr} {ty : FieldType} {vs : List Value} (F : AV Z h a ty vs) : vs.length < 2 ^ 31 := by obtain ⟨cl, -, -, r⟩ := F; exact r
theorem idx_nat {j : Int32} {i : Nat} (hj : j.toInt = (i : Int)) : j.toNatClampNeg = i ∧ ¬ j < 0 := by
  have h1 : j.toNatClampNeg = j.toInt.toNat := rfl
  have h2 : ¬ j < 0 := by rw [XT.negI32]; omega
  exact ⟨by rw [h1, hj]; rfl, h2⟩
theorem AV.in {a : Addr} {ty : FieldType} {vs : List Value} {cl : Cell} {j : Int32} {i : Nat} (hs : cl.slots = vs.toArray) (hj : j.toInt = (i : Int)) (hi : i < vs.length) : ¬ (j < 0 ∨ cl.slots.size ≤ j.toNatClampNeg) := by
  obtain ⟨h1, h2⟩ := idx_nat hj
  rintro (q | q)
  · exact h2 q
  · rw [h1, hs] at q
    simp at q
    omega
theorem AV.get {vs : List Value} {cl : Cell} {j : Int32} {i : Nat} {v : Value} (hs : cl.slots = vs.toArray) (hj : j.toInt = (i : Int)) (hv : vs[i]? = some v) : cl.slots[j.toNatClampNeg]? = some v := by
  rw [(idx_nat hj).1, hs]; simpa using hv
theorem AV.set {a : Addr} {ty : FieldType} {vs : List Value} {cl : Cell} {i : Nat} {v : Value} (A : Arr Z h a cl ty) (hs : cl.slots = vs.toArray) (hl : vs.length < 2 ^ 31) (W : Wr h h' a i v) : AV Z h' a ty (vs.set i v) := by
  refine ⟨_, A.same W, ?_, by simpa using hl⟩
  show cl.slots.setIfInBounds i v = _
  rw [hs]; simp
theorem lt_of_get {vs : List Value} {i : Nat} {v : Value} (hv : vs[i]? = some v) : i < vs.length := (List.getElem?_eq_some_iff.mp hv).1

theorem go_iaload (K : Ctx p s m meth c Z own nm bytes maxL ret) (X : St p l e R s m args below meth c n0 T cells slots) (eT : T.heap = h) {a : Addr} {vs : List Value} {j : Int32} {i : Nat} {v : Value} (F : AV Z h a .int vs) (hj : j.toInt = (i : Int)) (hv : vs[i]? = some v) (hd : decode bytes pc = .ok (.iaload, 1)) (hp : pc + 1 = pc')
    (k : Go p e below s R n0 Q (T.setTop (mkF m pc' Ls (v :: stk)))) : Go p e below s R n0 Q (T.setTop (mkF m pc Ls (.int j :: .ref a :: stk))) := by
  subst hp; obtain ⟨locs, X, N⟩ := X; obtain ⟨cl, A, hs, hl⟩ := F
  exact go_by (fun t k => X.iaload K.hx (by rw [eT]; exact A.1) (State.isArrayOf_alike K.hZ.alike A.2.1) A.2.2 (AV.in (a := a) (ty := .int) hs hj (lt_of_get hv)) (AV.get hs hj hv) (g := mkF m pc Ls (.int j :: .ref a :: stk)) rfl rfl (hb K.by' hd) t k) k

theorem go_laload (K : Ctx p s m meth c Z own nm bytes maxL ret) (X : St p l e R s m args below meth c n0 T cells slots) (eT : T.heap = h) {a : Addr} {vs : List Value} {j : Int32} {i : Nat} {v : Value} (F : AV Z h a .long vs) (hj : j.toInt = (i : Int)) (hv : vs[i]? = some v) (hd : decode bytes pc = .ok (.laload, 1)) (hp : pc + 1 = pc')
    (k : Go p e below s R n0 Q (T.setTop (mkF m pc' Ls (v :: stk)))) : Go p e below s R n0 Q (T.setTop (mkF m pc Ls (.int j :: .ref a :: stk))) := by
  subst hp; obtain ⟨locs, X, N⟩ := X; obtain ⟨cl, A, hs, hl⟩ := F
  exact go_by (fun t k => X.laload K.hx (by rw [eT]; exact A.1) (State.isArrayOf_alike K.hZ.alike A.2.1) A.2.2 (AV.in (a := a) (ty := .long) hs hj (lt_of_get hv)) (AV.get hs hj hv) (g := mkF m pc Ls (.int j :: .ref a :: stk)) rfl rfl (hb K.by' hd) t k) k

theorem go_caload (K : Ctx p s m meth c Z own nm bytes maxL ret) (X : St p l e R s m args below meth c n0 T cells slots) (eT : T.heap = h) {a : Addr} {vs : List Value} {j : Int32} {i : Nat} {v : Value} (F : AV Z h a .char vs) (hj : j.toInt = (i : Int)) (hv : vs[i]? = some v) (hd : decode bytes pc = .ok (.caload, 1)) (hp : pc + 1 = pc')
    (k : Go p e below s R n0 Q (T.setTop (mkF m pc' Ls (v :: stk)))) : Go p e below s R n0 Q (T.setTop (mkF m pc Ls (.int j :: .ref a :: stk))) := by
  subst hp; obtain ⟨locs, X, N⟩ := X; obtain ⟨cl, A, hs, hl⟩ := F
  exact go_by (fun t k => X.caload K.hx (by rw [eT]; exact A.1) (State.isArrayOf_alike K.hZ.alike A.2.1) A.2.2 (AV.in (a := a) (ty := .char) hs hj (lt_of_get hv)) (AV.get hs hj hv) (g := mkF m pc Ls (.int j :: .ref a :: stk)) rfl rfl (hb K.by' hd) t k) k

theorem go_baloadB (K : Ctx p s m meth c Z own nm bytes maxL ret) (X : St p l e R s m args below meth c n0 T cells slots) (eT : T.heap = h) {a : Addr} {vs : List Value} {j : Int32} {i : Nat} {v : Value} (F : AV Z h a .byte vs) (hj : j.toInt = (i : Int)) (hv : vs[i]? = some v) (hd : decode bytes pc = .ok (.baload, 1)) (hp : pc + 1 = pc')
    (k : Go p e below s R n0 Q (T.setTop (mkF m pc' Ls (v :: stk)))) : Go p e below s R n0 Q (T.setTop (mkF m pc Ls (.int j :: .ref a :: stk))) := by
  subst hp; obtain ⟨locs, X, N⟩ := X; obtain ⟨cl, A, hs, hl⟩ := F
  exact go_by (fun t k => X.baloadBytes K.hx (by rw [eT]; exact A.1) (State.isArrayOf_alike K.hZ.alike A.2.1) A.2.2 (AV.in (a := a) (ty := .byte) hs hj (lt_of_get hv)) (AV.get hs hj hv) (g := mkF m pc Ls (.int j :: .ref a :: stk)) rfl rfl (hb K.by' hd) t k) k

theorem go_baloadZ (K : Ctx p s m meth c Z own nm bytes maxL ret) (X : St p l e R s m args below meth c n0 T cells slots) (eT : T.heap = h) {a : Addr} {vs : List Value} {j : Int32} {i : Nat} {v : Value} (F : AV Z h a .boolean vs) (hj : j.toInt = (i : Int)) (hv : vs[i]? = some v) (hd : decode bytes pc = .ok (.baload, 1)) (hp : pc + 1 = pc')
    (k : Go p e below s R n0 Q (T.setTop (mkF m pc' Ls (v :: stk)))) : Go p e below s R n0 Q (T.setTop (mkF m pc Ls (.int j :: .ref a :: stk))) := by
  subst hp; obtain ⟨locs, X, N⟩ := X; obtain ⟨cl, A, hs, hl⟩ := F
  exact go_by (fun t k => X.baloadBooleans K.hx (by rw [eT]; exact A.1) (State.isArrayOf_alike K.hZ.alike A.2.1) A.2.2 (AV.in (a := a) (ty := .boolean) hs hj (lt_of_get hv)) (AV.get hs hj hv) (g := mkF m pc Ls (.int j :: .ref a :: stk)) rfl rfl (hb K.by' hd) t k) k

theorem go_aaload (K : Ctx p s m meth c Z own nm bytes maxL ret) (X : St p l e R s m args below meth c n0 T cells slots) (eT : T.heap = h) {a : Addr} {ty : FieldType} {vs : List Value} {j : Int32} {i : Nat} {v : Value} (F : AV Z h a ty vs) (hj : j.toInt = (i : Int)) (hv : vs[i]? = some v) (hty : ty.isReference = true) (hd : decode bytes pc = .ok (.aaload, 1)) (hp : pc + 1 = pc')
    (k : Go p e below s R n0 Q (T.setTop (mkF m pc' Ls (v :: stk)))) : Go p e below s R n0 Q (T.setTop (mkF m pc Ls (.int j :: .ref a :: stk))) := by
  subst hp; obtain ⟨locs, X, N⟩ := X; obtain ⟨cl, A, hs, hl⟩ := F
  exact go_by (fun t k => X.aaload K.hx (by rw [eT]; exact A.1) (State.isArrayOf_alike K.hZ.alike A.2.1) hty A.2.2 (AV.in (a := a) (ty := ty) hs hj (lt_of_get hv)) (AV.get hs hj hv) (g := mkF m pc Ls (.int j :: .ref a :: stk)) rfl rfl (hb K.by' hd) t k) k
theorem go_arraylength (K : Ctx p s m meth c Z own nm bytes maxL ret) (X : St p l e R s m args below meth c n0 T cells slots) (eT : T.heap = h) {a : Addr} {ty : FieldType} {vs : List Value} {z : Int32} (F : AV Z h a ty vs) (hz : vs.length.toInt32 = z) (hd : decode bytes pc = .ok (.arraylength, 1)) (hp : pc + 1 = pc')
    (k : Go p e below s R n0 Q (T.setTop (mkF m pc' Ls (.int z :: stk)))) : Go p e below s R n0 Q (T.setTop (mkF m pc Ls (.ref a :: stk))) := by
  subst hp hz; obtain ⟨locs, X, N⟩ := X; obtain ⟨cl, A, hs, hl⟩ := F
  refine go_by (fun t k => X.arraylength K.hx (by rw [eT]; exact A.1) (State.isArrayOf_alike K.hZ.alike A.2.1) (g := mkF m pc Ls (.ref a :: stk)) rfl rfl (hb K.by' hd) t ?_) k
  rw [show cl.slots.size = vs.length by rw [hs]; simp]; exact k

theorem go_iastore (K : Ctx p s m meth c Z own nm bytes maxL ret) (X : St p l e R s m args below meth c n0 T cells slots) (eT : T.heap = h) {a : Addr} {vs : List Value} {j : Int32} {x : Int32} {i : Nat} (F : AV Z h a .int vs) (hj : j.toInt = (i : Int)) (hi : i < vs.length) (ge : n0 ≤ a) (hd : decode bytes pc = .ok (.iastore, 1)) (hp : pc + 1 = pc')
    (k : ∀ T' h', St p l e R s m args below meth c n0 T' cells slots → T'.heap = h' → Wr h h' a i (.int x) → AV Z h' a .int (vs.set i (.int x)) → Go p e below s R n0 Q (T'.setTop (mkF m pc' Ls stk))) : Go p e below s R n0 Q (T.setTop (mkF m pc Ls (.int x :: .int j :: .ref a :: stk))) := by
  subst hp; obtain ⟨locs, X, N⟩ := X; obtain ⟨cl, A, hs, hl⟩ := F
  obtain ⟨T', h', X', e', W', st⟩ := stI X K.hx K.hZ eT A (AV.in (a := a) (ty := .int) hs hj hi) (g := mkF m pc Ls (.int x :: .int j :: .ref a :: stk)) rfl rfl (hb K.by' hd)
  have W2 := W'; rw [(idx_nat hj).1] at W2
  exact go_by st (k T' h' ⟨_, X', Fr.snoc X' N ge⟩ e' W2 (AV.set A hs hl W2))

theorem go_lastore (K : Ctx p s m meth c Z own nm bytes maxL ret) (X : St p l e R s m args below meth c n0 T cells slots) (eT : T.heap = h) {a : Addr} {vs : List Value} {j : Int32} {x : Int64} {i : Nat} (F : AV Z h a .long vs) (hj : j.toInt = (i : Int)) (hi : i < vs.length) (ge : n0 ≤ a) (hd : decode bytes pc = .ok (.lastore, 1)) (hp : pc + 1 = pc')
    (k : ∀ T' h', St p l e R s m args below meth c n0 T' cells slots → T'.heap = h' → Wr h h' a i (.long x) → AV Z h' a .long (vs.set i (.long x)) → Go p e below s R n0 Q (T'.setTop (mkF m pc' Ls stk))) : Go p e below s R n0 Q (T.setTop (mkF m pc Ls (.long x :: .int j :: .ref a :: stk))) := by
  subst hp; obtain ⟨locs, X, N⟩ := X; obtain ⟨cl, A, hs, hl⟩ := F
  obtain ⟨T', h', X', e', W', st⟩ := stJ X K.hx K.hZ eT A (AV.in (a := a) (ty := .long) hs hj hi) (g := mkF m pc Ls (.long x :: .int j :: .ref a :: stk)) rfl rfl (hb K.by' hd)
  have W2 := W'; rw [(idx_nat hj).1] at W2
  exact go_by st (k T' h' ⟨_, X', Fr.snoc X' N ge⟩ e' W2 (AV.set A hs hl W2))

theorem go_bastoreB (K : Ctx p s m meth c Z own nm bytes maxL ret) (X : St p l e R s m args below meth c n0 T cells slots) (eT : T.heap = h) {a : Addr} {vs : List Value} {j x : Int32} {i : Nat} (F : AV Z h a .byte vs) (hj : j.toInt = (i : Int)) (hi : i < vs.length) (hx' : nar .byte x = x) (ge : n0 ≤ a) (hd : decode bytes pc = .ok (.bastore, 1)) (hp : pc + 1 = pc')
    (k : ∀ T' h', St p l e R s m args below meth c n0 T' cells slots → T'.heap = h' → Wr h h' a i (.int x) → AV Z h' a .byte (vs.set i (.int x)) → Go p e below s R n0 Q (T'.setTop (mkF m pc' Ls stk))) : Go p e below s R n0 Q (T.setTop (mkF m pc Ls (.int x :: .int j :: .ref a :: stk))) := by
  subst hp; obtain ⟨locs, X, N⟩ := X; obtain ⟨cl, A, hs, hl⟩ := F
  obtain ⟨T', h', X', e', W', st⟩ := stB X K.hx K.hZ eT A (AV.in (a := a) (ty := .byte) hs hj hi) (g := mkF m pc Ls (.int x :: .int j :: .ref a :: stk)) rfl rfl (hb K.by' hd)
  have W2 := W'; rw [(idx_nat hj).1, hx'] at W2
  exact go_by st (k T' h' ⟨_, X', Fr.snoc X' N ge⟩ e' W2 (AV.set A hs hl W2))

theorem go_bastoreZ (K : Ctx p s m meth c Z own nm bytes maxL ret) (X : St p l e R s m args below meth c n0 T cells slots) (eT : T.heap = h) {a : Addr} {vs : List Value} {j x : Int32} {i : Nat} (F : AV Z h a .boolean vs) (hj : j.toInt = (i : Int)) (hi : i < vs.length) (hx' : nar .boolean x = x) (ge : n0 ≤ a) (hd : decode bytes pc = .ok (.bastore, 1)) (hp : pc + 1 = pc')
    (k : ∀ T' h', St p l e R s m args below meth c n0 T' cells slots → T'.heap = h' → Wr h h' a i (.int x) → AV Z h' a .boolean (vs.set i (.int x)) → Go p e below s R n0 Q (T'.setTop (mkF m pc' Ls stk))) : Go p e below s R n0 Q (T.setTop (mkF m pc Ls (.int x :: .int j :: .ref a :: stk))) := by
  subst hp; obtain ⟨locs, X, N⟩ := X; obtain ⟨cl, A, hs, hl⟩ := F
  obtain ⟨T', h', X', e', W', st⟩ := stZ X K.hx K.hZ eT A (AV.in (a := a) (ty := .boolean) hs hj hi) (g := mkF m pc Ls (.int x :: .int j :: .ref a :: stk)) rfl rfl (hb K.by' hd)
  have W2 := W'; rw [(idx_nat hj).1, hx'] at W2
  exact go_by st (k T' h' ⟨_, X', Fr.snoc X' N ge⟩ e' W2 (AV.set A hs hl W2))

theorem go_castore (K : Ctx p s m meth c Z own nm bytes maxL ret) (X : St p l e R s m args below meth c n0 T cells slots) (eT : T.heap = h) {a : Addr} {vs : List Value} {j x : Int32} {i : Nat} (F : AV Z h a .char vs) (hj : j.toInt = (i : Int)) (hi : i < vs.length) (hx' : nar .char x = x) (ge : n0 ≤ a) (hd : decode bytes pc = .ok (.castore, 1)) (hp : pc + 1 = pc')
    (k : ∀ T' h', St p l e R s m args below meth c n0 T' cells slots → T'.heap = h' → Wr h h' a i (.int x) → AV Z h' a .char (vs.set i (.int x)) → Go p e below s R n0 Q (T'.setTop (mkF m pc' Ls stk))) : Go p e below s R n0 Q (T.setTop (mkF m pc Ls (.int x :: .int j :: .ref a :: stk))) := by
  subst hp; obtain ⟨locs, X, N⟩ := X; obtain ⟨cl, A, hs, hl⟩ := F
  obtain ⟨T', h', X', e', W', st⟩ := stC X K.hx K.hZ eT A (AV.in (a := a) (ty := .char) hs hj hi) (g := mkF m pc Ls (.int x :: .int j :: .ref a :: stk)) rfl rfl (hb K.by' hd)
  have W2 := W'; rw [(idx_nat hj).1, hx'] at W2
  exact go_by st (k T' h' ⟨_, X', Fr.snoc X' N ge⟩ e' W2 (AV.set A hs hl W2))

theorem go_aastore (K : Ctx p s m meth c Z own nm bytes maxL ret) (X : St p l e R s m args below meth c n0 T cells slots) (eT : T.heap = h) {a : Addr} {ty : FieldType} {vs : List Value} {j : Int32} {v : Value} {i : Nat} (F : AV Z h a ty vs) (hj : j.toInt = (i : Int)) (hi : i < vs.length) (hty : ty.isReference = true) (S : Sto Z h a v) (ge : n0 ≤ a) (hd : decode bytes pc = .ok (.aastore, 1)) (hp : pc + 1 = pc')
    (k : ∀ T' h', St p l e R s m args below meth c n0 T' cells slots → T'.heap = h' → Wr h h' a i v → AV Z h' a ty (vs.set i v) → Go p e below s R n0 Q (T'.setTop (mkF m pc' Ls stk))) : Go p e below s R n0 Q (T.setTop (mkF m pc Ls (v :: .int j :: .ref a :: stk))) := by
  subst hp; obtain ⟨locs, X, N⟩ := X; obtain ⟨cl, A, hs, hl⟩ := F
  obtain ⟨T', h', X', e', W', st⟩ := stR X K.hx K.hZ eT A (AV.in (a := a) (ty := ty) hs hj hi) hty S (g := mkF m pc Ls (v :: .int j :: .ref a :: stk)) rfl rfl (hb K.by' hd)
  have W2 := W'; rw [(idx_nat hj).1] at W2
  exact go_by st (k T' h' ⟨_, X', Fr.snoc X' N ge⟩ e' W2 (AV.set A hs hl W2))
theorem go_newarray (K : Ctx p s m meth c Z own nm bytes maxL ret) (X : St p l e R s m args below meth c n0 T cells slots) {aty : ArrayType} (w : (Cond.arrayClass (newarray.typeOf aty)).before a0 Z = true) (eT : T.heap = h) {j : Int32} {i cap : Nat} (hd : decode bytes pc = .ok (.newarray aty, 2)) (hj : j.toInt = (i : Int)) (hcap : i ≤ cap) (hb' : cap * 8 ≤ 536870912) (hp : pc + 2 = pc') (hc' : cells + 1 = cells') (hs' : slots + cap = slots') (hc : cells' ≤ R.cells) (hs : slots' ≤ R.slots)
    (k : ∀ T' h' a, a = h.size → St p l e R s m args below meth c n0 T' cells' slots' → T'.heap = h' → Ext h h' → AV Z h' a (newarray.typeOf aty) (List.replicate i (defaultValue (newarray.typeOf aty))) → Go p e below s R n0 Q (T'.setTop (mkF m pc' Ls (.ref a :: stk)))) : Go p e below s R n0 Q (T.setTop (mkF m pc Ls (.int j :: stk))) := by
  subst hp hc' hs'; obtain ⟨locs, X, N⟩ := X
  obtain ⟨h1, h2⟩ := idx_nat hj
  obtain ⟨T', h', cA, X', e', E', A', st⟩ := newP X K.hx K.hZ w eT (g := mkF m pc Ls (.int j :: stk)) rfl (hb K.by' hd) rfl h2 (cap := cap) (by rw [h1]; exact hcap) hb' hc hs
  refine go_by st (k T' h' _ rfl ⟨_, X', N⟩ e' E' ⟨_, A', ?_, ?_⟩)
  · show Array.replicate _ _ = _
    rw [h1]; simp
  · have := j.toInt_lt; rw [hj] at this; simp; omega

theorem nat32 {n : Nat} (h : n < 2 ^ 31) : n.toInt32.toNatClampNeg = n ∧ ¬ n.toInt32 < 0 := idx_nat (len_toInt h)
theorem AV.toArv {a : Addr} {ty : FieldType} {vs : List Value} (F : AV Z h a ty vs) (hf : ∀ v ∈ vs, fits ty v = true) (dv : Value) : ∃ k, Arv Z h a k ty vs.length.toInt32 vs dv := by
  obtain ⟨cl, A, hs, hl⟩ := F
  have hz : cl.slots.size = vs.length := by rw [hs]; simp
  refine ⟨cl.cls, cl, A, rfl, by rw [hz, (nat32 hl).1], (nat32 hl).2, fun i hi => ?_, fun i hi => ?_⟩
  · rw [hz] at hi
    rw [hs]; simp [List.getD, hi]
  · rw [hz] at hi
    have : vs.getD i dv = vs[i] := by simp [List.getD, hi]
    rw [this]; exact hf _ (List.getElem_mem hi)
theorem Arv.toAV {a : Addr} {k : ClassId} {ty : FieldType} {z : Int32} {vs : List Value} {dv : Value} (F : Arv Z h a k ty z vs dv) (hl : z.toNatClampNeg = vs.length) : AV Z h a ty vs := by
  obtain ⟨cl, A, -, hs, hn, H, -⟩ := F
  refine ⟨cl, A, ?_, ?_⟩
  · apply Array.ext
    · rw [hs, hl]; simp
    · intro i h1 h2
      have := H i h1
      have h3 : i < vs.length := by rw [hs, hl] at h1; exact h1
      rw [Array.getElem?_eq_getElem h1] at this
      have e := Option.some.inj this
      rw [e]; simp [List.getD, h3]
  · rw [← hl]; exact (back32 hn).2
theorem go_newarrayE (K : Ctx p s m meth c Z own nm bytes maxL ret) (X : St p l e R s m args below meth c n0 T cells slots) {aty : ArrayType} {ad : String} (had : "[" ++ (newarray.typeOf aty).toString = ad) (w : (Cond.arrayClass (newarray.typeOf aty)).before a0 Z = true) (eT : T.heap = h) {j : Int32} {i cap : Nat} (hd : decode bytes pc = .ok (.newarray aty, 2)) (hj : j.toInt = (i : Int)) (hcap : i ≤ cap) (hb' : cap * 8 ≤ 536870912) (hp : pc + 2 = pc') (hc' : cells + 1 = cells') (hs' : slots + cap = slots') (hc : cells' ≤ R.cells) (hs : slots' ≤ R.slots)
    (k : ∀ T' h' a, a = h.size → St p l e R s m args below meth c n0 T' cells' slots' → T'.heap = h' → Ext h h' → AV Z h' a (newarray.typeOf aty) (List.replicate i (defaultValue (newarray.typeOf aty))) → Exa Z h' a ad → Go p e below s R n0 Q (T'.setTop (mkF m pc' Ls (.ref a :: stk)))) : Go p e below s R n0 Q (T.setTop (mkF m pc Ls (.int j :: stk))) := by
  subst hp hc' hs'; obtain ⟨locs, X, N⟩ := X
  obtain ⟨h1, h2⟩ := idx_nat hj
  obtain ⟨T', h', cA, X', e', E', A', x', st⟩ := newPE X K.hx K.hZ w eT (g := mkF m pc Ls (.int j :: stk)) rfl (hb K.by' hd) rfl h2 (cap := cap) (by rw [h1]; exact hcap) hb' hc hs had
  refine go_by st (k T' h' _ rfl ⟨_, X', N⟩ e' E' ⟨_, A', ?_, ?_⟩ x')
  · show Array.replicate _ _ = _
    rw [h1]; simp
  · have := j.toInt_lt; rw [hj] at this; simp; omega
theorem go_clone (K : Ctx p s m meth c Z own nm bytes maxL ret) (X : St p l e R s m args below meth c n0 T cells slots) {ad : String} {index : Nat} (w1 : (Cond.methodLink own index ⟨ad, "clone", "()Ljava/lang/Object;"⟩).before a0 Z = true) (w2 : (Cond.sameMethod ad "java/lang/Object" "clone" "()Ljava/lang/Object;").before a0 Z = true) (w3 : (Cond.native ⟨"java/lang/Object", "clone", "()Ljava/lang/Object;"⟩).before a0 Z = true)
    (w4 : (Cond.instanceMethod ⟨"java/lang/Object", "clone", "()Ljava/lang/Object;"⟩).before a0 Z = true) (w5 : (Cond.selects ad ⟨ad, "clone", "()Ljava/lang/Object;"⟩ ⟨"java/lang/Object", "clone", "()Ljava/lang/Object;"⟩).before a0 Z = true) (w6 : (Cond.castable ad "java/lang/Cloneable").before a0 Z = true)
    (eT : T.heap = h) {a : Addr} {ty : FieldType} {vs : List Value} (F : AV Z h a ty vs) (E : Exa Z h a ad) (hfit : ∀ v ∈ vs, fits ty v = true) (hsize : Ls.size = maxL) (hd : decode bytes pc = .ok (.invokevirtual index, 3)) (hp : pc + 3 = pc')
    (hf : 1 ≤ R.frames) {W cap : Nat} (hW : (stk.map fun v => v.category).sum ≤ W) (hl : W + 14 ≤ R.locals) (hcap : vs.length ≤ cap) (hc' : cells + 1 = cells') (hs' : slots + cap = slots') (hc : cells' ≤ R.cells) (hs : slots' ≤ R.slots)
    (k : ∀ T' h' b, b = h.size → St p l e R s m args below meth c n0 T' cells' slots' → T'.heap = h' → Ext h h' → AV Z h' b ty vs → Exa Z h' b ad → Go p e below s R n0 Q (T'.setTop (mkF m pc' Ls (.ref b :: stk)))) : Go p e below s R n0 Q (T.setTop (mkF m pc Ls (.ref a :: stk))) := by
  subst hp hc' hs'; obtain ⟨locs, X, N⟩ := X
  obtain ⟨kk, V⟩ := F.toArv hfit .null
  have hlen := F.len
  obtain ⟨T', h', X', e', E', V', x', st⟩ := cloneH X K.hx K.hZ K.own' w1 w2 w3 w4 w5 w6 eT (Arv.arh V) E (g := mkF m pc Ls (.ref a :: stk)) rfl (by rw [K.ml]; exact hsize) rfl (hb K.by' hd) hf (W := W) (by show 2 * 0 + _ ≤ _; omega) hl (cap := cap) (by rw [(nat32 hlen).1]; exact hcap) hc hs
  exact go_by st (k T' h' _ rfl ⟨_, X', N⟩ e' E' (Arv.toAV V' (nat32 hlen).1) x')
theorem go_arraycopy (K : Ctx p s m meth c Z own nm bytes maxL ret) (X : St p l e R s m args below meth c n0 T cells slots) {index : Nat} (w1 : (Cond.methodLink own index Jvm.Stand.acN).before a0 Z = true) (w2 : (Cond.native Jvm.Stand.acN).before a0 Z = true) (w3 : (Cond.static Jvm.Stand.acN).before a0 Z = true) (w4 : (Cond.initialized "java/lang/System").before a0 Z = true)
    (eT : T.heap = h) {a b : Addr} {ty : FieldType} {vs vd us : List Value} {sp dp nn : Int32} {i j n : Nat} (F : AV Z h a ty vs) (G : AV Z h b ty vd) (hty : refKind ty = false) (hf1 : ∀ v ∈ vs, fits ty v = true) (hf2 : ∀ v ∈ vd, fits ty v = true) (hi : sp.toInt = (i : Int)) (hj : dp.toInt = (j : Int)) (hn : nn.toInt = (n : Int)) (h4 : i + n ≤ vs.length) (h5 : j + n ≤ vd.length) (hus : us = vd.take j ++ (vs.drop i).take n ++ vd.drop (j + n)) (ge : n0 ≤ b) (hsize : Ls.size = maxL) (hd : decode bytes pc = .ok (.invokestatic index, 3)) (hp : pc + 3 = pc')
    (hf : 1 ≤ R.frames) {W : Nat} (hW : (stk.map fun v => v.category).sum ≤ W) (hlo : W + (nativeFrameWords "java/lang/System" "arraycopy" 5 + 11) ≤ R.locals)
    (k : ∀ T' h', St p l e R s m args below meth c n0 T' cells slots → T'.heap = h' → Keep h h' [b] → AV Z h' b ty us → Go p e below s R n0 Q (T'.setTop (mkF m pc' Ls stk))) : Go p e below s R n0 Q (T.setTop (mkF m pc Ls (.int nn :: .int dp :: .ref b :: .int sp :: .ref a :: stk))) := by
  subst hp; obtain ⟨locs, X, N⟩ := X
  obtain ⟨k1, V1⟩ := F.toArv hf1 .null
  obtain ⟨k2, V2⟩ := G.toArv hf2 .null
  obtain ⟨i1, i2⟩ := idx_nat hi
  obtain ⟨j1, j2⟩ := idx_nat hj
  obtain ⟨n1, n2⟩ := idx_nat hn
  have l1 := (nat32 F.len).1
  have l2 := (nat32 G.len).1
  have e3 : (List.range n).map (fun q => vs.getD (i + q) .null) = (vs.drop i).take n := by
    apply List.ext_getElem
    · simp; omega
    · intro q h6 h7
      have : q < n := by simpa using h6
      have h8 : i + q < vs.length := by omega
      simp [List.getD, h8]
  obtain ⟨T', h', L', X', e', N', KK, V', st⟩ := cpA X K.hx K.hZ K.own' w1 w2 w3 w4 eT V1 V2 (Or.inl ⟨rfl, hty⟩) i2 j2 n2 (by rw [i1, n1, l1]; exact h4) (by rw [j1, n1, l2]; exact h5) rfl (by rw [j1, n1]; exact h5) N ge (g := mkF m pc Ls (.int nn :: .int dp :: .ref b :: .int sp :: .ref a :: stk)) rfl (by rw [K.ml]; exact hsize) rfl (hb K.by' hd) hf (W := W) (by show 2 * 0 + _ ≤ _; omega) hlo
  rw [i1, j1, n1, e3, ← hus] at V'
  have hl : us.length = vd.length := by rw [hus]; simp; omega
  exact go_by st (k T' h' ⟨_, X', N'⟩ e' KK (Arv.toAV V' (by rw [l2, hl])))

/-! ## calls: the callee's contract pays -/
theorem go_static (K : Ctx p s m meth c Z own nm bytes maxL ret) (X : St p l e R s m args below meth c n0 T cells slots) {index : Nat} {y : MethodName} {bytes' : ByteArray} {maxL' : Nat} {ret' : Option FieldType} {rm : Room} {Q' : Option Value → Heap → Prop} {argsL st0 : List Value}
    (w1 : (Cond.methodLink own index y).before a0 Z = true) (w2 : (Cond.static y).before a0 Z = true) (w3 : (Cond.initialized y.cls).before a0 Z = true) (w4 : (Cond.code y bytes' maxL' ret').before a0 Z = true) (hy : y.cls ≠ "java/lang/invoke/MethodHandle" ∧ y.cls ≠ "java/lang/invoke/VarHandle")
    (hlen : ∀ sig, parseMethodDescriptor y.desc = some sig → argsL.length = sig.parameters.length) (eT : T.heap = h) (C : Con l Z n0 y bytes' maxL' ret' rm argsL.toArray h Q') (hst : st0 = argsL.reverse ++ stk) (hsize : Ls.size = maxL) (hd : decode bytes pc = .ok (.invokestatic index, 3)) (hp : pc + 3 = pc')
    (hf : rm.frames + 1 ≤ R.frames) {W : Nat} (hW : (stk.map fun v => v.category).sum ≤ W) (hl : W + (maxL' + 11) + rm.locals ≤ R.locals) (hc' : cells + rm.cells = cells') (hs' : slots + rm.slots = slots') (hc : cells' ≤ R.cells) (hs : slots' ≤ R.slots)
    (k : ∀ T' h' v, St p l e R s m args below meth c n0 T' cells' slots' → T'.heap = h' → Q' v h' → Go p e below s R n0 Q (T'.setTop (mkF m pc' Ls (v.toList ++ stk)))) : Go p e below s R n0 Q (T.setTop (mkF m pc Ls st0)) := by
  subst hp hc' hs' hst; obtain ⟨locs, X, N⟩ := X
  obtain ⟨_, _, ⟨T1, L1, k1, n1⟩, -, X1, ⟨Lc1, hQ1, l1, y1, z1⟩, st1⟩ := Jvm.LawKit.callS X K.hx K.own' (mvT K.hZ w1) (mvT K.hZ w2) (mvT K.hZ w3) (mvT K.hZ w4) hy (backOf (W := W) (Q := fun v u L => Q' v u ∧ Fr n0 L) (C []) K.hZ w4 w3 hf hl) (g := mkF m pc Ls (argsL.reverse ++ stk)) rfl (by rw [K.ml]; exact hsize) (argsL := argsL) (rest := stk) hlen rfl (by show 2 * 0 + _ ≤ _; omega) (hb K.by' hd) (fun _ _ => ⟨rfl, eT, hc, hs⟩)
  dsimp only [Pt.U, Pt.locs, Pt.cells, Pt.slots] at X1 l1 y1 z1 st1 hQ1
  subst l1 y1 z1
  exact go_by st1 (k T1 _ _ ⟨_, X1, Fr.app N hQ1.2⟩ rfl hQ1.1)

theorem go_init (K : Ctx p s m meth c Z own nm bytes maxL ret) (X : St p l e R s m args below meth c n0 T cells slots) {index : Nat} {y : MethodName} {bytes' : ByteArray} {maxL' : Nat} {rm : Room} {Q' : Option Value → Heap → Prop} {a : Addr} {argsL st0 : List Value}
    (w1 : (Cond.methodLink own index y).before a0 Z = true) (w2 : (Cond.instanceMethod y).before a0 Z = true) (w3 : (Cond.initialized y.cls).before a0 Z = true) (w4 : (Cond.code y bytes' maxL' none).before a0 Z = true) (hy : y.cls ≠ "java/lang/invoke/MethodHandle" ∧ y.cls ≠ "java/lang/invoke/VarHandle") (hi : y.name = "<init>")
    (hlen : ∀ sig, parseMethodDescriptor y.desc = some sig → argsL.length = sig.parameters.length) (eT : T.heap = h) (C : Con l Z n0 y bytes' maxL' none rm (.ref a :: argsL).toArray h Q') (hst : st0 = argsL.reverse ++ .ref a :: stk) (hsize : Ls.size = maxL) (hd : decode bytes pc = .ok (.invokespecial index, 3)) (hp : pc + 3 = pc')
    (hf : rm.frames + 1 ≤ R.frames) {W : Nat} (hW : (stk.map fun v => v.category).sum ≤ W) (hl : W + (maxL' + 11) + rm.locals ≤ R.locals) (hc' : cells + rm.cells = cells') (hs' : slots + rm.slots = slots') (hc : cells' ≤ R.cells) (hs : slots' ≤ R.slots)
    (k : ∀ T' h' v, St p l e R s m args below meth c n0 T' cells' slots' → T'.heap = h' → Q' v h' → Go p e below s R n0 Q (T'.setTop (mkF m pc' Ls (v.toList ++ stk)))) : Go p e below s R n0 Q (T.setTop (mkF m pc Ls st0)) := by
  subst hp hc' hs' hst; obtain ⟨locs, X, N⟩ := X
  obtain ⟨_, _, ⟨T1, L1, k1, n1⟩, -, X1, ⟨Lc1, hQ1, l1, y1, z1⟩, st1⟩ := X.specialBack K.hx hi K.own' (mvT K.hZ w1) (mvT K.hZ w2) (mvT K.hZ w4) hy (backOf (W := W) (Q := fun v u L => Q' v u ∧ Fr n0 L) (C []) K.hZ w4 w3 hf hl) (g := mkF m pc Ls (argsL.reverse ++ .ref a :: stk)) rfl (by rw [K.ml]; exact hsize) (Steps.refl _) (a := a) (argsL := argsL) (rest := stk) hlen rfl (by show 2 * 0 + _ ≤ _; omega) (hb K.by' hd) (fun _ _ => ⟨rfl, eT, hc, hs⟩)
  dsimp only [Pt.U, Pt.locs, Pt.cells, Pt.slots] at X1 l1 y1 z1 st1 hQ1
  subst l1 y1 z1
  exact go_by (fun t k => st1.trans k) (k T1 _ _ ⟨_, X1, Fr.app N hQ1.2⟩ rfl hQ1.1)

theorem go_virt (K : Ctx p s m meth c Z own nm bytes maxL ret) (X : St p l e R s m args below meth c n0 T cells slots) {C : String} {index : Nat} {y z : MethodName} {bytes' : ByteArray} {maxL' : Nat} {ret' : Option FieldType} {rm : Room} {Q' : Option Value → Heap → Prop} {a : Addr} {argsL st0 : List Value}
    (w1 : (Cond.methodLink own index y).before a0 Z = true) (w2 : (Cond.declares y).before a0 Z = true) (wn : (Cond.selects y.cls y y).before a0 Z = true) (w3 : (Cond.selects C y z).before a0 Z = true) (w4 : (Cond.instanceMethod z).before a0 Z = true) (w5 : (Cond.code z bytes' maxL' ret').before a0 Z = true) (w6 : (Cond.initialized z.cls).before a0 Z = true) (hy : y.cls ≠ "java/lang/invoke/MethodHandle" ∧ y.cls ≠ "java/lang/invoke/VarHandle")
    (hlen : ∀ sig, parseMethodDescriptor y.desc = some sig → argsL.length = sig.parameters.length) (eT : T.heap = h) (E : Exa Z h a C) (C0 : Con l Z n0 z bytes' maxL' ret' rm (.ref a :: argsL).toArray h Q') (hst : st0 = argsL.reverse ++ .ref a :: stk) (hsize : Ls.size = maxL) (hd : decode bytes pc = .ok (.invokevirtual index, 3)) (hp : pc + 3 = pc')
    (hf : rm.frames + 1 ≤ R.frames) {W : Nat} (hW : (stk.map fun v => v.category).sum ≤ W) (hl : W + (maxL' + 11) + rm.locals ≤ R.locals) (hc' : cells + rm.cells = cells') (hs' : slots + rm.slots = slots') (hc : cells' ≤ R.cells) (hs : slots' ≤ R.slots)
    (k : ∀ T' h' v, St p l e R s m args below meth c n0 T' cells' slots' → T'.heap = h' → Q' v h' → Go p e below s R n0 Q (T'.setTop (mkF m pc' Ls (v.toList ++ stk)))) : Go p e below s R n0 Q (T.setTop (mkF m pc Ls st0)) := by
  subst hp hc' hs' hst; obtain ⟨locs, X, N⟩ := X
  obtain ⟨cq, kq, qa, qb, qc⟩ := isOf K.hZ eT E
  obtain ⟨_, _, ⟨T1, L1, k1, n1⟩, -, X1, ⟨Lc1, hQ1, l1, y1, z1⟩, st1⟩ := X.virtualBack K.hx K.own' (mvT K.hZ w1) (mvT K.hZ w2) (notFace_of_selects (args := #[]) (mvT K.hZ wn)) (mvT K.hZ w3) (mvT K.hZ w4) hy (backOf (W := W) (Q := fun v u L => Q' v u ∧ Fr n0 L) (C0 []) K.hZ w5 w6 hf hl) qa qc (g := mkF m pc Ls (argsL.reverse ++ .ref a :: stk)) rfl (by rw [K.ml]; exact hsize) (Steps.refl _) (argsL := argsL) (rest := stk) hlen rfl (by show 2 * 0 + _ ≤ _; omega) (hb K.by' hd) (fun _ _ => ⟨rfl, eT, hc, hs⟩)
  dsimp only [Pt.U, Pt.locs, Pt.cells, Pt.slots] at X1 l1 y1 z1 st1 hQ1
  subst l1 y1 z1
  exact go_by (fun t k => st1.trans k) (k T1 _ _ ⟨_, X1, Fr.app N hQ1.2⟩ rfl hQ1.1)

theorem go_face (K : Ctx p s m meth c Z own nm bytes maxL ret) (X : St p l e R s m args below meth c n0 T cells slots) {C : String} {index count : Nat} {y z : MethodName} {bytes' : ByteArray} {maxL' : Nat} {ret' : Option FieldType} {rm : Room} {Q' : Option Value → Heap → Prop} {a : Addr} {argsL st0 : List Value}
    (w1 : (Cond.methodLink own index y).before a0 Z = true) (w2 : (Cond.declares y).before a0 Z = true) (w7 : (Cond.interfaceMethod y.cls y.cls y.name y.desc).before a0 Z = true) (w3 : (Cond.selects C y z).before a0 Z = true) (w4 : (Cond.instanceMethod z).before a0 Z = true) (w8 : (Cond.publicMethod z).before a0 Z = true) (w9 : (Cond.unhidden C y.name y.desc).before a0 Z = true) (w10 : (Cond.castable C y.cls).before a0 Z = true) (w5 : (Cond.code z bytes' maxL' ret').before a0 Z = true) (w6 : (Cond.initialized z.cls).before a0 Z = true) (hy : y.cls ≠ "java/lang/invoke/MethodHandle" ∧ y.cls ≠ "java/lang/invoke/VarHandle")
    (hlen : ∀ sig, parseMethodDescriptor y.desc = some sig → argsL.length = sig.parameters.length) (eT : T.heap = h) (E : Exa Z h a C) (C0 : Con l Z n0 z bytes' maxL' ret' rm (.ref a :: argsL).toArray h Q') (hst : st0 = argsL.reverse ++ .ref a :: stk) (hsize : Ls.size = maxL) (hd : decode bytes pc = .ok (.invokeinterface index count, 5)) (hp : pc + 5 = pc')
    (hf : rm.frames + 1 ≤ R.frames) {W : Nat} (hW : (stk.map fun v => v.category).sum ≤ W) (hl : W + (maxL' + 11) + rm.locals ≤ R.locals) (hc' : cells + rm.cells = cells') (hs' : slots + rm.slots = slots') (hc : cells' ≤ R.cells) (hs : slots' ≤ R.slots)
    (k : ∀ T' h' v, St p l e R s m args below meth c n0 T' cells' slots' → T'.heap = h' → Q' v h' → Go p e below s R n0 Q (T'.setTop (mkF m pc' Ls (v.toList ++ stk)))) : Go p e below s R n0 Q (T.setTop (mkF m pc Ls st0)) := by
  subst hp hc' hs' hst; obtain ⟨locs, X, N⟩ := X
  obtain ⟨cq, kq, qa, qb, qc⟩ := isOf K.hZ eT E
  obtain ⟨_, _, ⟨T1, L1, k1, n1⟩, -, X1, ⟨Lc1, hQ1, l1, y1, z1⟩, st1⟩ := X.interfaceBack K.hx K.own' (mvT K.hZ w1) (mvT K.hZ w2) (mvT K.hZ w7 (by simp [Cond.onTables, Cond.keepsFace, Cond.keeps, Cond.steady, Cond.faceAtom, hy.1, hy.2])) (mvT K.hZ w3) (mvT K.hZ w4) (mvT K.hZ w8) (mvT K.hZ w9) (mvT K.hZ w10) hy (backOf (W := W) (Q := fun v u L => Q' v u ∧ Fr n0 L) (C0 []) K.hZ w5 w6 hf hl) qa qb qc (g := mkF m pc Ls (argsL.reverse ++ .ref a :: stk)) rfl (by rw [K.ml]; exact hsize) (Steps.refl _) (argsL := argsL) (rest := stk) hlen rfl (by show 2 * 0 + _ ≤ _; omega) (hb K.by' hd) (fun _ _ => ⟨rfl, eT, hc, hs⟩)
  dsimp only [Pt.U, Pt.locs, Pt.cells, Pt.slots] at X1 l1 y1 z1 st1 hQ1
  subst l1 y1 z1
  exact go_by (fun t k => st1.trans k) (k T1 _ _ ⟨_, X1, Fr.app N hQ1.2⟩ rfl hQ1.1)

end OwnKit

def own_max (x y : Int32) : Int32 := if x < y then y else x
theorem own_max_t {x y : Int32} (q : x < y) : own_max x y = y := if_pos q
theorem own_max_f {x y : Int32} (q : ¬ x < y) : own_max x y = x := if_neg q
def own_pad (x y : Int32) : Int32 := if y = 1 then 0 else if x % y = 0 then 0 else y - x % y
theorem own_pad_f {x y : Int32} (q : y = 1) : own_pad x y = 0 := if_pos q
theorem own_pad_tt {x y : Int32} (q : ¬ y = 1) (r : ¬ x % y = 0) : own_pad x y = y - x % y := (if_neg q).trans (if_neg r)
theorem own_pad_tf {x y : Int32} (q : ¬ y = 1) (r : x % y = 0) : own_pad x y = 0 := (if_neg q).trans (if_pos r)
theorem own_mask (x : Int32) : 0 ≤ (x &&& 2147483647).toInt ∧ (x &&& 2147483647).toInt < 2147483648 := by
  have h := c_mask x 2147483647 31 (by omega) (by decide)
  have h2 : (2 ^ 31 : Nat) = 2147483648 := by decide
  rw [h2] at h
  omega
theorem own_max_pos (y : Int32) : 1 ≤ (own_max 1 y).toInt := by
  unfold own_max
  split
  · rename_i q
    have : (1 : Int32).toInt < y.toInt := Int32.lt_iff_toInt_lt.mp q
    have h1 : (1 : Int32).toInt = 1 := by decide
    omega
  · decide
theorem own_nz (y : Int32) : own_max 1 y ≠ 0 := fun q => by
  have := own_max_pos y
  rw [q] at this
  exact absurd this (by decide)
theorem own_pad_spec {x y : Int32} (hx : 0 ≤ x.toInt) (hy : 0 < y.toInt) : 0 ≤ (own_pad x y).toInt ∧ (own_pad x y).toInt < y.toInt ∧ (x.toInt + (own_pad x y).toInt) % y.toInt = 0 := by
  have hr : (x % y).toInt = x.toInt % y.toInt := (c_irem x y _ rfl).1 hx
  have h0 := Int.emod_nonneg x.toInt (show y.toInt ≠ 0 by omega)
  have h1 := Int.emod_lt_of_pos x.toInt hy
  have hz : (0 : Int32).toInt = 0 := by decide
  by_cases q : y = 1
  · rw [own_pad_f q, hz]
    have : y.toInt = 1 := by rw [q]; decide
    rw [this]
    exact ⟨by omega, by omega, by omega⟩
  · by_cases r : x % y = 0
    · rw [own_pad_tf q r, hz]
      rw [r, hz] at hr
      exact ⟨by omega, by omega, by rw [Int.add_zero]; exact hr.symm⟩
    · rw [own_pad_tt q r]
      have hne : (x % y).toInt ≠ 0 := fun z => r (Int32.toInt_inj.mp (z.trans hz.symm))
      have hyl := y.toInt_lt
      have hs : (y - x % y).toInt = y.toInt - x.toInt % y.toInt := by
        rw [XT.sub32 (by rw [hr]; constructor <;> omega), hr]
      rw [hs]
      refine ⟨by omega, by omega, ?_⟩
      have e := Int.emod_add_mul_ediv x.toInt y.toInt
      have : x.toInt + (y.toInt - x.toInt % y.toInt) = y.toInt * (1 + x.toInt / y.toInt) := by
        rw [Int.mul_add, Int.mul_one]; omega
      rw [this]
      exact Int.mul_emod_right _ _
theorem own_law1 (p1 p2 : Int32) : ¬ own_pad (p1 &&& 2147483647) (own_max 1 (p2 &&& 2147483647)) < 0 := by
  have := (own_pad_spec (own_mask p1).1 (show 0 < (own_max 1 (p2 &&& 2147483647)).toInt by have := own_max_pos (p2 &&& 2147483647); omega)).1
  rw [XT.negI32]; omega
theorem own_law2 (p1 p2 : Int32) : own_pad (p1 &&& 2147483647) (own_max 1 (p2 &&& 2147483647)) < own_max 1 (p2 &&& 2147483647) :=
  Int32.lt_iff_toInt_lt.mpr (own_pad_spec (own_mask p1).1 (show 0 < (own_max 1 (p2 &&& 2147483647)).toInt by have := own_max_pos (p2 &&& 2147483647); omega)).2.1
theorem own_law3 (p1 p2 : Int32) : (own_max 1 (p2 &&& 2147483647)).toInt64 ≠ 0 := fun q => by
  have h := own_max_pos (p2 &&& 2147483647)
  have h2 := c_i2l (own_max 1 (p2 &&& 2147483647))
  rw [q] at h2
  have : (0 : Int64).toInt = 0 := by decide
  omega
theorem own_law4g {len pd mul : Int32} (h1 : 0 ≤ len.toInt) (h3 : 0 ≤ pd.toInt) (h4 : 0 < mul.toInt) (h5 : (len.toInt + pd.toInt) % mul.toInt = 0) :
    (len.toInt64 + pd.toInt64) - ((len.toInt64 + pd.toInt64) / mul.toInt64) * mul.toInt64 = 0 := by
  have a1 := len.toInt_lt
  have a2 := pd.toInt_lt
  have e : (len.toInt64 + pd.toInt64).toInt = len.toInt + pd.toInt := by
    rw [XT.add64 (by rw [c_i2l, c_i2l]; constructor <;> omega), c_i2l, c_i2l]
  have r := (c_lrem (len.toInt64 + pd.toInt64) mul.toInt64 mul.toInt (c_i2l mul)).1 (by rw [e]; omega)
  rw [e, h5] at r
  exact Int64.toInt_inj.mp (r.trans (by decide))
theorem own_law4 (p1 p2 : Int32) : ((p1 &&& 2147483647).toInt64 + (own_pad (p1 &&& 2147483647) (own_max 1 (p2 &&& 2147483647))).toInt64) - (((p1 &&& 2147483647).toInt64 + (own_pad (p1 &&& 2147483647) (own_max 1 (p2 &&& 2147483647))).toInt64) / (own_max 1 (p2 &&& 2147483647)).toInt64) * (own_max 1 (p2 &&& 2147483647)).toInt64 = 0 := by
  have hp : 0 < (own_max 1 (p2 &&& 2147483647)).toInt := by have := own_max_pos (p2 &&& 2147483647); omega
  have sp := own_pad_spec (own_mask p1).1 hp
  exact own_law4g (own_mask p1).1 sp.1 hp sp.2.2

theorem d1_0 : decode jdk_29_method_65_code 0 = .ok (.iload_n 0, 1) := by decide +kernel
theorem d1_1 : decode jdk_29_method_65_code 1 = .ok (.iload_n 1, 1) := by decide +kernel
theorem d1_2 : decode jdk_29_method_65_code 2 = .ok (.if_icmp .lt 7, 3) := by decide +kernel
theorem d1_9 : decode jdk_29_method_65_code 9 = .ok (.iload_n 1, 1) := by decide +kernel
theorem d1_10 : decode jdk_29_method_65_code 10 = .ok (.ireturn, 1) := by decide +kernel
theorem d1_5 : decode jdk_29_method_65_code 5 = .ok (.iload_n 0, 1) := by decide +kernel
theorem d1_6 : decode jdk_29_method_65_code 6 = .ok (.goto 4, 3) := by decide +kernel
theorem ef_rmMax (m : MethodId) (p1 : Int32) (p2 : Int32) : entryFrame m #[(.int p1), (.int p2)] 2 = mkF m 0 #[.val (.int p1), .val (.int p2)] [] := by first | rfl | (simp [entryFrame, mkF, argsToLocals, Value.category]; done)
def Q_rmMax (Z : State) (n0 : Nat) (p1 : Int32) (p2 : Int32) (h0 : Heap) (v : Option Value) (h : Heap) : Prop := v = some (.int (own_max p1 p2)) ∧ h = h0
abbrev R_rmMax : Room := { frames := 0, cells := 0, slots := 0, locals := 0 }
set_option maxRecDepth 65536 in
set_option maxHeartbeats 40000000 in
theorem rmMax {l : Launch} {Z : State} {n0 : Nat} {a0 : Array Value} (hw : ∀ d ∈ tables_1, d.before a0 Z = true) (p1 : Int32) (p2 : Int32) (h0 : Heap) :
    Con l Z n0 (⟨"java/lang/Math", "max", "(II)I"⟩ : MethodName) jdk_29_method_65_code 2 (some .int) R_rmMax #[(.int p1), (.int p2)] h0 (Q_rmMax Z n0 p1 p2 h0) := by
  refine con_of (Jvm.Free.JP.mathPlain rfl (by decide +kernel)) ?_
  intro p e s m below meth c T0 K X0 e0
  replace K : Ctx p s m meth c Z "java/lang/Math" "max" jdk_29_method_65_code 2 (some .int) := K
  refine go_entry (ef_rmMax m p1 p2) ?_
  refine go_iloadN K X0 d1_0 rfl rfl ?_
  refine go_iloadN K X0 d1_1 rfl rfl ?_
  refine go_icmp K X0 d1_2 (by decide) rfl rfl ?_ ?_
  · intro (hc1 : p1 < p2)
    refine go_iloadN K X0 d1_9 rfl rfl ?_
    refine go_retI K X0 d1_10 (by decide) (by decide) ?_
    rw [e0]
    exact ⟨(by rw [own_max_t hc1]), rfl⟩
  · intro (hc1 : ¬ p1 < p2)
    refine go_iloadN K X0 d1_5 rfl rfl ?_
    refine go_goto K X0 d1_6 (by decide) rfl ?_
    refine go_retI K X0 d1_10 (by decide) (by decide) ?_
    rw [e0]
    exact ⟨(by rw [own_max_f hc1]), rfl⟩
theorem d2_0 : decode prog_69_method_5_code 0 = .ok (.iload_n 1, 1) := by decide +kernel
theorem d2_1 : decode prog_69_method_5_code 1 = .ok (.iconst 1, 1) := by decide +kernel
theorem d2_2 : decode prog_69_method_5_code 2 = .ok (.if_icmp .ne 5, 3) := by decide +kernel
theorem d2_7 : decode prog_69_method_5_code 7 = .ok (.iload_n 0, 1) := by decide +kernel
theorem d2_8 : decode prog_69_method_5_code 8 = .ok (.iload_n 1, 1) := by decide +kernel
theorem d2_9 : decode prog_69_method_5_code 9 = .ok (.irem, 1) := by decide +kernel
theorem d2_10 : decode prog_69_method_5_code 10 = .ok (.istore_n 2, 1) := by decide +kernel
theorem d2_11 : decode prog_69_method_5_code 11 = .ok (.iload_n 2, 1) := by decide +kernel
theorem d2_12 : decode prog_69_method_5_code 12 = .ok (.ifCond .ne 7, 3) := by decide +kernel
theorem d2_19 : decode prog_69_method_5_code 19 = .ok (.iload_n 1, 1) := by decide +kernel
theorem d2_20 : decode prog_69_method_5_code 20 = .ok (.iload_n 2, 1) := by decide +kernel
theorem d2_21 : decode prog_69_method_5_code 21 = .ok (.isub, 1) := by decide +kernel
theorem d2_22 : decode prog_69_method_5_code 22 = .ok (.ireturn, 1) := by decide +kernel
theorem d2_15 : decode prog_69_method_5_code 15 = .ok (.iconst 0, 1) := by decide +kernel
theorem d2_16 : decode prog_69_method_5_code 16 = .ok (.goto 6, 3) := by decide +kernel
theorem d2_5 : decode prog_69_method_5_code 5 = .ok (.iconst 0, 1) := by decide +kernel
theorem d2_6 : decode prog_69_method_5_code 6 = .ok (.ireturn, 1) := by decide +kernel
theorem pn_com_example_bytemold_bytemold_LayoutField : plainName "com/example/bytemold/bytemold/LayoutField" = true := by first | (simp [plainName, overriddenIn]; done) | decide +kernel
theorem ef_rmPad (m : MethodId) (p1 : Int32) (p2 : Int32) : entryFrame m #[(.int p1), (.int p2)] 3 = mkF m 0 #[.val (.int p1), .val (.int p2), .unset] [] := by first | rfl | (simp [entryFrame, mkF, argsToLocals, Value.category]; done)
def Q_rmPad (Z : State) (n0 : Nat) (p1 : Int32) (p2 : Int32) (h0 : Heap) (v : Option Value) (h : Heap) : Prop := v = some (.int (own_pad p1 p2)) ∧ h = h0
abbrev R_rmPad : Room := { frames := 0, cells := 0, slots := 0, locals := 0 }
set_option maxRecDepth 65536 in
set_option maxHeartbeats 40000000 in
theorem rmPad {l : Launch} {Z : State} {n0 : Nat} {a0 : Array Value} (hw : ∀ d ∈ tables_1, d.before a0 Z = true) (p1 : Int32) (p2 : Int32) (h0 : Heap) (H0 : p2 ≠ 0) :
    Con l Z n0 (⟨"com/example/bytemold/bytemold/LayoutField", "padding", "(II)I"⟩ : MethodName) prog_69_method_5_code 3 (some .int) R_rmPad #[(.int p1), (.int p2)] h0 (Q_rmPad Z n0 p1 p2 h0) := by
  refine con_of (plainFor_of_name pn_com_example_bytemold_bytemold_LayoutField) ?_
  intro p e s m below meth c T0 K X0 e0
  replace K : Ctx p s m meth c Z "com/example/bytemold/bytemold/LayoutField" "padding" prog_69_method_5_code 3 (some .int) := K
  refine go_entry (ef_rmPad m p1 p2) ?_
  refine go_iloadN K X0 d2_0 rfl rfl ?_
  refine go_iconst K X0 (1 : Int32) d2_1 rfl rfl ?_
  refine go_icmp K X0 d2_2 (by decide) rfl rfl ?_ ?_
  · intro (hc2 : ¬ p2 = (1 : Int32))
    refine go_iloadN K X0 d2_7 rfl rfl ?_
    refine go_iloadN K X0 d2_8 rfl rfl ?_
    refine go_irem K X0 d2_9 H0 rfl ?_
    refine go_istoreN K X0 #[.val (.int p1), .val (.int p2), .val (.int (p1 % p2))] d2_10 rfl rfl ?_
    refine go_iloadN K X0 d2_11 rfl rfl ?_
    refine go_if K X0 d2_12 (by decide) rfl rfl ?_ ?_
    · intro (hc3 : ¬ (p1 % p2) = (0 : Int32))
      refine go_iloadN K X0 d2_19 rfl rfl ?_
      refine go_iloadN K X0 d2_20 rfl rfl ?_
      refine go_isub K X0 d2_21 rfl ?_
      refine go_retI K X0 d2_22 (by decide) (by decide) ?_
      rw [e0]
      exact ⟨(by rw [own_pad_tt hc2 hc3]), rfl⟩
    · intro (hc3 : (p1 % p2) = (0 : Int32))
      refine go_iconst K X0 (0 : Int32) d2_15 rfl rfl ?_
      refine go_goto K X0 d2_16 (by decide) rfl ?_
      refine go_retI K X0 d2_22 (by decide) (by decide) ?_
      rw [e0]
      exact ⟨(by rw [own_pad_tf hc2 hc3]), rfl⟩
  · intro (hc2 : p2 = (1 : Int32))
    refine go_iconst K X0 (0 : Int32) d2_5 rfl rfl ?_
    refine go_retI K X0 d2_6 (by decide) (by decide) ?_
    rw [e0]
    exact ⟨(by rw [own_pad_f hc2]), rfl⟩
theorem pd_0 : parseMethodDescriptor "(II)I" = some ⟨[.int, .int], some .int⟩ := by decide +kernel
theorem pn_com_example_bytemold_bytemold_LayoutFieldPaddingPinLaw : plainName "com/example/bytemold/bytemold/LayoutFieldPaddingPinLaw" = true := by first | (simp [plainName, overriddenIn]; done) | decide +kernel
theorem ef_rmLaw (m : MethodId) (p1 : Int32) (p2 : Int32) : entryFrame m #[(.int p1), (.int p2)] maxLocals = mkF m 0 #[.val (.int p1), .val (.int p2), .unset, .unset, .unset, .unset, .unset] [] := by first | rfl | (simp [entryFrame, mkF, argsToLocals, Value.category, maxLocals]; done)
def Q_rmLaw (Z : State) (n0 : Nat) (p1 : Int32) (p2 : Int32) (h0 : Heap) (v : Option Value) (h : Heap) : Prop := v = some (.int (1 : Int32)) ∧ h = h0
set_option maxRecDepth 65536 in
set_option maxHeartbeats 40000000 in
theorem rmLaw {l : Launch} {Z : State} {n0 : Nat} {a0 : Array Value} (hw : ∀ d ∈ tables_1, d.before a0 Z = true) (p1 : Int32) (p2 : Int32) (h0 : Heap) :
    Con l Z n0 x code maxLocals ret room_1 #[(.int p1), (.int p2)] h0 (Q_rmLaw Z n0 p1 p2 h0) := by
  refine con_of (plainFor_of_name pn_com_example_bytemold_bytemold_LayoutFieldPaddingPinLaw) ?_
  intro p e s m below meth c T0 K X0 e0
  replace K : Ctx p s m meth c Z "com/example/bytemold/bytemold/LayoutFieldPaddingPinLaw" "law" code maxLocals (some .boolean) := K
  refine go_entry (ef_rmLaw m p1 p2) ?_
  refine go_iloadN K X0 at_0 rfl rfl ?_
  refine go_ldcI K X0 (wd hw 0 rfl) at_1 rfl ?_
  refine go_iand K X0 at_3 rfl ?_
  refine go_istoreN K X0 #[.val (.int p1), .val (.int p2), .val (.int (p1 &&& (2147483647 : Int32))), .unset, .unset, .unset, .unset] at_4 rfl rfl ?_
  refine go_iconst K X0 (1 : Int32) at_5 rfl rfl ?_
  refine go_iloadN K X0 at_6 rfl rfl ?_
  refine go_ldcI K X0 (wd hw 0 rfl) at_7 rfl ?_
  refine go_iand K X0 at_9 rfl ?_
  refine go_static K X0 (argsL := [(.int (1 : Int32)), (.int (p2 &&& (2147483647 : Int32)))]) (stk := []) (wd hw 1 rfl) (wd hw 2 rfl) (wd hw 3 rfl) (wd hw 4 rfl) (by decide) (lenOf pd_0 rfl) e0 (rmMax hw (1 : Int32) (p2 &&& (2147483647 : Int32)) h0 ) rfl rfl at_10 rfl (by decide) (W := 0) (Nat.le_of_eq rfl) (by decide) (cells' := 0) (slots' := 0) rfl rfl (by decide) (by decide) ?_
  rintro T4 h4 _ X4 e4 ⟨rfl, qe4⟩
  show Go _ _ _ _ _ _ _ (T4.setTop (mkF m 13 #[.val (.int p1), .val (.int p2), .val (.int (p1 &&& (2147483647 : Int32))), .unset, .unset, .unset, .unset] [(.int (own_max (1 : Int32) (p2 &&& (2147483647 : Int32))))]))
  replace e4 := e4.trans qe4
  refine go_istoreN K X4 #[.val (.int p1), .val (.int p2), .val (.int (p1 &&& (2147483647 : Int32))), .val (.int (own_max (1 : Int32) (p2 &&& (2147483647 : Int32)))), .unset, .unset, .unset] at_13 rfl rfl ?_
  refine go_iloadN K X4 at_14 rfl rfl ?_
  refine go_iloadN K X4 at_15 rfl rfl ?_
  refine go_static K X4 (argsL := [(.int (p1 &&& (2147483647 : Int32))), (.int (own_max (1 : Int32) (p2 &&& (2147483647 : Int32))))]) (stk := []) (wd hw 5 rfl) (wd hw 6 rfl) (wd hw 7 rfl) (wd hw 8 rfl) (by decide) (lenOf pd_0 rfl) e4 (rmPad hw (p1 &&& (2147483647 : Int32)) (own_max (1 : Int32) (p2 &&& (2147483647 : Int32))) h0 (own_nz _)) rfl rfl at_16 rfl (by decide) (W := 0) (Nat.le_of_eq rfl) (by decide) (cells' := 0) (slots' := 0) rfl rfl (by decide) (by decide) ?_
  rintro T5 h5 _ X5 e5 ⟨rfl, qe5⟩
  show Go _ _ _ _ _ _ _ (T5.setTop (mkF m 19 #[.val (.int p1), .val (.int p2), .val (.int (p1 &&& (2147483647 : Int32))), .val (.int (own_max (1 : Int32) (p2 &&& (2147483647 : Int32)))), .unset, .unset, .unset] [(.int (own_pad (p1 &&& (2147483647 : Int32)) (own_max (1 : Int32) (p2 &&& (2147483647 : Int32)))))]))
  replace e5 := e5.trans qe5
  refine go_istore K X5 #[.val (.int p1), .val (.int p2), .val (.int (p1 &&& (2147483647 : Int32))), .val (.int (own_max (1 : Int32) (p2 &&& (2147483647 : Int32)))), .val (.int (own_pad (p1 &&& (2147483647 : Int32)) (own_max (1 : Int32) (p2 &&& (2147483647 : Int32))))), .unset, .unset] at_19 rfl rfl ?_
  refine go_iload K X5 at_21 rfl rfl ?_
  refine go_ifF K X5 at_23 rfl (own_law1 p1 p2 : ¬ (own_pad (p1 &&& (2147483647 : Int32)) (own_max (1 : Int32) (p2 &&& (2147483647 : Int32)))) < (0 : Int32)) ?_
  refine go_iload K X5 at_26 rfl rfl ?_
  refine go_iloadN K X5 at_28 rfl rfl ?_
  refine go_icmpT K X5 at_29 (by decide) rfl (own_law2 p1 p2 : (own_pad (p1 &&& (2147483647 : Int32)) (own_max (1 : Int32) (p2 &&& (2147483647 : Int32)))) < (own_max (1 : Int32) (p2 &&& (2147483647 : Int32)))) ?_
  refine go_iloadN K X5 at_34 rfl rfl ?_
  refine go_i2l K X5 at_35 rfl ?_
  refine go_iload K X5 at_36 rfl rfl ?_
  refine go_i2l K X5 at_38 rfl ?_
  refine go_ladd K X5 at_39 rfl ?_
  refine go_lstore K X5 #[.val (.int p1), .val (.int p2), .val (.int (p1 &&& (2147483647 : Int32))), .val (.int (own_max (1 : Int32) (p2 &&& (2147483647 : Int32)))), .val (.int (own_pad (p1 &&& (2147483647 : Int32)) (own_max (1 : Int32) (p2 &&& (2147483647 : Int32))))), .val (.long (((p1 &&& (2147483647 : Int32)).toInt64) + ((own_pad (p1 &&& (2147483647 : Int32)) (own_max (1 : Int32) (p2 &&& (2147483647 : Int32)))).toInt64))), .second] at_40 rfl rfl ?_
  refine go_lload K X5 at_42 rfl rfl ?_
  refine go_iloadN K X5 at_44 rfl rfl ?_
  refine go_i2l K X5 at_45 rfl ?_
  refine go_lrem K X5 at_46 (own_law3 p1 p2) rfl ?_
  refine go_lconst K X5 (0 : Int64) at_47 rfl rfl ?_
  refine go_lifF K X5 at_48 rfl at_49 rfl (own_law4 p1 p2 : ((((p1 &&& (2147483647 : Int32)).toInt64) + ((own_pad (p1 &&& (2147483647 : Int32)) (own_max (1 : Int32) (p2 &&& (2147483647 : Int32)))).toInt64)) - ((((p1 &&& (2147483647 : Int32)).toInt64) + ((own_pad (p1 &&& (2147483647 : Int32)) (own_max (1 : Int32) (p2 &&& (2147483647 : Int32)))).toInt64)) / ((own_max (1 : Int32) (p2 &&& (2147483647 : Int32))).toInt64)) * ((own_max (1 : Int32) (p2 &&& (2147483647 : Int32))).toInt64)) = (0 : Int64)) ?_
  refine go_iconst K X5 (1 : Int32) at_52 rfl rfl ?_
  refine go_goto K X5 at_53 (by decide) rfl ?_
  refine go_retZ K X5 (Or.inr rfl) at_57 (by decide) (by decide) ?_
  rw [e5]
  exact ⟨rfl, rfl⟩
set_option maxRecDepth 65536 in
set_option maxHeartbeats 40000000 in
theorem comes_1 {Post : Tables → Env → Array Value → State → Outcome → State → Prop} (hpost : ∀ tb e args s v u, (limb_1_1.after args s (.returned v) u = true ∧ limb_1_2.after args s (.returned v) u = true ∧ True) → FrameEnd s (.returned v) u (Jvm.fieldLocs frame_1_writes args s ++ Jvm.arrayLocs frame_1_arrays args s ++ Jvm.staticLocs frame_1_statics s) 0 0 → Post tb e args s (.returned v) u) :
    ArmFor flags0 classFile x code maxLocals ret World_1 tables_1 room_1 Calls_1 rest_1 Pre_1 Post := by
  intro l hfl _ _ p e ha hc hk s m args below hf hA hF happ hP
  obtain ⟨hcalls, hrest, hpre⟩ := hP
  obtain ⟨-, -, -, hnamed, -, -, -, hat⟩ := (Spec.applies_iff hf).mp happ
  obtain ⟨hg, hn⟩ := and_e (Cond.before_iff.mp (show (Jvm.Cond.and given_1 narrow_1).before args s = true from hpre))
  obtain ⟨g1, g2⟩ := and_e hg
  obtain ⟨g3, g4⟩ := and_e g2
  obtain ⟨w0, w1, rfl⟩ : ∃ w0 w1 : Value, args = #[w0, w1] := by
    have hs : args.size = 2 := by simpa [Cond.value, given_1] using g1
    obtain ⟨L⟩ := args
    match L, hs with
    | [w0, w1], _ => exact ⟨w0, w1, rfl⟩
  have hw := fun d (hd : d ∈ tables_1) => atoms_spec (ws := Jvm.Cond.code x code maxLocals ret :: tables_1) hat d (List.mem_cons_of_mem _ hd)
  have hfit : Fit s := fun {y c} hc i hi => by
    obtain ⟨ha, rfl⟩ := Array.getElem?_eq_some_iff.mp hc
    have q := List.all_eq_true.mp ((Array.all_eq_true_iff_forall_mem.mp hF) _ (Array.getElem_mem ha)) i (List.mem_range.mpr hi)
    simpa [Array.getElem?_eq_getElem hi] using q
  obtain ⟨i0, ei0⟩ := is_v g3
  obtain rfl : w0 = (.int i0) := Option.some.inj ei0
  obtain ⟨i1, ei1⟩ := is_v g4
  obtain rfl : w1 = (.int i1) := Option.some.inj ei1
  obtain ⟨n, o, h1, h2, h3, _, L, rfl, ⟨⟨rfl, -⟩, N⟩, hq⟩ := rmLaw (l := l) (n0 := s.heap.size) hw i0 i1 s.heap  tables_1 p e ha hc hk s m _ below hf ((Spec.applies_iff_loose hf).mp happ).1 ⟨rfl, State.Warmed39.refl s, rfl⟩ trivial
  refine ⟨n, _, h1, h2, h3, hpost _ _ _ _ _ _ ⟨Cond.after_iff.mpr rfl, Cond.after_iff.mpr (eq_i res_at (Term.int_eval (1)) rfl), trivial⟩ ⟨hq.1, hq.2.1, (hq.2.2.sift fun y hy => Or.inr (N y hy)).mono (by decide) (by decide)⟩⟩
theorem main_1_1 : Claimed_1_1 := comes_1 fun _ _ _ _ _ _ h hF => ⟨h.1, hF⟩
theorem main_1_2 : Claimed_1_2 := comes_1 fun _ _ _ _ _ _ h hF => ⟨h.2.1, hF⟩
end Jvm.Pilot.@@N@@
namespace Jvm.Pilot.@@N@@
open Jvm Jvm.ClassFile Sem Op Lib Jvm.Free Jvm.Stand Jvm.Pilot.@@N@@.Jvm.D
/-! MADE BY PROGRAM (witnessworld.py) out of the Statement's table words and the real class files: 11 classes; the members and pool entries that the words name. The judged class is class 1, her method 1. -/
namespace start1
open Jvm.ClassFile
def u (s : String) : CpInfo := .utf8 (stringToUtf16 s)
/-- a pool by its gaps: so many unusable entries, then the entry; so many at the end -/
def gap : Nat → List CpInfo → List CpInfo
  | 0, r => r
  | n + 1, r => .unusable :: gap n r
def poolList (es : List (Nat × CpInfo)) (last : Nat) : List CpInfo := es.foldr (fun e r => gap e.1 (e.2 :: r)) (gap last [])
def pool (es : List (Nat × CpInfo)) (last : Nat) : Array CpInfo := ⟨poolList es last⟩
def fileOf (pool : Array CpInfo) (this : Nat) (attrs : Array Attribute := #[]) (ms : Array MethodInfo := #[]) (fl : Nat := 33) (sup : Nat := 0) (ifs : Array Nat := #[]) (fds : Array FieldInfo := #[]) : ClassFile where
  minorVersion := 0
  majorVersion := 65
  constantPool := pool
  accessFlags := fl
  thisClass := this
  superClass := sup
  interfaces := ifs
  fields := fds
  methods := ms
  attributes := attrs
def plain (name : String) (sup : Option ClassId) : Class where
  name := name
  kind := .ordinary
  loader := none
  accessFlags := 33
  super := sup
  interfaces := #[]
  cf := none
  fields := #[]
  methods := #[]
  instanceTypes := #[]
  staticTypes := #[]
  resolved := #[]
  callSites := []
  init := .initialized
  statics := none
  mirror := none

def pool0 : Array CpInfo := pool [(5, u "<init>"), (0, u "()V"), (1, .class_ 10), (1, u "java/lang/Object")] 113

def k0m0 : Method := { name := "<init>", desc := "()V", sig := { parameters := [], returnType := none }, accessFlags := 1, code := none }
/-- java/lang/Object -/
def k0 : Class := { plain "java/lang/Object" none with
  accessFlags := 33
  interfaces := #[]
  cf := some (fileOf pool0 8 #[] #[{ accessFlags := 1, nameIndex := 5, descriptorIndex := 6, attributes := #[] }] 33 0 #[] #[])
  fields := #[]
  methods := #[k0m0]
  instanceTypes := #[]
  staticTypes := #[]
  resolved := Array.replicate 124 none
  statics := none }

def pool1 : Array CpInfo := pool [(2, .class_ 4), (1, u "java/lang/Object"), (0, u "<init>"), (0, u "()V"), (0, .integer 2147483647), (0, .methodref 9 10), (0, .class_ 11), (0, .nameAndType 12 13), (0, u "java/lang/Math"), (0, u "max"), (0, u "(II)I"), (0, .methodref 15 16), (0, .class_ 17), (0, .nameAndType 18 13), (0, u "com/example/bytemold/bytemold/LayoutField"), (0, u "padding"), (0, .class_ 20), (0, u "com/example/bytemold/bytemold/LayoutFieldPaddingPinLaw"), (2, u "law"), (0, u "(II)Z")] 3

def k1m0 : Method := { name := "<init>", desc := "()V", sig := { parameters := [], returnType := none }, accessFlags := 1, code := none }
def k1c1 : Code := { maxStack := 4, maxLocals := 7, code := code, exceptionTable := #[], attributes := #[] }
def k1m1 : Method := { name := "law", desc := "(II)Z", sig := { parameters := [.int, .int], returnType := some .boolean }, accessFlags := 9, code := some k1c1 }
/-- com/example/bytemold/bytemold/LayoutFieldPaddingPinLaw -/
def k1 : Class := { plain "com/example/bytemold/bytemold/LayoutFieldPaddingPinLaw" (some 0) with
  accessFlags := 49
  interfaces := #[]
  cf := some (fileOf pool1 19 #[] #[{ accessFlags := 1, nameIndex := 5, descriptorIndex := 6, attributes := #[] }, { accessFlags := 9, nameIndex := 23, descriptorIndex := 24, attributes := #[] }] 49 2 #[] #[])
  fields := #[]
  methods := #[k1m0, k1m1]
  instanceTypes := #[]
  staticTypes := #[]
  resolved := Array.replicate 28 none
  statics := none }

def pool2 : Array CpInfo := pool [(1, .class_ 2), (0, u "java/lang/Math"), (1, .class_ 6), (1, u "java/lang/Object"), (0, u "<init>"), (0, u "()V"), (89, .class_ 100), (1, u "java/lang/Math$RandomNumberGeneratorHolder"), (71, u "negativeZeroFloatBits"), (0, u "J"), (2, u "negativeZeroDoubleBits"), (21, u "max"), (46, u "$assertionsDisabled"), (0, u "Z"), (88, u "(II)I"), (2, u "twoToTheDoubleScaleDown"), (0, u "D"), (4, u "twoToTheDoubleScaleUp"), (9, u "E"), (3, u "PI"), (2, u "TAU"), (2, u "DEGREES_TO_RADIANS"), (0, u "RADIANS_TO_DEGREES")] 94

def k2m0 : Method := { name := "<init>", desc := "()V", sig := { parameters := [], returnType := none }, accessFlags := 2, code := none }
def k2c1 : Code := { maxStack := 2, maxLocals := 2, code := jdk_29_method_65_code, exceptionTable := #[], attributes := #[] }
def k2m1 : Method := { name := "max", desc := "(II)I", sig := { parameters := [.int, .int], returnType := some .int }, accessFlags := 9, code := some k2c1 }
/-- java/lang/Math -/
def k2 : Class := { plain "java/lang/Math" (some 0) with
  accessFlags := 49
  interfaces := #[]
  cf := some (fileOf pool2 1 #[.nestMembers #[98]] #[{ accessFlags := 2, nameIndex := 7, descriptorIndex := 8, attributes := #[] }, { accessFlags := 9, nameIndex := 198, descriptorIndex := 335, attributes := #[] }] 49 4 #[] #[{ accessFlags := 25, nameIndex := 354, descriptorIndex := 339, attributes := #[] }, { accessFlags := 25, nameIndex := 358, descriptorIndex := 339, attributes := #[] }, { accessFlags := 25, nameIndex := 361, descriptorIndex := 339, attributes := #[] }, { accessFlags := 26, nameIndex := 364, descriptorIndex := 339, attributes := #[] }, { accessFlags := 26, nameIndex := 365, descriptorIndex := 339, attributes := #[] }, { accessFlags := 26, nameIndex := 172, descriptorIndex := 173, attributes := #[] }, { accessFlags := 26, nameIndex := 176, descriptorIndex := 173, attributes := #[] }, { accessFlags := 8, nameIndex := 344, descriptorIndex := 339, attributes := #[] }, { accessFlags := 8, nameIndex := 338, descriptorIndex := 339, attributes := #[] }, { accessFlags := 4120, nameIndex := 245, descriptorIndex := 246, attributes := #[] }])
  fields := #[{ name := "E", type := .double, accessFlags := 25, slot := 0, constantValue := 0 }, { name := "PI", type := .double, accessFlags := 25, slot := 1, constantValue := 0 }, { name := "TAU", type := .double, accessFlags := 25, slot := 2, constantValue := 0 }, { name := "DEGREES_TO_RADIANS", type := .double, accessFlags := 26, slot := 3, constantValue := 0 }, { name := "RADIANS_TO_DEGREES", type := .double, accessFlags := 26, slot := 4, constantValue := 0 }, { name := "negativeZeroFloatBits", type := .long, accessFlags := 26, slot := 5, constantValue := 0 }, { name := "negativeZeroDoubleBits", type := .long, accessFlags := 26, slot := 6, constantValue := 0 }, { name := "twoToTheDoubleScaleUp", type := .double, accessFlags := 8, slot := 7, constantValue := 0 }, { name := "twoToTheDoubleScaleDown", type := .double, accessFlags := 8, slot := 8, constantValue := 0 }, { name := "$assertionsDisabled", type := .boolean, accessFlags := 4120, slot := 9, constantValue := 0 }]
  methods := #[k2m0, k2m1]
  instanceTypes := #[]
  staticTypes := #[.double, .double, .double, .double, .double, .long, .long, .double, .double, .boolean]
  resolved := Array.replicate 460 none
  statics := none }

def pool3 : Array CpInfo := pool [(2, .class_ 4), (1, u "java/lang/Object"), (0, u "<init>"), (0, u "()V"), (0, .class_ 8), (0, u "java/lang/Record")] 13

def k3m0 : Method := { name := "<init>", desc := "()V", sig := { parameters := [], returnType := none }, accessFlags := 4, code := none }
/-- java/lang/Record -/
def k3 : Class := { plain "java/lang/Record" (some 0) with
  accessFlags := 1057
  interfaces := #[]
  cf := some (fileOf pool3 7 #[] #[{ accessFlags := 4, nameIndex := 5, descriptorIndex := 6, attributes := #[] }] 1057 2 #[] #[])
  fields := #[]
  methods := #[k3m0]
  instanceTypes := #[]
  staticTypes := #[]
  resolved := Array.replicate 22 none
  statics := none }

def pool4 : Array CpInfo := pool [(2, .class_ 4), (1, u "java/lang/Record"), (3, .class_ 10), (1, u "com/example/bytemold/bytemold/LayoutField"), (0, u "name"), (0, u "Ljava/lang/String;"), (2, u "codec"), (0, u "Lcom/example/bytemold/bytemold/ValueCodec;"), (2, u "integer"), (0, u "Lcom/example/bytemold/bytemold/IntBits;"), (2, u "link"), (0, u "Lcom/example/bytemold/bytemold/LayoutField$Link;"), (2, u "trailing"), (0, u "I"), (2, u "wholeSize"), (0, u "Z"), (2, u "padTo"), (2, u "pad"), (0, u "B"), (10, u "padding"), (3, u "(II)I"), (30, .class_ 86), (0, u "com/example/bytemold/bytemold/LayoutField$Link")] 26

def k4c0 : Code := { maxStack := 2, maxLocals := 3, code := prog_69_method_5_code, exceptionTable := #[], attributes := #[] }
def k4m0 : Method := { name := "padding", desc := "(II)I", sig := { parameters := [.int, .int], returnType := some .int }, accessFlags := 8, code := some k4c0 }
/-- com/example/bytemold/bytemold/LayoutField -/
def k4 : Class := { plain "com/example/bytemold/bytemold/LayoutField" (some 3) with
  accessFlags := 48
  interfaces := #[]
  cf := some (fileOf pool4 8 #[.nestMembers #[85]] #[{ accessFlags := 8, nameIndex := 50, descriptorIndex := 54, attributes := #[] }] 48 2 #[] #[{ accessFlags := 18, nameIndex := 11, descriptorIndex := 12, attributes := #[] }, { accessFlags := 18, nameIndex := 15, descriptorIndex := 16, attributes := #[] }, { accessFlags := 18, nameIndex := 19, descriptorIndex := 20, attributes := #[] }, { accessFlags := 18, nameIndex := 23, descriptorIndex := 24, attributes := #[] }, { accessFlags := 18, nameIndex := 27, descriptorIndex := 28, attributes := #[] }, { accessFlags := 18, nameIndex := 31, descriptorIndex := 32, attributes := #[] }, { accessFlags := 18, nameIndex := 35, descriptorIndex := 28, attributes := #[] }, { accessFlags := 18, nameIndex := 38, descriptorIndex := 39, attributes := #[] }])
  fields := #[{ name := "name", type := (.object "java/lang/String"), accessFlags := 18, slot := 0, constantValue := 0 }, { name := "codec", type := (.object "com/example/bytemold/bytemold/ValueCodec"), accessFlags := 18, slot := 1, constantValue := 0 }, { name := "integer", type := (.object "com/example/bytemold/bytemold/IntBits"), accessFlags := 18, slot := 2, constantValue := 0 }, { name := "link", type := (.object "com/example/bytemold/bytemold/LayoutField$Link"), accessFlags := 18, slot := 3, constantValue := 0 }, { name := "trailing", type := .int, accessFlags := 18, slot := 4, constantValue := 0 }, { name := "wholeSize", type := .boolean, accessFlags := 18, slot := 5, constantValue := 0 }, { name := "padTo", type := .int, accessFlags := 18, slot := 6, constantValue := 0 }, { name := "pad", type := .byte, accessFlags := 18, slot := 7, constantValue := 0 }]
  methods := #[k4m0]
  instanceTypes := #[(.object "java/lang/String"), (.object "com/example/bytemold/bytemold/ValueCodec"), (.object "com/example/bytemold/bytemold/IntBits"), (.object "com/example/bytemold/bytemold/LayoutField$Link"), .int, .boolean, .int, .byte]
  staticTypes := #[]
  resolved := Array.replicate 113 none
  statics := none }

def pool5 : Array CpInfo := pool [(1, u "java/lang/Cloneable"), (0, .class_ 1), (0, u "java/lang/Object"), (0, .class_ 3)] 3

/-- java/lang/Cloneable -/
def k5 : Class := { plain "java/lang/Cloneable" (some 0) with
  accessFlags := 1537
  interfaces := #[]
  cf := some (fileOf pool5 2 #[] #[] 1537 4 #[] #[])
  fields := #[]
  methods := #[]
  instanceTypes := #[]
  staticTypes := #[]
  resolved := Array.replicate 8 none
  statics := none }

def pool6 : Array CpInfo := pool [(1, u "java/io/Serializable"), (0, .class_ 1), (0, u "java/lang/Object"), (0, .class_ 3)] 3

/-- java/io/Serializable -/
def k6 : Class := { plain "java/io/Serializable" (some 0) with
  accessFlags := 1537
  interfaces := #[]
  cf := some (fileOf pool6 2 #[] #[] 1537 4 #[] #[])
  fields := #[]
  methods := #[]
  instanceTypes := #[]
  staticTypes := #[]
  resolved := Array.replicate 8 none
  statics := none }

/-- the primitive byte -/
def k7 : Class := { plain "byte" none with kind := .primitive 'B', accessFlags := 0x411 }
/-- [B -/
def k8 : Class := { plain "[B" (some 0) with kind := .array 7 .byte, interfaces := #[5, 6], accessFlags := 1041 }

/-- the primitive int -/
def k9 : Class := { plain "int" none with kind := .primitive 'I', accessFlags := 0x411 }
/-- [I -/
def k10 : Class := { plain "[I" (some 0) with kind := .array 9 .int, interfaces := #[5, 6], accessFlags := 1041 }

def heap : Heap := #[]
def classes : Array Class := #[k0, k1, k2, k3, k4, k5, k6, k7, k8, k9, k10]
def interned : List (Array UInt16 × Addr) := []
def slotsUsed : Nat := 0
def theMethod : MethodId := ⟨1, 1⟩
def args0 : Array Value := #[.int 5, .int 7]
def aboutOver (below : List Frame) : State where
  vm := { classes := classes, interned := interned.toArray }
  heap := heap
  slotsUsed := slotsUsed
  threads := #[{ frames := .invoking theMethod args0 :: below }]
def below0 : List Frame := [.native { method := ⟨0, 0⟩, args := #[] }]
def about1 : State := aboutOver below0
def p0 : Program := .bare "" "" ""
def e0 : Env := launch0.env 0 0 0
theorem w_frames : about1.frames = Frame.invoking theMethod args0 :: below0 := rfl
set_option maxRecDepth 65536 in
theorem w_args : argsFit about1.vm theMethod args0 = true := by decide +kernel
set_option maxRecDepth 65536 in
theorem w_heap : heapFits about1 = true := by decide +kernel
set_option maxRecDepth 65536 in
theorem w_runnable : about1.curStatus? = some .runnable := by decide +kernel
set_option maxRecDepth 65536 in
theorem w_alone : about1.alone = true := by decide +kernel
set_option maxRecDepth 65536 in
theorem w_named : about1.methodNamed? x = some theMethod := by decide +kernel
set_option maxRecDepth 65536 in
theorem w_hears : about1.hears theMethod below0 = true := by decide +kernel
set_option maxRecDepth 65536 in
theorem w_ripe : about1.ripe theMethod args0 below0 = true := by decide +kernel
theorem w_running : about1.status = .running := rfl
set_option maxRecDepth 65536 in
theorem w_room : about1.hasRoom e0.platform room_1 = true :=
  launch0.hasRoom_least _ room_1 (by decide +kernel) (by decide +kernel) (by decide +kernel) (by decide +kernel) (by decide +kernel) (by decide +kernel)
theorem allAtoms_all (ts : List Jvm.Cond) (a : Array Jvm.Value) (st : Jvm.State) : (allAtoms ts).before a st = ts.all (fun c => c.before a st) := by
  induction ts with
  | nil => rfl
  | cons c t ih =>
    show (Jvm.Cond.and c (allAtoms t)).before a st = _
    rw [Jvm.Cond.before_and, ih, List.all_cons]
def words1 : List Jvm.Cond := Jvm.Cond.code x code maxLocals ret :: tables_1
/-- a 'code' word, met by the world's own term for the bytes: nothing is compared byte by byte -/
theorem code_word {y : MethodName} {bytes : ByteArray} {mx : Nat} {rt : Option FieldType} {a : Array Value} {s : State} {m : MethodId} {meth : Method} {c : Code} (h1 : s.methodNamed? y = some m) (h2 : s.vm.method? m = some meth) (h3 : meth.code = some c) (h4 : c.code = bytes)
    (h5 : (c.maxLocals == mx && c.exceptionTable.isEmpty && decide (c.maxStack ≤ mostOperands) && decide (meth.sig.returnType = rt) && !meth.locks && decide (parseMethodDescriptor y.desc = some meth.sig)) = true) : (Jvm.Cond.code y bytes mx rt).before a s = true := by
  simp only [Bool.and_eq_true, beq_iff_eq, Bool.not_eq_true', decide_eq_true_eq] at h5
  obtain ⟨⟨⟨⟨⟨g1, g2⟩, g3⟩, g4⟩, g5⟩, g6⟩ := h5
  simp [Cond.before, Cond.holds, Cond.value, h1, h2, h3, h4, g1, g2, g3, g4, g5, g6]
def isCode : Jvm.Cond → Bool
  | .code _ _ _ _ => true
  | _ => false
theorem all_split {L : List Jvm.Cond} {P : Jvm.Cond → Bool} (h1 : L.all (fun c => isCode c || P c) = true) (h2 : ∀ c ∈ L.filter isCode, P c = true) : L.all P = true := by
  refine List.all_eq_true.mpr fun c hc => ?_
  have h := List.all_eq_true.mp h1 c hc
  rcases Bool.eq_false_or_eq_true (isCode c) with hi | hi
  · exact h2 c (List.mem_filter.mpr ⟨hc, hi⟩)
  · simpa [hi] using h
set_option maxRecDepth 65536 in
theorem w_c0 : (Jvm.Cond.code x code maxLocals ret).before args0 about1 = true := code_word (m := ⟨1, 1⟩) (meth := k1m1) (c := k1c1) (by decide +kernel) rfl rfl rfl (by decide +kernel)
set_option maxRecDepth 65536 in
theorem w_c1 : (Jvm.Cond.code ({ cls := "java/lang/Math", name := "max", desc := "(II)I" } : Jvm.MethodName) jdk_29_method_65_code (2 : Nat) (Option.some Jvm.ClassFile.FieldType.int)).before args0 about1 = true := code_word (m := ⟨2, 1⟩) (meth := k2m1) (c := k2c1) (by decide +kernel) rfl rfl rfl (by decide +kernel)
set_option maxRecDepth 65536 in
theorem w_c2 : (Jvm.Cond.code ({ cls := "com/example/bytemold/bytemold/LayoutField", name := "padding", desc := "(II)I" } : Jvm.MethodName) prog_69_method_5_code (3 : Nat) (Option.some Jvm.ClassFile.FieldType.int)).before args0 about1 = true := code_word (m := ⟨4, 0⟩) (meth := k4m0) (c := k4c0) (by decide +kernel) rfl rfl rfl (by decide +kernel)
def codes1 : List Jvm.Cond := [Jvm.Cond.code x code maxLocals ret, Jvm.Cond.code ({ cls := "java/lang/Math", name := "max", desc := "(II)I" } : Jvm.MethodName) jdk_29_method_65_code (2 : Nat) (Option.some Jvm.ClassFile.FieldType.int), Jvm.Cond.code ({ cls := "com/example/bytemold/bytemold/LayoutField", name := "padding", desc := "(II)I" } : Jvm.MethodName) prog_69_method_5_code (3 : Nat) (Option.some Jvm.ClassFile.FieldType.int)]
set_option maxRecDepth 65536 in
theorem codes_eq : words1.filter isCode = codes1 := rfl
theorem w_codes : ∀ c ∈ words1.filter isCode, c.before args0 about1 = true := by
  rw [codes_eq]
  intro c hc
  simp only [codes1, List.mem_cons, List.not_mem_nil, or_false] at hc
  rcases hc with rfl | rfl | rfl
  · exact w_c0
  · exact w_c1
  · exact w_c2
set_option maxRecDepth 65536 in
theorem w_t1 : words1.all (fun c => isCode c || c.before args0 about1) = true := by decide +kernel
theorem w_tables : (allAtoms (Jvm.Cond.code x code maxLocals ret :: tables_1)).before args0 about1 = true := by
  rw [allAtoms_all]
  show words1.all (fun c => c.before args0 about1) = true
  refine all_split ?_ w_codes
  rw [w_t1]
set_option maxRecDepth 65536 in
theorem w_case : (Jvm.Cond.and given_1 narrow_1).before args0 about1 = true := by decide +kernel
theorem w_applies : (headSpec (Jvm.Cond.code x code maxLocals ret :: tables_1) room_1).applies x e0.platform about1 = true :=
  (Spec.applies_iff w_frames).mpr ⟨w_running, w_runnable, w_alone, w_named, w_hears, w_ripe, w_room, w_tables⟩
theorem atStart : AtStart classFile x code maxLocals ret World_1 tables_1 room_1 Calls_1 rest_1 Pre_1 launch0 p0 e0 about1 theMethod args0 below0 :=
  ⟨lists_1, trivial, launch0.admits_env _ _ _, launch0.least_env, fairChoices_fair.cas, fairChoices_fair.clock, w_frames, w_args, w_heap, w_applies, trivial, trivial, w_case⟩
end start1
theorem witness_1 : WitnessClaimed_1 := ⟨start1.p0, start1.e0, start1.about1, start1.theMethod, start1.args0, start1.below0, start1.atStart⟩
end Jvm.Pilot.@@N@@
